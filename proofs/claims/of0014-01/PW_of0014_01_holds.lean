import PyProof.Rows.All
import Wide.All
import OpenK.AllK
import Wide.FinOn
import PySem.Challenge.RW_of0014_01
open PySem PySem.W PyProof.Rows PySem.Calls
set_option Elab.async false
set_option maxRecDepth 100000
set_option compiler.extract_closed false
namespace Mine
/-- what stands at an address of the call's own -/
inductive Ent where
  | ns (m : Str → Option Value)
  | lst (vs : List Value)
  | tup (vs : List Value)
  | cel (v : Option Value)
  | raw (o : Obj)
  | sat (p : Obj → Prop)
def Ent.is : Ent → Obj → Prop
  | .ns m, o => ∃ es ep, o.data = .dict es ep ∧ StrKeys es ∧ ∀ name, nsFind es name = m name
  | .lst vs, o => ∃ n, o = W.listOf vs.toArray n
  | .tup vs, o => ∃ n, o = { cls := .type "tuple", data := .seq vs.toArray n }
  | .cel v, o => o.data = .cell v
  | .raw o', o => o = o'
  | .sat p, o => p o
def At (h : Heap) (a : Addr) (e : Ent) : Prop := ∃ o, h.get? a = some o ∧ e.is o
abbrev Led := List (Addr × Ent)
structure St (σ : Shared) (h₀ : Heap) (N : Led) (s : Shared) : Prop where
  keep : ∀ b o, h₀.get? b = some o → s.heap.get? b = some o
  led : ∀ p ∈ N, At s.heap p.1 p.2 ∧ h₀.get? p.1 = none
  nd : (N.map (·.1)).Nodup
  gens : s.gens = σ.gens
  drawn : s.drawn = σ.drawn
  os : s.os = σ.os
/-- the entry of a in N is e; g e' is N with e' in its place -/
def Put (a : Addr) (e : Ent) (N : Led) (g : Ent → Led) : Prop := ∃ pre post : Led, N = pre ++ (a, e) :: post ∧ g = fun e' => pre ++ (a, e') :: post
theorem Put.head {a e R} : Put a e ((a, e) :: R) (fun e' => (a, e') :: R) := ⟨[], R, rfl, rfl⟩
theorem Put.tail {a e p N g} (h : Put a e N g) : Put a e (p :: N) (fun e' => p :: g e') := by
  obtain ⟨pre, post, rfl, rfl⟩ := h
  exact ⟨p :: pre, post, rfl, rfl⟩
theorem Put.mem {a e N g} (h : Put a e N g) : (a, e) ∈ N := by
  obtain ⟨pre, post, rfl, rfl⟩ := h; simp
theorem Put.self {a e N g} (h : Put a e N g) : g e = N := by
  obtain ⟨pre, post, rfl, rfl⟩ := h; rfl
theorem Put.again {a e N g} (h : Put a e N g) (e' : Ent) : Put a e' (g e') g := by
  obtain ⟨pre, post, rfl, rfl⟩ := h; exact ⟨pre, post, rfl, rfl⟩
theorem Put.keys {a e N g} (h : Put a e N g) (e' : Ent) : (g e').map (·.1) = N.map (·.1) := by
  obtain ⟨pre, post, rfl, rfl⟩ := h; simp
theorem Put.other {a e N g} (h : Put a e N g) {b : Addr} {eb : Ent} (hb : (b, eb) ∈ N) (hne : b ≠ a) (e' : Ent) : (b, eb) ∈ g e' := by
  obtain ⟨pre, post, rfl, rfl⟩ := h
  simp only [List.mem_append, List.mem_cons] at hb ⊢
  rcases hb with hb | hb | hb
  · exact .inl hb
  · cases hb; exact absurd rfl hne
  · exact .inr (.inr hb)
section
variable {σ : Shared} {h₀ : Heap} {N : Led} {s : Shared}
theorem St.at (S : St σ h₀ N s) {a : Addr} {e : Ent} (h : (a, e) ∈ N) : At s.heap a e := (S.led _ h).1
theorem St.ns (S : St σ h₀ N s) {a : Addr} {m : Str → Option Value} (h : (a, .ns m) ∈ N) : s.heap.Ns a m := by
  obtain ⟨o, ho, es, ep, h1, h2, h3⟩ := S.at h
  exact ⟨o, es, ep, ho, h1, h2, h3⟩
theorem St.lst (S : St σ h₀ N s) {a : Addr} {vs : List Value} (h : (a, .lst vs) ∈ N) : ∃ n, s.heap.get? a = some (W.listOf vs.toArray n) := by
  obtain ⟨o, ho, n, rfl⟩ := S.at h
  exact ⟨n, ho⟩
theorem St.isList (S : St σ h₀ N s) {a : Addr} {vs : List Value} (h : (a, .lst vs) ∈ N) : s.heap.IsList a vs.toArray := by
  obtain ⟨n, ho⟩ := S.lst h
  exact PySem.IsL.isList (n := n) ho
theorem St.tup (S : St σ h₀ N s) {a : Addr} {vs : List Value} (h : (a, .tup vs) ∈ N) : IsTup s.heap a vs.toArray := by
  obtain ⟨o, ho, n, rfl⟩ := S.at h
  exact ⟨_, ho, rfl, n, rfl⟩
theorem St.cel (S : St σ h₀ N s) {a : Addr} {v : Option Value} (h : (a, .cel v) ∈ N) : s.heap.IsCell a v := by
  obtain ⟨o, ho, hd⟩ := S.at h
  exact ⟨o, ho, hd⟩
theorem St.raw (S : St σ h₀ N s) {a : Addr} {o : Obj} (h : (a, .raw o) ∈ N) : s.heap.get? a = some o := by
  obtain ⟨o', ho, rfl⟩ := S.at h
  exact ho
/-- an object of the ledger has changed -/
theorem St.put (S : St σ h₀ N s) {a : Addr} {e e' : Ent} {g : Ent → Led} (P : Put a e N g) {h' : Heap} {tk : Nat} (hs : Heap.SameBut a s.heap h') (ha : At h' a e') :
    St σ h₀ (g e') { s with heap := h', toks := tk } := by
  have hka : h₀.get? a = none := (S.led _ P.mem).2
  refine ⟨fun b o e => ?_, ?_, by rw [P.keys]; exact S.nd, S.gens, S.drawn, S.os⟩
  · have : b ≠ a := by rintro rfl; rw [hka] at e; cases e
    exact (hs.2 b this).trans (S.keep b o e)
  · obtain ⟨pre, post, rfl, rfl⟩ := P
    have nd := S.nd
    rw [List.map_append, List.map_cons] at nd
    have nd1 := (List.nodup_append.mp nd)
    intro p hp
    rcases List.mem_append.mp hp with hp | hp
    · have hne : p.1 ≠ a := fun z => nd1.2.2 p.1 (List.mem_map_of_mem hp) a (.head _) z
      obtain ⟨⟨o, ho, hi⟩, hz⟩ := S.led p (List.mem_append.mpr (.inl hp))
      exact ⟨⟨o, (hs.2 _ hne).trans ho, hi⟩, hz⟩
    · rcases List.mem_cons.mp hp with rfl | hp
      · exact ⟨ha, hka⟩
      · have hne : p.1 ≠ a := fun z => by
          have q : p.1 ∈ post.map (·.1) := List.mem_map_of_mem hp
          rw [z] at q
          exact (List.nodup_cons.mp nd1.2.1).1 q
        obtain ⟨⟨o, ho, hi⟩, hz⟩ := S.led p (List.mem_append.mpr (.inr (.tail _ hp)))
        exact ⟨⟨o, (hs.2 _ hne).trans ho, hi⟩, hz⟩
/-- the heap has grown -/
theorem St.ext (S : St σ h₀ N s) {h' : Heap} {tk : Nat} (hk : ∀ b o, s.heap.get? b = some o → h'.get? b = some o) : St σ h₀ N { s with heap := h', toks := tk } :=
  ⟨fun b o e => hk b o (S.keep b o e), fun p hp => let ⟨⟨o, ho, hi⟩, hz⟩ := S.led p hp; ⟨⟨o, hk _ _ ho, hi⟩, hz⟩, S.nd, S.gens, S.drawn, S.os⟩
theorem St.tok (S : St σ h₀ N s) {tk : Nat} : St σ h₀ N { s with toks := tk } := ⟨S.keep, S.led, S.nd, S.gens, S.drawn, S.os⟩
theorem St.fresh (S : St σ h₀ N s) {a : Addr} (hn : s.heap.get? a = none) : a ∉ N.map (·.1) := by
  intro hm
  obtain ⟨p, hp, rfl⟩ := List.mem_map.mp hm
  obtain ⟨⟨o, ho, _⟩, _⟩ := S.led p hp
  rw [hn] at ho; cases ho
/-- a new object -/
theorem St.new (S : St σ h₀ N s) {h' : Heap} {tk : Nat} {a : Addr} {e : Ent} (hk : ∀ b o, s.heap.get? b = some o → h'.get? b = some o) (hn : s.heap.get? a = none) (ha : At h' a e) :
    St σ h₀ ((a, e) :: N) { s with heap := h', toks := tk } := by
  have E := S.ext (tk := tk) hk
  refine ⟨E.keep, fun p hp => ?_, ?_, E.gens, E.drawn, E.os⟩
  · rcases List.mem_cons.mp hp with rfl | hp
    · refine ⟨ha, ?_⟩
      cases q : h₀.get? a with
      | none => rfl
      | some o => have := S.keep a o q; rw [hn] at this; cases this
    · exact E.led p hp
  · rw [List.map_cons]
    exact List.nodup_cons.mpr ⟨S.fresh hn, S.nd⟩
theorem get?_size (h : Heap) : h.get? h.objs.size = none := by
  cases q : h.get? h.objs.size with
  | none => rfl
  | some o => exact absurd (Heap.lt_size q) (Nat.lt_irrefl _)
theorem St.push (S : St σ h₀ N s) {tk : Nat} {o : Obj} {e : Ent} (hf : o.isFreed = false) (hi : e.is o) :
    St σ h₀ ((s.heap.objs.size, e) :: N) { s with heap := s.heap.push o, toks := tk } :=
  S.new (fun _ _ e => Heap.get?_push_of_some _ e) (get?_size _) ⟨o, Heap.get?_push_size _ hf, hi⟩
/-- forget -/
theorem St.sub (S : St σ h₀ N s) {N' : Led} (h : N'.Sublist N) : St σ h₀ N' s :=
  ⟨S.keep, fun p hp => S.led p (h.subset hp), (h.map _).nodup S.nd, S.gens, S.drawn, S.os⟩
theorem St.perm (S : St σ h₀ N s) {N' : Led} (h : N'.Perm N) : St σ h₀ N' s :=
  ⟨S.keep, fun p hp => S.led p (h.subset hp), (h.map _).symm.nodup S.nd, S.gens, S.drawn, S.os⟩
theorem St.ne (S : St σ h₀ N s) {a b : Addr} {ea eb : Ent} {R : Led} (h : N = (a, ea) :: R) (hb : (b, eb) ∈ R) : b ≠ a := by
  rintro rfl
  have nd := S.nd
  rw [h, List.map_cons, List.nodup_cons] at nd
  exact nd.1 (List.mem_map_of_mem (f := (·.1)) hb)
end
structure Gl (mg mb : Str → Option Value) (h₀ : Heap) : Prop where
  g : h₀.Ns mainGlobals mg
  b : h₀.Ns builtinsNs mb
  bl : ∀ x : Str, x ≠ "__name__" → mb x = bootBuiltins x
  lim : h₀.NoLimit
/-- room for n frames more -/
structure Room (A : Around) (n : Nat) : Prop where
  h : A.handled = none
  d : A.depth + n < recursionLimit
  u : A.units + 4 * n + 40 < cLine
theorem Room.le {A : Around} {n m : Nat} (R : Room A n) (h : m ≤ n) : Room A m := ⟨R.h, by have := R.d; omega, by have := R.u; omega⟩
theorem Room.deeper {A : Around} {n : Nat} {env : Env} (R : Room A (n + 1)) : Room (A.deeper env) n :=
  ⟨R.h, by have := R.d; show A.depth + 1 + n < _; omega, by have := R.u; show A.units + 3 + 4 * n + 40 < _; omega⟩
theorem Room.room {A : Around} {n : Nat} (R : Room A n) : A.depth < recursionLimit := by have := R.d; omega
structure FnAt (h : Heap) (a : Addr) (name : Str) (params : Arguments) (body : List Stmt) (scope : Scope) : Prop where
  fn : ∃ o pm cd doc, h.get? a = some o ∧ o.data = .func (docDef name params body scope pm cd doc) ∧ h.CodeRec cd name
abbrev NoE : Value → Shared → Prop := fun _ _ => False
/-- what is wanted behind, out of sight -/
theorem hideQ {α : Type} {M : Model} {A : Around} {E : Value → Shared → Prop} {s : Shared} {t : Sem α} {Q : α → Shared → Prop} (h : ∀ Q' : α → Shared → Prop, (∀ f s, Q f s → Q' f s) → wpAny M A t Q' E s) : wpAny M A t Q E s := h Q fun _ _ q => q
section
variable {prog : Program} {w : World} {A : Around} {σ : Shared} {h₀ : Heap} {N : Led} {s : Shared} {env : Env} {E : Value → Shared → Prop} {mg mb : Str → Option Value}
theorem name_l {x : Str} {pos : Pos} {m : Str → Option Value} {v : Value} {L : Addr} {Q : Value → Shared → Prop} (S : St σ h₀ N s) (hm : (L, .ns m) ∈ N) (hv : m x = some v) (h : Q v s)
    (hk : env.scope.kind = .function := by rfl) (hl : env.kindOf x = some .local := by rfl) (hL : env.locals = L := by rfl) (hd : (x == ("__debug__" : Str)) = false := by decide) :
    wpAny (model prog w) A (eval (.Name x pos) env) Q E s := wpAny_Name (wpAny_loadName_local hk hl (by rw [hL]; exact S.ns hm) hv h) hd
theorem load_l {x : Str} {m : Str → Option Value} {v : Value} {L : Addr} {Q : Value → Shared → Prop} (S : St σ h₀ N s) (hm : (L, .ns m) ∈ N) (hv : m x = some v) (h : Q v s)
    (hk : env.scope.kind = .function := by rfl) (hl : env.kindOf x = some .local := by rfl) (hL : env.locals = L := by rfl) :
    wpAny (model prog w) A (loadName env x) Q E s := wpAny_loadName_local hk hl (by rw [hL]; exact S.ns hm) hv h
theorem name_c {x : Str} {pos : Pos} {v : Value} {c : Addr} {Q : Value → Shared → Prop} (S : St σ h₀ N s) (hc : env.cells.lookup x = some c) (hm : (c, .cel (some v)) ∈ N) (h : Q v s)
    (hk : env.scope.kind = .function := by rfl) (hl : env.kindOf x = some .cell := by rfl) (hd : (x == ("__debug__" : Str)) = false := by decide) :
    wpAny (model prog w) A (eval (.Name x pos) env) Q E s := wpAny_Name (wpAny_loadName_cell hk hl hc (S.cel hm) h) hd
theorem load_c {x : Str} {v : Value} {c : Addr} {Q : Value → Shared → Prop} (S : St σ h₀ N s) (hc : env.cells.lookup x = some c) (hm : (c, .cel (some v)) ∈ N) (h : Q v s)
    (hk : env.scope.kind = .function := by rfl) (hl : env.kindOf x = some .cell := by rfl) :
    wpAny (model prog w) A (loadName env x) Q E s := wpAny_loadName_cell hk hl hc (S.cel hm) h
theorem name_g {x : Str} {pos : Pos} {v : Value} {Q : Value → Shared → Prop} (S : St σ h₀ N s) (G : Gl mg mb h₀) (hv : mg x = some v) (h : Q v s)
    (hk : env.scope.kind = .function := by rfl) (hx : env.kindOf x = some .globalImplicit := by rfl) (hg : env.globals = mainGlobals := by rfl) (hd : (x == ("__debug__" : Str)) = false := by decide) :
    wpAny (model prog w) A (eval (.Name x pos) env) Q E s := Name_function_global hk hx (loadGlobal_global (by rw [hg]; exact G.g.keeps S.keep) hv h) hd
theorem name_b {x : Str} {pos : Pos} {v : Value} {Q : Value → Shared → Prop} (S : St σ h₀ N s) (G : Gl mg mb h₀) (hn : mg x = none) (hv : bootBuiltins x = some v) (h : Q v s)
    (hne : x ≠ "__name__" := by decide) (hk : env.scope.kind = .function := by rfl) (hx : env.kindOf x = some .globalImplicit := by rfl) (hg : env.globals = mainGlobals := by rfl) (hb : env.builtins = builtinsNs := by rfl) (hd : (x == ("__debug__" : Str)) = false := by decide) :
    wpAny (model prog w) A (eval (.Name x pos) env) Q E s :=
  Name_function_global hk hx (loadGlobal_builtin (by rw [hg]; exact G.g.keeps S.keep) hn (by rw [hb]; exact G.b.keeps S.keep) ((G.bl x hne).trans hv) h) hd
theorem store_l {x : Str} {v : Value} {m : Str → Option Value} {L : Addr} {g : Ent → Led} {Q : Unit → Shared → Prop} (S : St σ h₀ N s) (P : Put L (.ns m) N g)
    (h : ∀ s', St σ h₀ (g (.ns fun y => if y = x then some v else m y)) s' → Q () s') (hl : env.kindOf x = some .local := by rfl) (hL : env.locals = L := by rfl)
    (hp : (env.scope.kind == .class || (env.scope.kind == .module && env.locals != env.globals)) = false := by rfl) : wpAny (model prog w) A (storeName env x v) Q E s := by
  subst hL
  refine wpAny_storeName_local hl (S.ns P.mem) (fun h' hn hs => h _ (S.put P hs ?_)) hp
  obtain ⟨o, es, ep, h1, h2, h3, h4⟩ := hn
  exact ⟨o, h1, es, ep, h2, h3, h4⟩
theorem store_c {x : Str} {v : Value} {v₀ : Option Value} {c : Addr} {g : Ent → Led} {Q : Unit → Shared → Prop} (S : St σ h₀ N s) (hc : env.cells.lookup x = some c) (P : Put c (.cel v₀) N g)
    (h : ∀ s', St σ h₀ (g (.cel (some v))) s' → Q () s') (hk : env.scope.kind = .function := by rfl) (hl : env.kindOf x = some .cell := by rfl) : wpAny (model prog w) A (storeName env x v) Q E s := by
  refine wpAny_storeName_cell hk hl hc (S.cel P.mem) fun h' hn hs => h _ (S.put (tk := s.toks) P hs ?_)
  obtain ⟨o, h1, h2⟩ := hn
  exact ⟨o, h1, h2⟩
theorem const_i {i : Int} {k : Nat} {pos : Pos} {Q : Value → Shared → Prop} (S : St σ h₀ N s) (h : ∀ s' t, St σ h₀ N s' → Q (.int i t) s') :
    wpAny (model prog w) A (eval (.Constant (.int i) k pos) env) Q E s := wpAny_Constant_int (h _ _ S.tok)
theorem add_i {a b : Int} {t u : Tok} {Q : Value → Shared → Prop} (S : St σ h₀ N s) (h : ∀ s' t', St σ h₀ N s' → Q (.int (a + b) t') s') :
    wpAny (model prog w) A (binaryOp .Add (.int a t) (.int b u)) Q E s := P.add_int (h _ _ S.tok)
theorem iadd_i {a b : Int} {t u : Tok} {Q : Value → Shared → Prop} (S : St σ h₀ N s) (h : ∀ s' t', St σ h₀ N s' → Q (.int (a + b) t') s') :
    wpAny (model prog w) A (inplaceOp .Add (.int a t) (.int b u)) Q E s := P.iadd_int (h _ _ S.tok)
theorem sub_i {a b : Int} {t u : Tok} {Q : Value → Shared → Prop} (S : St σ h₀ N s) (h : ∀ s' t', St σ h₀ N s' → Q (.int (a - b) t') s') :
    wpAny (model prog w) A (binaryOp .Sub (.int a t) (.int b u)) Q E s := P.sub_int (h _ _ S.tok)
theorem mul_i {a b : Int} {t u : Tok} {Q : Value → Shared → Prop} (S : St σ h₀ N s) (hm : IntMulOk a b) (h : ∀ s' t', St σ h₀ N s' → Q (.int (a * b) t') s') :
    wpAny (model prog w) A (binaryOp .Mult (.int a t) (.int b u)) Q E s := P.mul_int (h _ _ S.tok) hm
theorem shr_i {a n : Int} {t u : Tok} {Q : Value → Shared → Prop} (S : St σ h₀ N s) (hn : 0 ≤ n) (h : ∀ s' t', St σ h₀ N s' → Q (.int (a.fdiv (2 ^ n.toNat)) t') s') :
    wpAny (model prog w) A (binaryOp .RShift (.int a t) (.int n u)) Q E s := rshift_int hn (h _ _ S.tok)
theorem shr1_i {a : Int} {t u : Tok} {Q : Value → Shared → Prop} (S : St σ h₀ N s) (h : ∀ s' t', St σ h₀ N s' → Q (.int (a / 2) t') s') :
    wpAny (model prog w) A (binaryOp .RShift (.int a t) (.int 1 u)) Q E s := by
  refine rshift_int (by decide) ?_
  have e : a.fdiv (2 ^ Int.toNat 1) = a / 2 := by
    show a.fdiv 2 = a / 2
    exact Int.fdiv_eq_ediv_of_nonneg a (by decide)
  rw [e]
  exact h _ _ S.tok
theorem newlist {vs : List Value} {Q : Value → Shared → Prop} (S : St σ h₀ N s) (hsz : vs.length ≤ sizeLine) (h : ∀ s' a, s.heap.get? a = none → St σ h₀ ((a, .lst vs) :: N) s' → Q (.ref a) s') :
    wpAny (model prog w) A (newList vs) Q E s :=
  wpAny_newObj_type (h _ _ (get?_size _) (S.push (tk := s.toks) rfl ⟨0, rfl⟩)) (by show vs.toArray.size ≤ sizeLine; rw [List.size_toArray]; exact hsz)
theorem newtuple {vs : List Value} {Q : Value → Shared → Prop} (S : St σ h₀ N s) (hsz : vs.length ≤ sizeLine) (h : ∀ s' a, s.heap.get? a = none → St σ h₀ ((a, .tup vs) :: N) s' → Q (.ref a) s') :
    wpAny (model prog w) A (newTuple vs) Q E s :=
  wpAny_newObj_type (h _ _ (get?_size _) (S.push (tk := s.toks) rfl ⟨0, rfl⟩)) (by show vs.toArray.size ≤ sizeLine; rw [List.size_toArray]; exact hsz)
theorem getitem_l {l : Addr} {vs : List Value} {k : Int} {t : Tok} {x : Value} {Q : Value → Shared → Prop} (S : St σ h₀ N s) (hm : (l, .lst vs) ∈ N) (h0 : 0 ≤ k) (hfit : k < 2 ^ 63) (hx : vs[k.toNat]? = some x) (h : Q x s) :
    wpAny (model prog w) A (getItem (.ref l) (.int k t)) Q E s := wpAny_getItem_list (S.isList hm) h0 hfit (by simpa using hx) h
theorem sub_l {value slice : Expr} {l : Addr} {vs : List Value} {k : Int} {t : Tok} {x : Value} {Q : Value → Shared → Prop} (S : St σ h₀ N s) (hm : (l, .lst vs) ∈ N) (h0 : 0 ≤ k) (hfit : k < 2 ^ 63) (hx : vs[k.toNat]? = some x) (h : Q x s)
    (hs : subscripted slice false (.ref l) (.int k t) = operate [.ref l, .int k t] (getItem (.ref l) (.int k t)) := by with_unfolding_all rfl) :
    wpAny (model prog w) A (subscriptTail value slice (.ref l) (.int k t)) Q E s :=
  PyProof.Rows.tail_any (S.isList hm).typeIs slot_list_getitem.lookup (getitem_l S hm h0 hfit hx h) hs
theorem setitem_l {l : Addr} {vs : List Value} {k : Int} {t : Tok} {v : Value} {g : Ent → Led} {Q : Unit → Shared → Prop} (S : St σ h₀ N s) (P : Put l (.lst vs) N g) (h0 : 0 ≤ k) (hfit : k < 2 ^ 63) (hn : k < vs.length)
    (h : ∀ s', St σ h₀ (g (.lst (vs.set k.toNat v))) s' → Q () s') : wpAny (model prog w) A (setItem (.ref l) (.int k t) v) Q E s := by
  obtain ⟨n, ho⟩ := S.lst P.mem
  refine ki_setAt ho h0 hfit (by simpa using hn) (h _ (S.put (tk := s.toks) P (Heap.SameBut.update ..) ⟨_, Heap.get?_update_self _ ho rfl, n, ?_⟩))
  simp [Obj.mapSeq, W.listOf]
theorem len_l {l : Addr} {vs : List Value} {Q : Value → Shared → Prop} (S : St σ h₀ N s) (hm : (l, .lst vs) ∈ N) (hfit : (vs.length : Int) < 2 ^ 63) (h : ∀ s' t, St σ h₀ N s' → Q (.int vs.length t) s') :
    wpAny (model prog w) A (call (.builtin "len") [.ref l]) Q E s := by
  have := h { s with toks := s.toks + 1 + 1 } (s.toks + 1) S.tok
  exact len_list (S.isList hm) (by simpa using hfit) (by simpa using this)
theorem append_l {l : Addr} {vs : List Value} {x : Value} {g : Ent → Led} {Q : Value → Shared → Prop} (S : St σ h₀ N s) (P : Put l (.lst vs) N g) (hsz : vs.length ≤ sizeLine)
    (h : ∀ s', St σ h₀ (g (.lst (vs ++ [x]))) s' → Q .none s') : wpAny (model prog w) A (call (.builtin "list.append") [.ref l, x]) Q E s := by
  obtain ⟨n, ho⟩ := S.lst P.mem
  refine append_at (hsz := by simpa using hsz) ho fun h' hs ho' => h _ (S.put (tk := s.toks) P hs ⟨_, ho', n + 1, ?_⟩)
  simp [W.listOf]
end
def fnParts : Stmt → Option (Str × Arguments × List Stmt × Scope)
  | .FunctionDef n a b _ _ _ sc _ _ _ => some (n, a, b, sc)
  | _ => none
/-- the i-th statement of the text, a def: name, parameters, body, scope -/
def fdef (i : Nat) : Str × Arguments × List Stmt × Scope :=
  match (PySem.Challenge.pw_of0014_01.main.body[i]?).bind fnParts with
  | some x => x
  | none => ("", ⟨[], [], none, [], [], none, []⟩, [], ⟨.function, [], false, false, []⟩)
def Fn (h : Heap) (a : Addr) (i : Nat) : Prop := FnAt h a (fdef i).1 (fdef i).2.1 (fdef i).2.2.1 (fdef i).2.2.2
abbrev fenv (i : Nat) (L a : Addr) (cd : Value) : Env := envOf (fdef i).1 (fdef i).2.2.2 L a cd
theorem Fn.keeps {h h' : Heap} {a : Addr} {i : Nat} (F : Fn h a i) (hk : ∀ b o, h.get? b = some o → h'.get? b = some o) : Fn h' a i := by
  obtain ⟨o, pm, cd, doc, h1, h2, h3⟩ := F.fn
  exact ⟨o, pm, cd, doc, hk _ _ h1, h2, h3.keeps hk⟩
section
variable {prog : Program} {w : World} {A : Around} {σ : Shared} {h₀ : Heap} {N : Led} {s : Shared} {env : Env} {E : Value → Shared → Prop} {mg mb : Str → Option Value} {n : Nat}
theorem call_fn {i : Nat} {a : Addr} {args : List Value} {Q : Value → Shared → Prop} (S : St σ h₀ N s) (G : Gl mg mb h₀) (R : Room A (n + 1)) (F : Fn h₀ a i)
    (hb : ∀ pm cd doc, bindArgs (docDef (fdef i).1 (fdef i).2.1 (fdef i).2.2.1 (fdef i).2.2.2 pm cd doc) ⟨args, []⟩ = pure (((fdef i).2.1.args.map (·.arg)).zip args))
    (hloc : ((((fdef i).2.1.args.map (·.arg)).zip args).all fun x => decide ((fdef i).2.2.2.names.lookup x.1 = some .local)) = true)
    (h : ∀ L cd s' A', Room A' n → St σ h₀ ((L, .ns fun x => (((fdef i).2.1.args.map (·.arg)).zip args).reverse.lookup x) :: N) s' →
      wpAny (model prog w) A' (execs (fdef i).2.2.1 (fenv i L a cd)) (fun f s'' => Q (match f with | .ret v => v | _ => .none) s'') NoE s')
    (hco : (fdef i).2.2.2.isCoroutine = false := by rfl) (hgen : (fdef i).2.2.2.isGenerator = false := by rfl) (hk : (fdef i).2.2.2.kind = .function := by rfl)
    (hcell : ∀ x ∈ (fdef i).2.2.2.names, x.2 ≠ .cell := by decide) : wpAny (model prog w) A (call (.ref a) args) Q E s := by
  obtain ⟨o, pm, cd, doc, h1, h2, h3⟩ := F.fn
  refine wpAny_call (call_plain_ret R.room (S.keep _ _ h1) h2 (G.lim.keeps S.keep) (h3.keeps S.keep) (hb pm cd doc) (locs hloc) (fun h₁ Fr₁ => ?_) hco hgen hk hcell)
  refine h _ cd _ _ R.deeper (S.new Fr₁.keep (get?_size _) ?_)
  obtain ⟨o, es, ep, e1, e2, e3, e4⟩ := Fr₁.ns
  exact ⟨o, e1, es, ep, e2, e3, e4⟩
theorem method_l {l : Addr} {vs : List Value} {name : Str} {id : String} {pl : Sem Bool} {Q : Value × List Value → Shared → Prop} (S : St σ h₀ N s) (hm : (l, .lst vs) ∈ N) (slot : Slot "list" name id)
    (hty : typeOf (.builtin id) = pure (.type "method_descriptor")) (h : Q (.builtin id, [.ref l]) s) : wpAny (model prog w) A (getMethod (.ref l) name pl) Q E s := by
  obtain ⟨n, ho⟩ := S.lst hm
  exact getMethod_builtin ⟨_, ho, rfl⟩ PySem.F.plainAttrs_list slot hty (fun a e => by cases e; exact ⟨_, ho, rfl⟩) h
theorem pop_l {l : Addr} {vs : List Value} {y : Value} {g : Ent → Led} {Q : Value → Shared → Prop} (S : St σ h₀ N s) (P : Put l (.lst (vs ++ [y])) N g) (hz : vs.length + 1 ≤ sizeLine)
    (h : ∀ s', St σ h₀ (g (.lst vs)) s' → Q y s') : wpAny (model prog w) A (call (.builtin "list.pop") [.ref l]) Q E s := by
  obtain ⟨n, ho⟩ := S.lst P.mem
  have hz' : (vs ++ [y]).toArray.size ≤ sizeLine := by rw [List.size_toArray, List.length_append]; exact hz
  have hk : (vs ++ [y]).toArray.size - 1 = vs.length := by rw [List.size_toArray, List.length_append]; rfl
  have hy : (vs ++ [y]).toArray[(vs ++ [y]).toArray.size - 1]? = some y := by rw [hk]; simp
  refine call_meets PySem.F.slot_list_pop ⟨_, ho, rfl⟩ PySem.F.entry_list_pop (PySem.F.args_list_pop_1 _) (PySem.MeetsSeq.list_pop_last l _ n y hy hz') ⟨ho, h _ (S.put (tk := s.toks) P (Heap.SameBut.update ..) ?_)⟩
  have q := PySem.IsL.update (f := fun a => a.eraseIdxIfInBounds ((vs ++ [y]).toArray.size - 1)) ho
  refine ⟨_, q, n + 1, ?_⟩
  have e1 : (vs ++ [y]).toArray.eraseIdxIfInBounds ((vs ++ [y]).toArray.size - 1) = vs.toArray := by
    rw [hk, kl_erase, List.append_nil]
  rw [e1]
  simp [W.listOf]
theorem while_n {test : Expr} {body : List Stmt} {pos : Pos} {Q : Flow → Shared → Prop} (I : Nat → Shared → Prop) (k : Nat) (h0 : I k s)
    (turn : ∀ k s, I k s → wpAny (model prog w) A (isTrue test env (eval test env)) (fun b s₂ =>
        if b then wpAny (model prog w) A (execs body env) (fun f s₃ => match f with
            | .next | .cont => ∃ m, m < k ∧ I m s₃
            | .brk => Q .next s₃
            | .ret v => Q (.ret v) s₃) NoE s₂
        else Q .next s₂) NoE s) :
    wpAny (model prog w) A (exec (.While test body [] pos) env) Q NoE s := by
  refine wpAny_While (codeAny_whileLoop I (fun k s hI => ?_) k h0)
  refine wpAny_mono (turn k s hI) (fun b s₂ h₂ => ?_) fun _ _ e => e.elim
  cases b with
  | false =>
    simp only [Bool.false_eq_true, if_false] at h₂ ⊢
    exact wpAny_execs_nil h₂
  | true =>
    simp only [if_true] at h₂ ⊢
    refine wpAny_mono h₂ (fun f s₃ h₃ => ?_) fun _ _ e => e.elim
    cases f <;> exact h₃
theorem while_x {test : Expr} {body : List Stmt} {pos : Pos} {Q : Flow → Shared → Prop} (I : Nat → Shared → Prop) (X : Shared → Prop) (k : Nat) (h0 : I k s)
    (turn : ∀ k s, I k s → wpAny (model prog w) A (isTrue test env (eval test env)) (fun b s₂ =>
        if b then wpAny (model prog w) A (execs body env) (fun f s₃ => match f with
            | .next | .cont => ∃ m, m < k ∧ I m s₃
            | .brk => X s₃
            | .ret v => Q (.ret v) s₃) NoE s₂
        else X s₂) NoE s) (hX : ∀ s, X s → Q .next s) :
    wpAny (model prog w) A (exec (.While test body [] pos) env) Q NoE s := by
  refine while_n I k h0 fun k s hI => wpAny_mono (turn k s hI) (fun b s₂ h₂ => ?_) fun _ _ e => e
  cases b with
  | false =>
    simp only [Bool.false_eq_true, if_false] at h₂ ⊢
    exact hX _ h₂
  | true =>
    simp only [if_true] at h₂ ⊢
    refine wpAny_mono h₂ (fun f s₃ h₃ => ?_) fun _ _ e => e.elim
    cases f with
    | brk => exact hX _ h₃
    | next => exact h₃
    | cont => exact h₃
    | ret v => exact h₃
end
/-- only new objects have come -/
structure Grow (s s' : Shared) : Prop where
  keep : ∀ b o, s.heap.get? b = some o → s'.heap.get? b = some o
  gens : s'.gens = s.gens
  drawn : s'.drawn = s.drawn
  os : s'.os = s.os
theorem St.grow {σ : Shared} {h₀ : Heap} {N : Led} {s s' : Shared} (S : St σ h₀ N s) (G : Grow s s') : St σ h₀ N s' :=
  ⟨fun b o e => G.keep b o (S.keep b o e), fun p hp => let ⟨⟨o, ho, hi⟩, hz⟩ := S.led p hp; ⟨⟨o, G.keep _ _ ho, hi⟩, hz⟩, S.nd, G.gens.trans S.gens, G.drawn.trans S.drawn, G.os.trans S.os⟩
/-- v < u is told by lt for all el; V: what it reads -/
def Cmp (prog : Program) (w : World) (h₀ : Heap) (n : Nat) (V : Led) (el : Value → Prop) (lt : Value → Value → Bool) : Prop :=
  ∀ (A : Around) (v u : Value) (s : Shared) (Q : Value → Shared → Prop), Room A n → el v → el u → (∀ b o, h₀.get? b = some o → s.heap.get? b = some o) → (∀ p ∈ V, At s.heap p.1 p.2) →
    (∀ s', Grow s s' → Q (.bool (lt v u)) s') → wpAny (model prog w) A (compareOp .Lt v u) Q NoE s
theorem mem_tail {α : Type} {a b : α} {l : List α} (h : a ∈ l) : a ∈ b :: l := List.Mem.tail _ h
local macro_rules | `(tactic| walk_at "mem") => `(tactic| first | exact List.Mem.head _ | exact (Put.again (by assumption) _).mem | (refine mem_tail ?_; walk_at "mem"))
local macro_rules | `(tactic| walk_at "put") => `(tactic| first | exact Put.head | exact (Put.again (by assumption) _) | (refine' Put.tail ?hh; (case hh => walk_at "put")))
local macro_rules | `(tactic| walk_at "st") => `(tactic| (with_reducible assumption))
local macro_rules | `(tactic| walk_at "var") => `(tactic| first | exact rfl | assumption)
local macro_rules | `(tactic| walk_at "m") => `(tactic| first
  | (with_reducible first | refine wpAny_execs_nil ?_ | refine wpAny_If ?_ | refine wpAny_BinOp ?_ | refine Subscript_ ?_ | refine wpAny_Break ?_ | refine wpAny_Continue ?_ | refine P.gt_int ?_ | refine P.lt_int ?_ | refine wpAny_truthy_bool ?_)
  | ((with_reducible first | refine wpAny_Assign_Name (hs := ?hs) ?_ | refine wpAny_Assign_Subscript (hs := ?hs) ?_); (case hs => exact rfl))
  | ((with_reducible refine wpAny_isTrue_Compare1 (hm := ?hm) ?_); (case hm => with_unfolding_all rfl))
  | ((with_reducible first | refine' const_i ?S ?_ | refine' add_i ?S ?_ | refine' sub_i ?S ?_ | refine' shr1_i ?S ?_); (case S => walk_at "st"); intro s' t' S')
  | ((with_reducible refine' name_l ?S ?hm ?hv ?_ (hk := ?hk) (hl := ?hl) (hL := ?hL) (hd := ?hd)); (case hl | hk => exact rfl); (case hd => decide); (case S => walk_at "st"); (case hm => walk_at "mem"); (case hL => exact rfl); (case hv => walk_at "var"))
  | ((with_reducible refine' store_l ?S ?P ?_ (hl := ?hl) (hL := ?hL) (hp := ?hp)); (case hl | hp => exact rfl); (case S => walk_at "st"); (case P => walk_at "put"); (case hL => exact rfl); intro s' S'))
local macro_rules | `(tactic| walk_at "mm") => `(tactic| first | walk_at "m" | with_reducible refine wpAny_execs_cons ?_)
section
variable {prog : Program} {w : World} {A : Around} {σ : Shared} {h₀ : Heap} {N : Led} {s : Shared} {E : Value → Shared → Prop} {mg mb : Str → Option Value} {n : Nat}
def sdn (lt : Value → Value → Bool) (x : Value) : Nat → List Value → Nat → Nat → List Value
  | 0, vs, _, pos => vs.set pos x
  | f + 1, vs, st, pos => if st < pos then (match vs[(pos - 1) / 2]? with
      | some p => if lt x p then sdn lt x f (vs.set pos p) st ((pos - 1) / 2) else vs.set pos x
      | none => vs.set pos x) else vs.set pos x
theorem sdn_fuel (lt : Value → Value → Bool) (x : Value) (st : Nat) : ∀ (f : Nat) (vs : List Value) (pos : Nat), pos ≤ f → sdn lt x f vs st pos = sdn lt x pos vs st pos := by
  intro f
  induction f using Nat.strongRecOn with
  | ind f ih =>
    intro vs pos hp
    cases pos with
    | zero => cases f with
      | zero => rfl
      | succ f => simp [sdn]
    | succ p =>
      cases f with
      | zero => omega
      | succ f =>
        unfold sdn
        split
        · have e : p + 1 - 1 = p := by omega
          rw [e]
          cases hv : vs[p / 2]? with
          | none => rfl
          | some y =>
            dsimp only
            split
            · rw [ih f (by omega) _ _ (by omega), ih p (by omega) _ _ (by omega)]
            · rfl
        · rfl
inductive JD (σ : Shared) (h₀ : Heap) (L l : Addr) (g : Ent → Led) (vs : List Value) (x : Value) (st pos : Nat) (t1 : Tok) (el : Value → Prop) (lt : Value → Value → Bool) (k : Nat) (s : Shared) : Prop
  | mk (vs' : List Value) (m : Str → Option Value) (S : St σ h₀ ((L, .ns m) :: g (.lst vs')) s) (hl : vs'.length = vs.length) (hk : k < vs'.length) (hel : ∀ v ∈ vs', el v) (hR : sdn lt x k vs' st k = sdn lt x pos vs st pos)
    (g1 : m "heap" = some (.ref l)) (g2 : m "startpos" = some (.int st t1)) (g3 : ∃ t, m "pos" = some (.int k t)) (g4 : m "newitem" = some x)
inductive JX (σ : Shared) (h₀ : Heap) (L l : Addr) (g : Ent → Led) (vs : List Value) (x : Value) (st pos : Nat) (lt : Value → Value → Bool) (s : Shared) : Prop
  | mk (k : Nat) (vs' : List Value) (m : Str → Option Value) (t : Tok) (S : St σ h₀ ((L, .ns m) :: g (.lst vs')) s) (hl : vs'.length = vs.length) (hk : k < vs'.length) (hR : vs'.set k x = sdn lt x pos vs st pos)
    (g1 : m "heap" = some (.ref l)) (g3 : m "pos" = some (.int k t)) (g4 : m "newitem" = some x)
theorem siftdown_spec {l fa : Addr} {vs : List Value} {x : Value} {st pos : Nat} {t1 t2 : Tok} {g : Ent → Led} {V : Led} {el : Value → Prop} {lt : Value → Value → Bool} {Q : Value → Shared → Prop}
    (S : St σ h₀ N s) (G : Gl mg mb h₀) (R : Room A (n + 1)) (F : Fn h₀ fa 10) (C : Cmp prog w h₀ n V el lt) (P : Put l (.lst vs) N g) (hV : ∀ p ∈ V, p ∈ N ∧ p.1 ≠ l)
    (hel : ∀ v ∈ vs, el v) (hx : vs[pos]? = some x) (hsz : vs.length < 2 ^ 20)
    (h : ∀ s', St σ h₀ (g (.lst (sdn lt x pos vs st pos))) s' → Q .none s') :
    wpAny (model prog w) A (call (.ref fa) [.ref l, .int st t1, .int pos t2]) Q E s := by
  refine call_fn S G R F (fun _ _ _ => rfl) rfl ?_
  intro L cd s1 A1 R1 S1
  rw [← P.self] at S1
  generalize hm : (fun x => List.lookup x ((List.map (fun x => x.arg) (fdef 10).snd.fst.args).zip [Value.ref l, Value.int st t1, Value.int pos t2]).reverse) = m at S1
  have f1 : m "heap" = some (.ref l) := by rw [← hm]; rfl
  have f2 : m "startpos" = some (.int st t1) := by rw [← hm]; rfl
  have f3 : m "pos" = some (.int pos t2) := by rw [← hm]; rfl
  clear hm
  have hpl : pos < vs.length := by
    rcases Nat.lt_or_ge pos vs.length with q | q
    · exact q
    · rw [List.getElem?_eq_none q] at hx; cases hx
  refine wpAny_execs_cons ?_
  walk_at "mm"
  walk_at "mm"
  walk_at "mm"
  walk_at "mm"
  refine sub_l S1 (by walk_at "mem") (by omega) (by omega) (by simpa using hx) ?_
  walk_at "mm"
  rename_i s1' S1'
  dsimp only
  walk_at "mm"
  refine while_x (fun k s => JD σ h₀ L l g vs x st pos t1 el lt k s) (fun s => JX σ h₀ L l g vs x st pos lt s) pos ⟨vs, _, S1', rfl, hpl, hel, rfl, f1, f2, ⟨t2, f3⟩, rfl⟩ ?_ ?_
  · rintro k s2 ⟨vs', m', S2, hl', hk, hel', hR, g1, g2, ⟨t, g3⟩, g4⟩
    walk_at "mm"
    walk_at "mm"
    walk_at "mm"
    walk_at "mm"
    walk_at "mm"
    by_cases hc : st < k
    · have e : decide ((k : Int) > st) = true := by simpa using hc
      rw [if_pos e]
      refine hideQ fun Q' hQ => ?_
      repeat walk_at "mm"
      have hp : (k - 1) / 2 < vs'.length := by omega
      have ep : (((k : Int) - 1) / 2).toNat = (k - 1) / 2 := by omega
      refine sub_l (x := vs'[(k - 1) / 2]) (by walk_at "st") (by walk_at "mem") (by omega) (by omega) (by rw [ep]; simp [hp]) ?_
      generalize hy : vs'[(k - 1) / 2] = y
      have hy' : vs'[(k - 1) / 2]? = some y := by simp [hp, hy]
      repeat walk_at "mm"
      refine C A1 x y _ _ R1 (hel _ (List.mem_of_getElem? hx)) (hel' _ (List.mem_of_getElem? hy')) (St.keep (by walk_at "st")) ?_ ?_
      · intro p hp
        obtain ⟨h1, h2⟩ := hV p hp
        have S9 := ‹St σ h₀ ((L, Ent.ns _) :: g (Ent.lst vs')) _›
        exact S9.at (.tail _ (P.other h1 h2 _))
      intro s3 G3
      have S3 := St.grow (by walk_at "st") G3
      walk_at "mm"
      by_cases hlt : lt x y = true
      · rw [if_pos hlt]
        repeat walk_at "mm"
        refine setitem_l (by walk_at "st") (by walk_at "put") (by omega) (by omega) (by omega) ?_
        intro s4 S4
        dsimp only
        repeat walk_at "mm"
        rename_i s5 S5
        refine hQ .cont _ ⟨(k - 1) / 2, by omega, vs'.set k y, _, S5, by simp [hl'], by simp; omega, ?_, ?_, g1, g2, ?_, g4⟩
        · intro v hv
          rcases List.mem_or_eq_of_mem_set hv with hv | rfl
          · exact hel' v hv
          · exact hel' _ (List.mem_of_getElem? hy')
        · rw [← hR]
          cases k with
          | zero => omega
          | succ k =>
            have e : k + 1 - 1 = k := by omega
            rw [e] at hy' ⊢
            have : sdn lt x (k + 1) vs' st (k + 1) = sdn lt x k (vs'.set (k + 1) y) st (k / 2) := by
              rw [sdn, if_pos hc, e, hy']
              dsimp only
              rw [if_pos hlt]
            rw [this]
            exact (sdn_fuel lt x st k _ _ (by omega)).symm
        · rw [show (((k - 1) / 2 : Nat) : Int) = ((k : Int) - 1) / 2 by omega]
          exact ⟨_, rfl⟩
      · rw [if_neg hlt]
        repeat walk_at "mm"
        refine hQ .brk _ ⟨k, vs', _, t, S3, hl', hk, ?_, g1, g3, g4⟩
        rw [← hR]
        cases k with
        | zero => omega
        | succ k =>
          have e : k + 1 - 1 = k := by omega
          rw [e] at hy'
          rw [sdn, if_pos hc, e, hy']
          dsimp only
          rw [if_neg hlt]
    · have e : ¬ decide ((k : Int) > st) = true := by simpa using hc
      rw [if_neg e]
      refine ⟨k, vs', m', t, S2, hl', hk, ?_, g1, g3, g4⟩
      rw [← hR]
      cases k with
      | zero => rfl
      | succ k => simp [sdn, hc]
  · rintro s2 ⟨k, vs', m', t, S2, hl', hk, hR, g1, g3, g4⟩
    dsimp only
    repeat walk_at "mm"
    refine setitem_l (by walk_at "st") (by walk_at "put") (by omega) (by omega) (by omega) ?_
    intro s3 S3
    refine wpAny_execs_nil (h s3 ?_)
    rw [← hR]
    exact S3.sub (List.sublist_cons_self ..)
end
/-- where the text's defs stand -/
structure Ads where
  pv : Addr
  ck : Addr
  rd : Addr
  push : Addr
  pop : Addr
  hfy : Addr
  sd : Addr
  su : Addr
  oct : Addr
  met : Addr
  im : Addr
def bnames : List Str := ["len", "range", "abs", "iter", "bytes", "next", "list", "sorted", "set", "reversed", "StopIteration", "TypeError", "object"]
/-- a def with one default, which stands at im -/
def FnD (h : Heap) (a : Addr) (i : Nat) (im : Addr) : Prop := ∃ o pm cd doc T to n, h.get? a = some o ∧ o.data = .func { docDef (fdef i).1 (fdef i).2.1 (fdef i).2.2.1 (fdef i).2.2.2 pm cd doc with defaults := .ref T } ∧ h.CodeRec cd (fdef i).1 ∧
  h.get? T = some to ∧ to.data = .seq #[.ref im] n
structure Wd (ad : Ads) (mg mb : Str → Option Value) (h₀ : Heap) : Prop where
  G : Gl mg mb h₀
  pv : mg "_parse_varint" = some (.ref ad.pv)
  pvF : Fn h₀ ad.pv 1
  ck : mg "cmp_to_key" = some (.ref ad.ck)
  rd : mg "reduce" = some (.ref ad.rd)
  rdF : FnD h₀ ad.rd 5 ad.im
  im : mg "_initial_missing" = some (.ref ad.im)
  push : mg "heappush" = some (.ref ad.push)
  pushF : Fn h₀ ad.push 7
  pop : mg "heappop" = some (.ref ad.pop)
  popF : Fn h₀ ad.pop 8
  hfy : mg "heapify" = some (.ref ad.hfy)
  hfyF : Fn h₀ ad.hfy 9
  sd : mg "_siftdown" = some (.ref ad.sd)
  sdF : Fn h₀ ad.sd 10
  su : mg "_siftup" = some (.ref ad.su)
  suF : Fn h₀ ad.su 11
  oct : mg "_law_octets" = some (.ref ad.oct)
  octF : Fn h₀ ad.oct 13
  met : mg "_law_met" = some (.ref ad.met)
  metF : Fn h₀ ad.met 14
  nb : ∀ x ∈ bnames, mg x = none
section
variable {prog : Program} {w : World} {A : Around} {σ : Shared} {h₀ : Heap} {N : Led} {s : Shared} {env : Env} {E : Value → Shared → Prop} {mg mb : Str → Option Value} {n : Nat}
theorem callw_fn {i : Nat} {pos : Pos} {f : Addr} {e : Expr} {rest : List Expr} {Q : Value → Shared → Prop} (F : Fn h₀ f i)
    (h : wpAny (model prog w) A (spliced (backTo pos (starEach (e :: rest) env))) (fun vs s₁ => (∀ b o, h₀.get? b = some o → s₁.heap.get? b = some o) ∧ wpAny (model prog w) A (call (.ref f) vs) Q E s₁) E s)
    (he : starEach (e :: rest) env = (false, eval e env) :: starEach rest env := by rfl) :
    wpAny (model prog w) A (callWith pos (.ref f) [] (backTo pos (starEach (e :: rest) env)) []) Q E s := by
  obtain ⟨o, pm, cd, doc, h1, h2, h3⟩ := F.fn
  exact callWith_def h2 (wpAny_mono h (fun vs s₁ q => ⟨q.1 _ _ h1, q.2⟩) fun _ _ e => e) he
theorem ite_tt {a b : Prop} (h : a) : if true = true then a else b := by rw [if_pos rfl]; exact h
theorem ite_ff {a b : Prop} (h : b) : if false = true then a else b := by rw [if_neg Bool.false_ne_true]; exact h
theorem getD_some {vs : List Value} {i : Nat} (h : i < vs.length) : vs[i]? = some (vs.getD i .none) := by
  rw [List.getD_eq_getElem?_getD, List.getElem?_eq_getElem h]; rfl
theorem sub_n {value slice : Expr} {l : Addr} {vs : List Value} {k : Int} {t : Tok} {Q : Value → Shared → Prop} (i : Nat) (S : St σ h₀ N s) (hm : (l, .lst vs) ∈ N) (hk : k = i) (hi : i < vs.length) (hz : vs.length < 2 ^ 20) (h : Q (vs.getD i .none) s)
    (hs : subscripted slice false (.ref l) (.int k t) = operate [.ref l, .int k t] (getItem (.ref l) (.int k t)) := by with_unfolding_all rfl) :
    wpAny (model prog w) A (subscriptTail value slice (.ref l) (.int k t)) Q E s :=
  sub_l S hm (by omega) (by omega) (by rw [hk]; exact getD_some hi) h hs
theorem setitem_n {l : Addr} {vs : List Value} {k : Int} {t : Tok} {v : Value} {g : Ent → Led} {Q : Unit → Shared → Prop} (i : Nat) (S : St σ h₀ N s) (P : Put l (.lst vs) N g) (hk : k = i) (hi : i < vs.length) (hz : vs.length < 2 ^ 20)
    (h : ∀ s', St σ h₀ (g (.lst (vs.set i v))) s' → Q () s') : wpAny (model prog w) A (setItem (.ref l) (.int k t) v) Q E s := by
  subst hk
  exact setitem_l S P (by omega) (by omega) (by omega) h
/-- one statement, then the rest from what it leaves -/
theorem step_x {st : Stmt} {rest : List Stmt} {Q : Flow → Shared → Prop} (X : Shared → Prop) (h : wpAny (model prog w) A (exec st env) (fun f s => f = .next ∧ X s) NoE s)
    (hX : ∀ s, X s → wpAny (model prog w) A (execs rest env) Q NoE s) : wpAny (model prog w) A (execs (st :: rest) env) Q NoE s :=
  wpAny_execs_cons (wpAny_mono h (fun f s' q => by obtain ⟨rfl, q⟩ := q; exact hX _ q) fun _ _ e => e)
end
local macro_rules | `(tactic| walk_at "gname") => `(tactic| first
  | exact Wd.sd (by assumption) | exact Wd.su (by assumption) | exact Wd.pv (by assumption) | exact Wd.oct (by assumption) | exact Wd.met (by assumption) | exact Wd.push (by assumption)
  | exact Wd.pop (by assumption) | exact Wd.hfy (by assumption) | exact Wd.ck (by assumption) | exact Wd.rd (by assumption) | exact Wd.im (by assumption))
local macro_rules | `(tactic| walk_at "gfn") => `(tactic| first
  | exact Wd.sdF (by assumption) | exact Wd.suF (by assumption) | exact Wd.pvF (by assumption) | exact Wd.octF (by assumption) | exact Wd.metF (by assumption) | exact Wd.pushF (by assumption)
  | exact Wd.popF (by assumption) | exact Wd.hfyF (by assumption))
local macro_rules | `(tactic| walk_at "fit") => `(tactic| first | omega | (simp only [sizeLine, List.length_append, List.length_cons, List.length_nil, List.length_set] at *; omega))
local macro_rules | `(tactic| walk_at "m2") => `(tactic| first
  | walk_at "m"
  | ((with_reducible refine' name_b ?S ?G ?hn ?hv ?_ (hne := ?hne) (hk := ?hk) (hx := ?hx) (hg := ?hg) (hb := ?hb) (hd := ?hd)); (case hx => exact rfl); (case hn => first | assumption | exact Wd.nb (by assumption) _ (by decide)); (case S => walk_at "st"); (case G => first | assumption | exact Wd.G (by assumption)); (case hv => boot_fast); (case hne | hd => decide); (case hk | hg | hb => exact rfl))
  | ((with_reducible refine' name_g ?S ?G ?hv ?_ (hk := ?hk) (hx := ?hx) (hg := ?hg) (hd := ?hd)); (case hx => exact rfl); (case hv => walk_at "gname"); (case S => walk_at "st"); (case G => exact Wd.G (by assumption)); (case hk | hg => exact rfl); (case hd => decide))
  | (with_reducible first | refine args_nil ?_ | refine wpAny_isTrue_BoolOp ?_ | refine wpAny_allTrue_And_cons ?_ | refine wpAny_allTrue_And_nil ?_ | refine wpAny_isTrue_Not ?_ | refine ite_tt ?_ | refine ite_ff ?_)
  | ((with_reducible first | refine Call_ (he := ?he) ?_ | refine args_cons (he := ?he) ?_); (case he => exact rfl))
  | ((with_reducible first | refine PyProof.Rows.callWith_builtin1 (he := ?he) (hplain := ?hp) ?_ | refine wpAny_Expr (hi := ?he) (hs := ?hp) ?_); (case he | hp => exact rfl))
  | ((with_reducible refine' callw_fn ?F ?_ (he := ?he)); (case F => walk_at "gfn"); (case he => exact rfl))
  | ((with_reducible refine' len_l ?S ?hm ?hf ?_); (case S => walk_at "st"); (case hm => walk_at "mem"); (case hf => walk_at "fit"); intro s' t' S')
  | ((with_reducible refine' mul_i ?S ?hm ?_); (case S => walk_at "st"); (case hm => exact IntMulOk.of_left (by decide)); intro s' t' S'))
local macro_rules | `(tactic| walk_at "mx") => `(tactic| first | walk_at "m2" | with_reducible refine wpAny_execs_cons ?_)
section
variable {prog : Program} {w : World} {A : Around} {σ : Shared} {h₀ : Heap} {N : Led} {s : Shared} {E : Value → Shared → Prop} {mg mb : Str → Option Value} {n : Nat} {ad : Ads}
def sup (lt : Value → Value → Bool) : Nat → List Value → Nat → List Value × Nat
  | 0, vs, pos => (vs, pos)
  | f + 1, vs, pos => if 2 * pos + 1 < vs.length then
      let c := if 2 * pos + 2 < vs.length ∧ lt (vs.getD (2 * pos + 1) .none) (vs.getD (2 * pos + 2) .none) = false then 2 * pos + 2 else 2 * pos + 1
      sup lt f (vs.set pos (vs.getD c .none)) c
    else (vs, pos)
def siftupF (lt : Value → Value → Bool) (vs : List Value) (pos : Nat) : List Value :=
  let r := sup lt (vs.length - pos) vs pos
  sdn lt (vs.getD pos .none) r.2 (r.1.set r.2 (vs.getD pos .none)) pos r.2
theorem sup_fuel (lt : Value → Value → Bool) : ∀ (f : Nat) (vs : List Value) (p : Nat), vs.length - p ≤ f → sup lt f vs p = sup lt (vs.length - p) vs p := by
  intro f
  induction f using Nat.strongRecOn with
  | ind f ih =>
    intro vs p hp
    cases f with
    | zero => rw [Nat.le_zero.mp hp]
    | succ f =>
      cases hq : vs.length - p with
      | zero =>
        unfold sup
        rw [if_neg (by omega)]
      | succ q =>
        unfold sup
        split
        · dsimp only
          generalize hc : (if 2 * p + 2 < vs.length ∧ lt (vs.getD (2 * p + 1) .none) (vs.getD (2 * p + 2) .none) = false then 2 * p + 2 else 2 * p + 1) = c
          have hcp : p < c := by rw [← hc]; split <;> omega
          rw [ih f (by omega) _ _ (by simp; omega), ih q (by omega) _ _ (by simp; omega)]
        · rfl
theorem sup_facts (lt : Value → Value → Bool) : ∀ (f : Nat) (vs : List Value) (p : Nat), p < vs.length → (sup lt f vs p).1.length = vs.length ∧ (sup lt f vs p).2 < vs.length ∧ p ≤ (sup lt f vs p).2 ∧ ∀ v ∈ (sup lt f vs p).1, v ∈ vs := by
  intro f
  induction f with
  | zero => intro vs p hp; exact ⟨rfl, hp, Nat.le_refl _, fun _ h => h⟩
  | succ f ih =>
    intro vs p hp
    unfold sup
    split
    · dsimp only
      generalize hc : (if 2 * p + 2 < vs.length ∧ lt (vs.getD (2 * p + 1) .none) (vs.getD (2 * p + 2) .none) = false then 2 * p + 2 else 2 * p + 1) = c
      have hcp : p < c ∧ c < vs.length := by rw [← hc]; split <;> omega
      obtain ⟨h1, h2, h3, h4⟩ := ih (vs.set p (vs.getD c .none)) c (by simp; omega)
      simp only [List.length_set] at h1 h2
      refine ⟨h1, h2, by omega, fun v hv => ?_⟩
      rcases List.mem_or_eq_of_mem_set (h4 v hv) with q | q
      · exact q
      · rw [q, List.getD_eq_getElem?_getD, List.getElem?_eq_getElem hcp.2]; exact List.getElem_mem ..
    · exact ⟨rfl, hp, Nat.le_refl _, fun _ h => h⟩
inductive JU (σ : Shared) (h₀ : Heap) (L l : Addr) (g : Ent → Led) (vs : List Value) (x : Value) (pos : Nat) (t1 : Tok) (lt : Value → Value → Bool) (k : Nat) (s : Shared) : Prop
  | mk (vs' : List Value) (p : Nat) (m : Str → Option Value) (S : St σ h₀ ((L, .ns m) :: g (.lst vs')) s) (hl : vs'.length = vs.length) (hp : p < vs'.length) (hk : k = vs.length - p) (hm : ∀ v ∈ vs', v ∈ vs) (hR : sup lt (vs.length - p) vs' p = sup lt (vs.length - pos) vs pos)
    (g1 : m "heap" = some (.ref l)) (g2 : ∃ t, m "endpos" = some (.int vs.length t)) (g3 : m "startpos" = some (.int pos t1)) (g4 : ∃ t, m "pos" = some (.int p t)) (g5 : m "newitem" = some x) (g6 : ∃ t, m "childpos" = some (.int (2 * p + 1) t))
inductive JV (σ : Shared) (h₀ : Heap) (L l : Addr) (g : Ent → Led) (vs' : List Value) (n p : Nat) (c : Nat) (x : Value) (pos : Nat) (t1 t2 t4 : Tok) (s : Shared) : Prop
  | mk (m : Str → Option Value) (S : St σ h₀ ((L, .ns m) :: g (.lst vs')) s) (k1 : m "heap" = some (.ref l)) (k2 : m "endpos" = some (.int n t2)) (k3 : m "startpos" = some (.int pos t1)) (k4 : m "pos" = some (.int p t4))
    (k5 : m "newitem" = some x) (k6 : ∃ t, m "childpos" = some (.int c t))
theorem siftup_spec {l : Addr} {vs : List Value} {pos : Nat} {t1 : Tok} {g : Ent → Led} {V : Led} {el : Value → Prop} {lt : Value → Value → Bool} {Q : Value → Shared → Prop}
    (S : St σ h₀ N s) (W : Wd ad mg mb h₀) (R : Room A (n + 2)) (C : ∀ k, n ≤ k → Cmp prog w h₀ k V el lt) (P : Put l (.lst vs) N g) (hV : ∀ p ∈ V, p ∈ N ∧ p.1 ≠ l)
    (hel : ∀ v ∈ vs, el v) (hpl : pos < vs.length) (hsz : vs.length < 2 ^ 20)
    (h : ∀ s', St σ h₀ (g (.lst (siftupF lt vs pos))) s' → Q .none s') :
    wpAny (model prog w) A (call (.ref ad.su) [.ref l, .int pos t1]) Q E s := by
  refine call_fn S W.G R W.suF (fun _ _ _ => rfl) rfl ?_
  intro L cd s1 A1 R1 S1
  rw [← P.self] at S1
  generalize hm : (fun x => List.lookup x ((List.map (fun x => x.arg) (fdef 11).snd.fst.args).zip [Value.ref l, Value.int pos t1]).reverse) = m at S1
  have f1 : m "heap" = some (.ref l) := by rw [← hm]; rfl
  have f2 : m "pos" = some (.int pos t1) := by rw [← hm]; rfl
  clear hm
  refine wpAny_execs_cons ?_
  repeat walk_at "mx"
  refine sub_n pos (by walk_at "st") (by walk_at "mem") rfl hpl hsz ?_
  generalize hx : vs.getD pos .none = x
  repeat walk_at "mx"
  rename_i s2 S2
  refine while_x (fun k s => JU σ h₀ L l g vs x pos t1 lt k s)
    (fun s => ∃ (m : Str → Option Value), St σ h₀ ((L, .ns m) :: g (.lst (sup lt (vs.length - pos) vs pos).1)) s ∧ m "heap" = some (.ref l) ∧ m "startpos" = some (.int pos t1) ∧
      (∃ t, m "pos" = some (.int (sup lt (vs.length - pos) vs pos).2 t)) ∧ m "newitem" = some x)
    (vs.length - pos) ⟨vs, pos, _, S2, rfl, hpl, rfl, fun _ h => h, rfl, f1, ⟨_, rfl⟩, rfl, ⟨_, f2⟩, rfl, ⟨_, rfl⟩⟩ ?_ ?_
  · intro k s3 hJ
    refine hideQ fun QA hA => ?_
    obtain ⟨vs', p, m', S3, hl', hp', rfl, hmem', hR, g1, ⟨t2, g2⟩, g3, ⟨t4, g4⟩, g5, ⟨t6, g6⟩⟩ := hJ
    have hel' : ∀ v ∈ vs', el v := fun v hv => hel v (hmem' v hv)
    repeat walk_at "mx"
    refine hA _ _ ?_
    by_cases hc : 2 * p + 1 < vs.length
    · rw [if_pos (by simpa using (by omega : (2 * (p : Int) + 1 < vs.length)))]
      refine hideQ fun Q' hQ => ?_
      walk_at "mx"
      repeat walk_at "m2"
      rename_i s4 S4
      dsimp only
      generalize hcc : (if 2 * p + 2 < vs'.length ∧ lt (vs'.getD (2 * p + 1) .none) (vs'.getD (2 * p + 2) .none) = false then 2 * p + 2 else 2 * p + 1) = c
      have hcp : p < c ∧ c < vs'.length := by rw [← hcc]; split <;> omega
      refine step_x (fun s => JV σ h₀ L l g vs' vs.length p c x pos t1 t2 t4 s) ?_ ?_
      · repeat walk_at "m2"
        by_cases hd : 2 * p + 2 < vs.length
        · rw [if_pos (by simpa using (by omega : (2 * (p : Int) + 1 + 1 < vs.length)))]
          repeat walk_at "m2"
          refine sub_n (2 * p + 1) (by walk_at "st") (by walk_at "mem") (by omega) (by omega) (by omega) ?_
          repeat walk_at "m2"
          refine sub_n (2 * p + 2) (by walk_at "st") (by walk_at "mem") (by omega) (by omega) (by omega) ?_
          refine C _ (Nat.le_succ n) A1 _ _ _ _ R1 (hel' _ (List.mem_of_getElem? (getD_some (by omega)))) (hel' _ (List.mem_of_getElem? (getD_some (by omega)))) (St.keep (by walk_at "st")) ?_ ?_
          · intro p hp
            obtain ⟨h1, h2⟩ := hV p hp
            exact S4.at (.tail _ (P.other h1 h2 _))
          intro s5 G5
          have S5 := S4.grow G5
          repeat walk_at "m2"
          cases hlt : lt (vs'.getD (2 * p + 1) .none) (vs'.getD (2 * p + 2) .none) with
          | true =>
            have ec : c = 2 * p + 1 := by rw [← hcc, if_neg (by rw [hlt]; simp)]
            refine ite_ff (ite_ff (wpAny_execs_nil ⟨rfl, _, S5, g1, g2, g3, g4, g5, ⟨t6, ?_⟩⟩))
            rw [ec, show (((2 * p + 1 : Nat) : Int)) = 2 * (p : Int) + 1 by omega]
            exact g6
          | false =>
            have ec : c = 2 * p + 2 := by rw [← hcc, if_pos ⟨by omega, hlt⟩]
            refine ite_tt ?_
            repeat walk_at "mx"
            rename_i s6 S6
            refine ⟨rfl, _, S6, g1, g2, g3, g4, g5, ?_⟩
            rw [ec, show (((2 * p + 2 : Nat) : Int)) = 2 * (p : Int) + 1 + 1 by omega]
            exact ⟨_, rfl⟩
        · rw [if_neg (by simpa using (by omega : ¬ (2 * (p : Int) + 1 + 1 < vs.length)))]
          have ec : c = 2 * p + 1 := by rw [← hcc, if_neg (by omega)]
          refine ite_ff (wpAny_execs_nil ⟨rfl, _, S4, g1, g2, g3, g4, g5, ⟨t6, ?_⟩⟩)
          rw [ec, show (((2 * p + 1 : Nat) : Int)) = 2 * (p : Int) + 1 by omega]
          exact g6
      · rintro s5 ⟨m5, S5, k1, k2, k3, k4, k5, ⟨t7, k6⟩⟩
        repeat walk_at "mx"
        refine sub_n c (by walk_at "st") (by walk_at "mem") (by omega) (by omega) (by omega) ?_
        repeat walk_at "mx"
        refine setitem_n p (by walk_at "st") (by walk_at "put") rfl (by omega) (by omega) ?_
        intro s6 S6
        dsimp only
        repeat walk_at "mx"
        rename_i s7 S7
        refine hQ .next _ ⟨vs.length - c, by omega, _, c, _, S7, by simp [hl'], by simp; omega, rfl, ?_, ?_, k1, ⟨_, k2⟩, k3, ⟨_, rfl⟩, k5, ?_⟩
        · intro v hv
          rcases List.mem_or_eq_of_mem_set hv with hv | rfl
          · exact hmem' v hv
          · exact hmem' _ (List.mem_of_getElem? (getD_some (by omega)))
        · rw [← hR]
          cases hq : vs.length - p with
          | zero => omega
          | succ q =>
            have e : sup lt (q + 1) vs' p = sup lt q (vs'.set p (vs'.getD c .none)) c := by
              conv => lhs; unfold sup
              rw [if_pos (by omega)]
              dsimp only
              rw [hcc]
            rw [e, sup_fuel lt q _ _ (by simp; omega)]
            simp [hl']
        · exact ⟨_, rfl⟩
    · rw [if_neg (by simpa using (by omega : ¬ (2 * (p : Int) + 1 < vs.length)))]
      have e : sup lt (vs.length - pos) vs pos = (vs', p) := by
        rw [← hR]
        cases hq : vs.length - p with
        | zero => rfl
        | succ q => unfold sup; rw [if_neg (by omega)]
      rw [e]
      exact ⟨m', S3, g1, g3, ⟨t4, g4⟩, g5⟩
  · rintro s3 ⟨m', S3, g1, g3, ⟨t4, g4⟩, g5⟩
    dsimp only
    obtain ⟨q1, q2, q3, q4⟩ := sup_facts lt (vs.length - pos) vs pos hpl
    generalize hr : sup lt (vs.length - pos) vs pos = r at *
    repeat walk_at "mx"
    refine setitem_n r.2 (by walk_at "st") (by walk_at "put") rfl (by omega) (by omega) ?_
    intro s4 S4
    dsimp only
    repeat walk_at "mx"
    refine ⟨S4.keep, ?_⟩
    refine siftdown_spec (n := n) (x := x) S4 W.G R1 W.sdF (C n (Nat.le_refl _)) (Put.tail (P.again _)) ?_ ?_ ?_ ?_ ?_
    · intro p hp
      obtain ⟨h1, h2⟩ := hV p hp
      exact ⟨.tail _ (P.other h1 h2 _), h2⟩
    · intro v hv
      rcases List.mem_or_eq_of_mem_set hv with hv | rfl
      · exact hel v (q4 v hv)
      · rw [← hx]
        exact hel _ (by rw [List.getD_eq_getElem?_getD, List.getElem?_eq_getElem hpl]; exact List.getElem_mem ..)
    · rw [List.getElem?_set_self (by omega)]
    · rw [List.length_set]; omega
    · intro s5 S5
      dsimp only
      refine wpAny_execs_nil (h s5 ?_)
      have e : siftupF lt vs pos = sdn lt x r.2 (r.1.set r.2 x) pos r.2 := by
        unfold siftupF
        rw [hr, hx]
      rw [e]
      exact S5.sub (List.sublist_cons_self ..)
end
section
variable {prog : Program} {w : World} {A : Around} {σ : Shared} {h₀ : Heap} {N : Led} {s : Shared} {env : Env} {mg mb : Str → Option Value} {n : Nat}
/-- a list's iterator, a range's -/
def liE (l : Addr) (i : Nat) : Ent := .sat fun o => o.cls = .type "list_iterator" ∧ o.data = .fields #[.ref l, .int i 0]
def riE (x left step : Int) : Ent := .raw { cls := .type "range_iterator", dict := none, data := .fields #[rawInt x, rawInt left, rawInt step], slots := #[] }
/-- what drawing from the iterator at I does: n items -/
structure Draw (prog : Program) (w : World) (A : Around) (σ : Shared) (h₀ : Heap) (I : Addr) (n : Nat) (ob : Nat → Ent) (val : Nat → Value → Prop) (req : Led → Prop) : Prop where
  item : ∀ i N s (Q : Option Value → Shared → Prop), i < n → req N → St σ h₀ ((I, ob i) :: N) s → (∀ v s', val i v → St σ h₀ ((I, ob (i + 1)) :: N) s' → Q (some v) s') → wpAny (model prog w) A (pyNext (.ref I)) Q NoE s
  done : ∀ N s (Q : Option Value → Shared → Prop), req N → St σ h₀ ((I, ob n) :: N) s → (∀ s', St σ h₀ N s' → Q none s') → wpAny (model prog w) A (pyNext (.ref I)) Q NoE s
theorem St.dropTo {a : Addr} {e : Ent} (S : St σ h₀ ((a, e) :: N) s) {h' : Heap} {tk : Nat} (hk : ∀ b o, b ≠ a → s.heap.get? b = some o → h'.get? b = some o) : St σ h₀ N { s with heap := h', toks := tk } := by
  have hz : h₀.get? a = none := (S.led _ (.head _)).2
  have nd := S.nd
  rw [List.map_cons, List.nodup_cons] at nd
  refine ⟨fun b o e => hk b o (by rintro rfl; rw [hz] at e; cases e) (S.keep b o e), fun p hp => ?_, nd.2, S.gens, S.drawn, S.os⟩
  obtain ⟨⟨o, ho, hi⟩, hz'⟩ := S.led p (.tail _ hp)
  exact ⟨⟨o, hk _ _ (fun e => nd.1 (by have : p.1 ∈ N.map (·.1) := List.mem_map_of_mem hp; rw [e] at this; exact this)) ho, hi⟩, hz'⟩
theorem draw_list (hh : A.handled = none) (I l : Addr) (vs : List Value) : Draw prog w A σ h₀ I vs.length (liE l) (fun i v => vs[i]? = some v) (fun N => (l, .lst vs) ∈ N) where
  item := fun i N s Q hi hr S hQ => by
    obtain ⟨o, ho, hc, hd⟩ := S.at (.head _)
    refine wpAny_pyNext_list_item (x := vs[i]) ⟨o, ho, hc, hd⟩ (S.isList (.tail _ hr)) (by simp [hi]) fun h' hit' hs' => hQ _ _ (by simp [hi]) (S.put (tk := s.toks) Put.head hs' ?_)
    obtain ⟨o', ho', hc', hd'⟩ := hit'
    exact ⟨o', ho', hc', hd'⟩
  done := fun N s Q hr S hQ => by
    obtain ⟨o, ho, hc, hd⟩ := S.at (.head _)
    exact wpAny_pyNext_list_end hh ⟨o, ho, hc, hd⟩ (S.isList (.tail _ hr)) (by simp) fun h' he' => hQ _ (S.dropTo (tk := s.toks) he')
theorem draw_range (hh : A.handled = none) (I : Addr) (a c : Int) (n : Nat) : Draw prog w A σ h₀ I n (fun i => riE (a + (i : Nat) * c) ((n : Int) - (i : Nat)) c) (fun i v => ∃ t, v = .int (a + (i : Nat) * c) t) (fun _ => True) where
  item := fun i N s Q hi hr S hQ => by
    refine wpAny_pyNext_range_item (S.raw (.head _)) (by omega) fun h' hit' hs' => hQ _ _ ⟨_, rfl⟩ (S.put (tk := s.toks + 1) Put.head hs' ?_)
    have e1 : a + ((i + 1 : Nat) : Int) * c = a + (i : Int) * c + c := by push_cast; rw [Int.add_mul, Int.one_mul, Int.add_assoc]
    have e2 : (n : Int) - ((i + 1 : Nat) : Int) = (n : Int) - (i : Int) - 1 := by push_cast; omega
    rw [e1, e2]; exact ⟨_, hit', rfl⟩
  done := fun N s Q hr S hQ => wpAny_pyNext_range_end hh (S.raw (.head _)) (by omega) fun h' he' => hQ _ (S.dropTo (tk := s.toks) he')
theorem iter_l {l : Addr} {vs : List Value} {Q : Value → Shared → Prop} {E : Value → Shared → Prop} (S : St σ h₀ N s) (hm : (l, .lst vs) ∈ N) (h : ∀ s' I, s.heap.get? I = none → St σ h₀ ((I, liE l 0) :: N) s' → Q (.ref I) s') :
    wpAny (model prog w) A (pyIter (.ref l)) Q E s := wpAny_pyIter_list (S.isList hm) (h _ _ (get?_size _) (S.push (tk := s.toks) rfl ⟨rfl, rfl⟩))
/-- the loop itself -/
theorem forloop {x : Str} {px : Pos} {body : List Stmt} {I : Addr} {ob : Nat → Ent} {val : Nat → Value → Prop} {req : Led → Prop} {Q : Flow → Shared → Prop} (D : Draw prog w A σ h₀ I n ob val req) (J : Nat → Led → Prop)
    (S : St σ h₀ ((I, ob 0) :: N) s) (h0 : J 0 N) (hreq : ∀ i N, J i N → req N)
    (turn : ∀ i N v s, i < n → J i N → val i v → St σ h₀ ((I, ob (i + 1)) :: N) s → wpAny (model prog w) A (storeName env x v) (fun _ s₁ => wpAny (model prog w) A (execs body env) (fun f s' => match f with
        | .next | .cont => ∃ N', J (i + 1) N' ∧ St σ h₀ ((I, ob (i + 1)) :: N') s'
        | .brk => Q .next s'
        | .ret v => Q (.ret v) s') NoE s₁) NoE s)
    (exit : ∀ N s, J n N → St σ h₀ N s → Q .next s) {E : Value → Shared → Prop} :
    codeAny (model prog w) A (.forLoop (.Name x px) (.ref I) body [] env) (fun r s' => match r with | .ok f => Q f s' | .error e => cameBackBy (model prog w) A env E e s') s := by
  refine codeAny_forLoop (fun k s => ∃ i N, i ≤ n ∧ k = n + 1 - i ∧ J i N ∧ St σ h₀ ((I, ob i) :: N) s) ?_ (n + 1) ⟨0, N, Nat.zero_le _, rfl, h0, S⟩
  rintro k s ⟨i, N, hi, rfl, hJ, S⟩
  have lift : ∀ {α : Type} {t : Sem α} {Q : α → Shared → Prop} {s : Shared} {E : Value → Shared → Prop}, wpAny (model prog w) A t Q NoE s → wpAny (model prog w) A t Q E s := fun h => wpAny_mono h (fun _ _ q => q) fun _ _ e => e.elim
  by_cases hlt : i < n
  · refine lift (D.item i N s _ hlt (hreq _ _ hJ) S fun v s' hv S' => ?_)
    refine wpAny_assign_Name (lift (wpAny_mono (turn i N v s' hlt hJ hv S') (fun _ s₁ h₁ => lift (wpAny_mono h₁ (fun f s₂ h₂ => ?_) fun _ _ e => e)) fun _ _ e => e))
    cases f with
    | next => obtain ⟨N', hJ', S''⟩ := h₂; exact ⟨n + 1 - (i + 1), by omega, i + 1, N', hlt, rfl, hJ', S''⟩
    | cont => obtain ⟨N', hJ', S''⟩ := h₂; exact ⟨n + 1 - (i + 1), by omega, i + 1, N', hlt, rfl, hJ', S''⟩
    | brk => exact h₂
    | ret v => exact h₂
  · have : i = n := by omega
    subst this
    exact lift (D.done N s _ (hreq _ _ hJ) S fun s' S' => wpAny_execs_nil (exit N s' hJ S'))
end
section
variable {prog : Program} {w : World} {A : Around} {σ : Shared} {h₀ : Heap} {N : Led} {s : Shared} {env : Env} {E : Value → Shared → Prop} {mg mb : Str → Option Value} {n : Nat} {ad : Ads}
theorem fdiv_i {a b : Int} {t u : Tok} {Q : Value → Shared → Prop} (S : St σ h₀ N s) (hb : 0 < b) (hp : Builtin.divisionGoesByPylong a b = false) (h : ∀ s' t', St σ h₀ N s' → Q (.int (a / b) t') s') :
    wpAny (model prog w) A (binaryOp .FloorDiv (.int a t) (.int b u)) Q E s := by
  refine floordiv_int (by omega) ?_ (Or.inl hp)
  rw [Int.fdiv_eq_ediv_of_nonneg a (by omega)]
  exact h _ _ S.tok
theorem mod_i {a b : Int} {t u : Tok} {Q : Value → Shared → Prop} (S : St σ h₀ N s) (hb : 0 < b) (h : ∀ s' t', St σ h₀ N s' → Q (.int (a % b) t') s') :
    wpAny (model prog w) A (binaryOp .Mod (.int a t) (.int b u)) Q E s := by
  refine mod_int' (by omega) ?_
  rw [Int.fmod_eq_emod_of_nonneg a (by omega)]
  exact h _ _ S.tok
theorem truthy_l {l : Addr} {vs : List Value} {Q : Bool → Shared → Prop} (S : St σ h₀ N s) (hm : (l, .lst vs) ∈ N) (hz : vs.length < 2 ^ 20) (h : ∀ s', St σ h₀ N s' → Q (!vs.isEmpty) s') :
    wpAny (model prog w) A (truthy (.ref l)) Q E s := by
  have e : (!vs.toArray.isEmpty) = !vs.isEmpty := by cases vs <;> rfl
  exact wpAny_truthy_list (S.isList hm) (by simp; omega) (by rw [e]; exact h _ S.tok)
theorem append_m {l : Addr} {pl : Sem Bool} {vs : List Value} {Q : Value × List Value → Shared → Prop} (S : St σ h₀ N s) (hm : (l, .lst vs) ∈ N) (h : Q (.builtin "list.append", [.ref l]) s) :
    wpAny (model prog w) A (getMethod (.ref l) "append" pl) Q E s := method_l S hm PySem.F.slot_list_append PySem.F.type_list_append h
theorem pop_m {l : Addr} {pl : Sem Bool} {vs : List Value} {Q : Value × List Value → Shared → Prop} (S : St σ h₀ N s) (hm : (l, .lst vs) ∈ N) (h : Q (.builtin "list.pop", [.ref l]) s) :
    wpAny (model prog w) A (getMethod (.ref l) "pop" pl) Q E s := method_l S hm PySem.F.slot_list_pop PySem.F.type_list_pop h
end
local macro_rules | `(tactic| walk_at "m3") => `(tactic| first
  | walk_at "m2"
  | ((with_reducible refine' MethodCall_ (he := ?he) ?_); (case he => exact rfl))
  | ((with_reducible first | refine' append_m ?S ?hm ?_ | refine' pop_m ?S ?hm ?_); (case S => walk_at "st"); (case hm => walk_at "mem"))
  | ((with_reducible refine callWith_method1 (he := ?he) (hplain := ?hp) ?_); (case he | hp => exact rfl))
  | (with_reducible first | refine callWith_method0 ?_ | refine wpAny_Return_some ?_)
  | ((with_reducible refine' fdiv_i ?S ?hb ?hp ?_); (case S => walk_at "st"); (case hb => decide); (case hp => exact PyProof.noPylong_of_log2 (by decide +kernel)); intro s' t' S')
  | ((with_reducible refine' mod_i ?S ?hb ?_); (case S => walk_at "st"); (case hb => decide); intro s' t' S'))
local macro_rules | `(tactic| walk_at "my") => `(tactic| first | walk_at "m3" | with_reducible refine wpAny_execs_cons ?_)
section
variable {prog : Program} {w : World} {A : Around} {σ : Shared} {h₀ : Heap} {N : Led} {s : Shared} {env : Env} {E : Value → Shared → Prop} {mg mb : Str → Option Value} {n : Nat} {ad : Ads}
def pushF (lt : Value → Value → Bool) (vs : List Value) (x : Value) : List Value := sdn lt x vs.length (vs ++ [x]) 0 vs.length
theorem heappush_spec {l : Addr} {vs : List Value} {x : Value} {g : Ent → Led} {V : Led} {el : Value → Prop} {lt : Value → Value → Bool} {Q : Value → Shared → Prop}
    (S : St σ h₀ N s) (W : Wd ad mg mb h₀) (R : Room A (n + 2)) (C : ∀ k, n ≤ k → Cmp prog w h₀ k V el lt) (P : Put l (.lst vs) N g) (hV : ∀ p ∈ V, p ∈ N ∧ p.1 ≠ l)
    (hel : ∀ v ∈ vs, el v) (hx : el x) (hsz : vs.length + 1 < 2 ^ 20)
    (h : ∀ s', St σ h₀ (g (.lst (pushF lt vs x))) s' → Q .none s') :
    wpAny (model prog w) A (call (.ref ad.push) [.ref l, x]) Q E s := by
  refine call_fn S W.G R W.pushF (fun _ _ _ => rfl) rfl ?_
  intro L cd s1 A1 R1 S1
  rw [← P.self] at S1
  generalize hm : (fun y => List.lookup y ((List.map (fun x => x.arg) (fdef 7).snd.fst.args).zip [Value.ref l, x]).reverse) = m at S1
  have f1 : m "heap" = some (.ref l) := by rw [← hm]; rfl
  have f2 : m "item" = some x := by rw [← hm]; rfl
  clear hm
  refine wpAny_execs_cons ?_
  repeat walk_at "my"
  refine append_l (by walk_at "st") (by walk_at "put") (by simp [sizeLine]; omega) ?_
  intro s2 S2
  dsimp only
  repeat walk_at "my"
  have e : ((vs ++ [x]).length : Int) - 1 = (vs.length : Nat) := by simp
  rw [e]
  refine ⟨St.keep (by walk_at "st"), ?_⟩
  refine siftdown_spec (n := n) (st := 0) (x := x) (by walk_at "st") W.G R1 W.sdF (C n (Nat.le_refl _)) (Put.tail (P.again _)) ?_ ?_ ?_ (by simp; omega) ?_
  · intro p hp
    obtain ⟨h1, h2⟩ := hV p hp
    exact ⟨.tail _ (P.other h1 h2 _), h2⟩
  · intro v hv
    rcases List.mem_append.mp hv with hv | hv
    · exact hel v hv
    · rw [List.mem_singleton.mp hv]; exact hx
  · simp
  · intro s5 S5
    dsimp only
    exact wpAny_execs_nil (h s5 (S5.sub (List.sublist_cons_self ..)))
def popF (lt : Value → Value → Bool) (vs : List Value) (y : Value) : Value × List Value := match vs with
  | [] => (y, [])
  | x :: r => (x, siftupF lt (y :: r) 0)
theorem heappop_spec {l : Addr} {vs : List Value} {y : Value} {g : Ent → Led} {V : Led} {el : Value → Prop} {lt : Value → Value → Bool} {Q : Value → Shared → Prop}
    (S : St σ h₀ N s) (W : Wd ad mg mb h₀) (R : Room A (n + 3)) (C : ∀ k, n ≤ k → Cmp prog w h₀ k V el lt) (P : Put l (.lst (vs ++ [y])) N g) (hV : ∀ p ∈ V, p ∈ N ∧ p.1 ≠ l)
    (hel : ∀ v ∈ vs ++ [y], el v) (hsz : vs.length + 1 < 2 ^ 20)
    (h : ∀ s', St σ h₀ (g (.lst (popF lt vs y).2)) s' → Q (popF lt vs y).1 s') :
    wpAny (model prog w) A (call (.ref ad.pop) [.ref l]) Q E s := by
  refine call_fn S W.G R W.popF (fun _ _ _ => rfl) rfl ?_
  intro L cd s1 A1 R1 S1
  rw [← P.self] at S1
  generalize hm : (fun y => List.lookup y ((List.map (fun x => x.arg) (fdef 8).snd.fst.args).zip [Value.ref l]).reverse) = m at S1
  have f1 : m "heap" = some (.ref l) := by rw [← hm]; rfl
  clear hm
  refine wpAny_execs_cons ?_
  repeat walk_at "my"
  refine pop_l (by walk_at "st") (by walk_at "put") (by simp [sizeLine]; omega) ?_
  intro s2 S2
  repeat walk_at "my"
  refine isTrue_plain ?_
  repeat walk_at "my"
  refine truthy_l (by walk_at "st") (by walk_at "mem") (by omega) ?_
  intro s3 S3
  cases vs with
  | nil =>
    refine ite_ff ?_
    repeat walk_at "my"
    exact h _ (S3.sub (List.sublist_cons_self ..))
  | cons x r =>
    rw [List.length_cons] at hsz
    refine ite_tt ?_
    repeat walk_at "my"
    refine sub_n 0 (by walk_at "st") (by walk_at "mem") rfl (by simp) (by rw [List.length_cons]; omega) ?_
    repeat walk_at "my"
    refine setitem_n 0 (by walk_at "st") (by walk_at "put") rfl (by simp) (by rw [List.length_cons]; omega) ?_
    intro s4 S4
    dsimp only
    repeat walk_at "my"
    refine ⟨St.keep (by walk_at "st"), ?_⟩
    refine siftup_spec (n := n) (pos := 0) (by walk_at "st") W R1 C (Put.tail (P.again _)) ?_ ?_ (by simp) (by simp; omega) ?_
    · intro p hp
      obtain ⟨h1, h2⟩ := hV p hp
      exact ⟨.tail _ (P.other h1 h2 _), h2⟩
    · intro v hv
      rcases List.mem_cons.mp hv with rfl | hv
      · exact hel _ (by simp)
      · exact hel v (by simp [hv])
    · intro s5 S5
      dsimp only
      repeat walk_at "my"
      exact h _ (S5.sub (List.sublist_cons_self ..))
end
section
variable {prog : Program} {w : World} {A : Around} {σ : Shared} {h₀ : Heap} {N : Led} {s : Shared} {env : Env} {E : Value → Shared → Prop} {mg mb : Str → Option Value} {n : Nat} {ad : Ads}
def rangeE (a b : Int) : Ent := .sat fun o => ∃ t u v, o = { cls := .type "range", dict := none, data := .fields #[.int a t, .int b u, .int 1 v], slots := #[] }
def rgE (a c : Int) (n : Nat) : Nat → Ent := fun i => riE (a + (i : Nat) * c) ((n : Int) - (i : Nat)) c
theorem range1 {k : Int} {t : Tok} {Q : Value → Shared → Prop} (S : St σ h₀ N s) (h : ∀ s' r, s.heap.get? r = none → St σ h₀ ((r, rangeE 0 k) :: N) s' → Q (.ref r) s') :
    wpAny (model prog w) A (call (.type "range") [.int k t]) Q E s :=
  call_range_1 (h _ _ (get?_size _) (S.push rfl ⟨_, _, _, rfl⟩))
theorem range2 {a b : Int} {t u : Tok} {Q : Value → Shared → Prop} (S : St σ h₀ N s) (h : ∀ s' r, s.heap.get? r = none → St σ h₀ ((r, rangeE a b) :: N) s' → Q (.ref r) s') :
    wpAny (model prog w) A (call (.type "range") [.int a t, .int b u]) Q E s :=
  call_range_2 (h _ _ (get?_size _) (S.push rfl ⟨_, _, _, rfl⟩))
theorem iter_r {r : Addr} {a b : Int} {k : Nat} {Q : Value → Shared → Prop} (S : St σ h₀ N s) (hm : (r, rangeE a b) ∈ N) (hk : b - a = k) (ha : -(2 ^ 62) ≤ a) (hb : b < 2 ^ 62) (h : ∀ s' I, s.heap.get? I = none → St σ h₀ ((I, rgE a 1 k 0) :: N) s' → Q (.ref I) s') :
    wpAny (model prog w) A (pyIter (.ref r)) Q E s := by
  obtain ⟨o, ho, t, u, v, rfl⟩ := S.at hm
  refine wpAny_pyIter_range ho (small_one (by omega) (by omega) (by omega) (by omega)) (h _ _ (get?_size _) (S.push (tk := s.toks) rfl ?_))
  have e : Builtin.Range.rangeSize a b 1 = k := by rw [rangeSize_one]; split <;> omega
  rw [e]
  show _ = _
  simp
theorem iter_ri {I : Addr} {a c : Int} {k i : Nat} {Q : Value → Shared → Prop} (S : St σ h₀ N s) (hm : (I, rgE a c k i) ∈ N) (h : Q (.ref I) s) : wpAny (model prog w) A (pyIter (.ref I)) Q E s :=
  wpAny_pyIter_rangeiter (S.raw hm) h
def Astar (d u : Nat) : Around := { handled := none, depth := d, frames := none, guards := none, units := u }
theorem wp_star {α : Type} {M : Model} {t : Sem α} {Q : α → Shared → Prop} {d u : Nat} (hh : A.handled = none) (hd : A.depth ≤ d) (hu : A.units ≤ u) (h : wpAny M (Astar d u) t Q E s) : wpAny M A t Q E s :=
  fun Γ p hΓ => h Γ p ⟨hΓ.1.trans hh, Nat.le_trans hΓ.2.1 hd, fun _ e => (by cases e), fun _ e => (by cases e), Nat.le_trans hΓ.2.2.2.2 hu⟩
end
local macro_rules | `(tactic| walk_at "m4") => `(tactic| first
  | walk_at "m3"
  | ((with_reducible refine PyProof.Rows.callWith_type1 (he := ?he) (hplain := ?hp) ?_); (case he | hp => exact rfl))
  | ((with_reducible first | refine' range1 ?S ?_ | refine' range2 ?S ?_); (case S => walk_at "st"); intro s' r' n' S')
  | ((with_reducible refine wpAny_For (hs := ?hs) ?_); (case hs => intro _; exact rfl)))
local macro_rules | `(tactic| walk_at "mz") => `(tactic| first | walk_at "m4" | with_reducible refine wpAny_execs_cons ?_)
section
variable {prog : Program} {w : World} {A : Around} {σ : Shared} {h₀ : Heap} {N : Led} {s : Shared} {env : Env} {E : Value → Shared → Prop} {mg mb : Str → Option Value} {n : Nat} {ad : Ads}
theorem sub_ri_reversed : isSubtype (.type "range_iterator") (.type "reversed") = pure false := by rw [isSubtype_type]; kernel_rfl
def riObj (x left step : Int) : Obj := { cls := .type "range_iterator", dict := none, data := .fields #[rawInt x, rawInt left, rawInt step], slots := #[] }
theorem call_rrev {r : Addr} {k : Nat} {t u v : Tok} {Q : Value → Shared → Prop} (hk : k < 2 ^ 62) (hr : s.heap.get? r = some { cls := .type "range", dict := none, data := .fields #[.int 0 t, .int (k : Int) u, .int 1 v], slots := #[] })
    (h : Q (.ref s.heap.objs.size) { s with heap := s.heap.push (riObj ((k : Int) - 1) k (-1)) }) : wpAny (model prog w) A (call (.builtin "range.__reversed__") [.ref r]) Q E s := by
  have hT : s.TypeIs (.ref r) "range" := ⟨_, hr, rfl⟩
  refine wpAny_call_entry PySem.F.slot_range_reversed hT PySem.F.entry_range_reversed ?_ (PySem.F.args_range_reversed_1 _)
  unfold Builtin.«range.__reversed__»
  refine wpAny_bind (wpAny_of_eq (a := Value.ref r) rfl ?_)
  have hf : ∀ {Q' : Int × Int × Int → Shared → Prop} {E'}, Q' (0, (k : Int), 1) s → wpAny (model prog w) A.in1 (Builtin.Range.rangeFields (.ref r)) Q' E' s := by
    intro Q' E' hq
    unfold Builtin.Range.rangeFields
    refine wpAny_bind (wpAny_field hr rfl (x := .int 0 t) rfl ?_)
    refine wpAny_bind (wpAny_of_eq (a := some (0 : Int)) rfl ?_)
    refine wpAny_bind (wpAny_field hr rfl (x := .int k u) rfl ?_)
    refine wpAny_bind (wpAny_of_eq (a := some (k : Int)) rfl ?_)
    refine wpAny_bind (wpAny_field hr rfl (x := .int 1 v) rfl ?_)
    refine wpAny_bind (wpAny_of_eq (a := some (1 : Int)) rfl ?_)
    exact wpAny_pure hq
  refine wpAny_bind (hf ?_)
  dsimp only
  have e1 : Builtin.Range.rangeSize 0 (k : Int) 1 = k := by rw [rangeSize_one]; split <;> omega
  have e2 : (Builtin.Range.rangeFitsLong 0 && Builtin.Range.rangeFitsLong (k : Int) && Builtin.Range.rangeFitsLong 1 && Builtin.Range.rangeFitsLong (-1) && Builtin.Range.rangeFitsLong (0 - 1) && Builtin.Range.rangeFitsLong (k : Int)) = true := by
    simp only [Builtin.Range.rangeFitsLong, Bool.and_eq_true, decide_eq_true_eq]
    omega
  rw [e1, e2]
  simp only [Bool.not_true, Bool.false_eq_true, if_false, if_true]
  refine wpAny_bind (wpAny_newObj_type (wpAny_pure ⟨_, rfl, ?_⟩))
  have e3 : (0 : Int) + ((k : Int) - 1) * 1 = (k : Int) - 1 := by omega
  rw [e3]
  exact h
theorem code_rev_new {r : Addr} {k : Nat} {t u v : Tok} {Q₁ : Value → Shared → Prop} (hk : k < 2 ^ 62) (hr : s.heap.get? r = some { cls := .type "range", dict := none, data := .fields #[.int 0 t, .int (k : Int) u, .int 1 v], slots := #[] })
    (h : Q₁ (.ref s.heap.objs.size) { s with heap := s.heap.push (riObj ((k : Int) - 1) k (-1)) }) :
    codeAny (model prog w) A (.call (.builtin "reversed.__new__") ⟨[.type "reversed", .ref r], []⟩) (wants Q₁ E) s := by
  have hT : s.TypeIs (.ref r) "range" := ⟨_, hr, rfl⟩
  refine codeAny_of_tree ?_
  show wpAny _ A.in1 (do checkBuiltinCall "reversed.__new__" ⟨[.type "reversed", .ref r], []⟩; again (.builtin "reversed.__new__" ⟨[.type "reversed", .ref r], []⟩)) _ _ s
  refine wpAny_bind (wpAny_of_eq (F.newCall_reversed_1 _) (wpAny_pure ⟨plainId_quiet F.plain_reversed_new _, codeAny_builtin F.entry_reversed_new ?_⟩))
  rw [Around.under_plainId F.plain_reversed_new _]
  unfold Builtin.«reversed.__new__»
  refine wpAny_bind (wpAny_of_eq (newClass_reversed _) ?_)
  try dsimp only
  refine wpAny_bind (wpAny_of_eq (a := ()) (by first | rfl | kernel_rfl) ?_)
  refine wpAny_bind (wpAny_of_eq (a := ()) (by first | rfl | kernel_rfl) ?_)
  try dsimp only
  refine wpAny_bind (wpAny_specialOf hT PySem.F.slot_range_reversed.lookup ?_)
  try dsimp only
  refine wpAny_bind (wpAny_of_eq (PySem.F.slot_range_reversed.bind _) ?_)
  try dsimp only
  rw [if_neg (show ¬ ((Value.builtin "range.__reversed__" == Value.none) = true) from Bool.false_ne_true)]
  refine wpAny_bind (wpAny_rule ?_)
  refine wpAny_bind (m := runValue (.call (.builtin "range.__reversed__") ⟨[.ref r], []⟩)) (show wpAny _ _ (call (.builtin "range.__reversed__") [.ref r]) _ _ _ from call_rrev hk hr ?_)
  exact wpAny_pure h
theorem rev_r {r : Addr} {k : Nat} {Q : Value → Shared → Prop} (S : St σ h₀ N s) (hm : (r, rangeE 0 k) ∈ N) (hk : k < 2 ^ 62) (h : ∀ s' I, s.heap.get? I = none → St σ h₀ ((I, rgE ((k : Int) - 1) (-1) k 0) :: N) s' → Q (.ref I) s') :
    wpAny (model prog w) A (call (.type "reversed") [.ref r]) Q E s := by
  obtain ⟨o, hr, t, u, v, rfl⟩ := S.at hm
  refine callType_other (U := "range_iterator") (Q₁ := fun obj s₁ => obj = .ref s.heap.objs.size ∧ s₁ = { s with heap := s.heap.push (riObj ((k : Int) - 1) k (-1)) }) (by decide +kernel) F.create_reversed ⟨_, _, F.mro_reversed⟩ F.made_reversed sub_ri_reversed (F.typeCall_reversed_1 _) (code_rev_new hk hr ⟨rfl, rfl⟩) ?_
  rintro obj s₁ ⟨rfl, rfl⟩
  refine ⟨⟨_, Heap.get?_push_size _ rfl, rfl⟩, h _ _ (get?_size _) (S.push (tk := s.toks) rfl ?_)⟩
  show _ = _
  simp [riObj]
def hfyF (lt : Value → Value → Bool) : Nat → List Value → List Value
  | 0, vs => vs
  | k + 1, vs => hfyF lt k (siftupF lt vs k)
theorem sdn_facts (lt : Value → Value → Bool) (x : Value) (st : Nat) : ∀ (f : Nat) (vs : List Value) (p : Nat), (sdn lt x f vs st p).length = vs.length ∧ ∀ v ∈ sdn lt x f vs st p, v = x ∨ v ∈ vs := by
  intro f
  induction f with
  | zero =>
    intro vs p
    refine ⟨by simp [sdn], fun v hv => ?_⟩
    rcases List.mem_or_eq_of_mem_set hv with q | q
    · exact .inr q
    · exact .inl q
  | succ f ih =>
    intro vs p
    have base : (vs.set p x).length = vs.length ∧ ∀ v ∈ vs.set p x, v = x ∨ v ∈ vs := by
      refine ⟨by simp, fun v hv => ?_⟩
      rcases List.mem_or_eq_of_mem_set hv with q | q
      · exact .inr q
      · exact .inl q
    unfold sdn
    split
    · cases hy : vs[(p - 1) / 2]? with
      | none => exact base
      | some y =>
        dsimp only
        split
        · obtain ⟨h1, h2⟩ := ih (vs.set p y) ((p - 1) / 2)
          refine ⟨by rw [h1]; simp, fun v hv => ?_⟩
          rcases h2 v hv with q | q
          · exact .inl q
          · rcases List.mem_or_eq_of_mem_set q with q | q
            · exact .inr q
            · exact .inr (q ▸ List.mem_of_getElem? hy)
        · exact base
    · exact base
theorem siftupF_facts (lt : Value → Value → Bool) (vs : List Value) (p : Nat) (hp : p < vs.length) : (siftupF lt vs p).length = vs.length ∧ ∀ v ∈ siftupF lt vs p, v ∈ vs := by
  obtain ⟨q1, q2, q3, q4⟩ := sup_facts lt (vs.length - p) vs p hp
  unfold siftupF
  dsimp only
  have hx : vs.getD p .none ∈ vs := List.mem_of_getElem? (getD_some hp)
  obtain ⟨h1, h2⟩ := sdn_facts lt (vs.getD p .none) p (sup lt (vs.length - p) vs p).2 ((sup lt (vs.length - p) vs p).1.set (sup lt (vs.length - p) vs p).2 (vs.getD p .none)) (sup lt (vs.length - p) vs p).2
  refine ⟨by rw [h1, List.length_set, q1], fun v hv => ?_⟩
  rcases h2 v hv with q | q
  · rw [q]; exact hx
  · rcases List.mem_or_eq_of_mem_set q with q | q
    · exact q4 v q
    · rw [q]; exact hx
theorem heapify_spec {l : Addr} {vs : List Value} {g : Ent → Led} {V : Led} {el : Value → Prop} {lt : Value → Value → Bool} {Q : Value → Shared → Prop}
    (S : St σ h₀ N s) (W : Wd ad mg mb h₀) (R : Room A (n + 3)) (C : ∀ k, n ≤ k → Cmp prog w h₀ k V el lt) (P : Put l (.lst vs) N g) (hV : ∀ p ∈ V, p ∈ N ∧ p.1 ≠ l)
    (hel : ∀ v ∈ vs, el v) (hsz : vs.length < 2 ^ 20)
    (h : ∀ s', St σ h₀ (g (.lst (hfyF lt (vs.length / 2) vs))) s' → Q .none s') :
    wpAny (model prog w) A (call (.ref ad.hfy) [.ref l]) Q E s := by
  refine call_fn S W.G R W.hfyF (fun _ _ _ => rfl) rfl ?_
  intro L cd s1 A1 R1 S1
  rw [← P.self] at S1
  generalize hm : (fun y => List.lookup y ((List.map (fun x => x.arg) (fdef 9).snd.fst.args).zip [Value.ref l]).reverse) = m at S1
  have f1 : m "x" = some (.ref l) := by rw [← hm]; rfl
  clear hm
  refine wpAny_execs_cons ?_
  repeat walk_at "mz"
  have e2 : (vs.length : Int) / 2 = ((vs.length / 2 : Nat) : Int) := by omega
  rw [e2] at *
  refine rev_r (k := vs.length / 2) (by walk_at "st") (by walk_at "mem") (by omega) ?_
  intro s3 I hI S3
  refine iter_ri (S3) (.head _) ?_
  generalize hk : vs.length / 2 = k at *
  refine forloop (draw_range R1.h I ((k : Int) - 1) (-1) k) (fun i N' => ∃ (m : Str → Option Value) (vs' : List Value), N' = (L, .ns m) :: g (.lst vs') ∧ m "x" = some (.ref l) ∧ vs'.length = vs.length ∧ (∀ v ∈ vs', v ∈ vs) ∧
      hfyF lt (k - i) vs' = hfyF lt k vs) (S3.sub (.cons_cons _ (.cons _ (.refl _)))) ⟨_, vs, rfl, f1, rfl, fun _ h => h, rfl⟩ (fun _ _ _ => trivial) ?_ ?_
  · rintro i N' v s4 hi ⟨m', vs', rfl, g1, hl', hm', hR⟩ ⟨t, rfl⟩ S4
    have hv : (k : Int) - 1 + (i : Nat) * -1 = ((k - 1 - i : Nat) : Int) := by omega
    rw [hv]
    repeat walk_at "mz"
    refine ⟨St.keep (by walk_at "st"), ?_⟩
    refine siftup_spec (n := n) (by walk_at "st") W R1 C (Put.tail (Put.tail (P.again _))) ?_ (fun v hv => hel v (hm' v hv)) (by omega) (by omega) ?_
    · intro p hp
      obtain ⟨h1, h2⟩ := hV p hp
      exact ⟨.tail _ (.tail _ (P.other h1 h2 _)), h2⟩
    intro s5 S5
    dsimp only
    refine wpAny_execs_nil ?_
    obtain ⟨q1, q2⟩ := siftupF_facts lt vs' (k - 1 - i) (by omega)
    refine ⟨_, ⟨_, siftupF lt vs' (k - 1 - i), rfl, ?_, by rw [q1, hl'], fun v hv => hm' v (q2 v hv), ?_⟩, S5⟩
    · exact g1
    rw [← hR]
    have e : k - i = (k - (i + 1)) + 1 := by omega
    have e' : k - (i + 1) = k - 1 - i := by omega
    rw [e, hfyF, e']
  · rintro N' s4 ⟨m', vs', rfl, g1, hl', hm', hR⟩ S4
    dsimp only
    refine wpAny_execs_nil (h s4 ?_)
    rw [← hR, Nat.sub_self]
    exact S4.sub (List.sublist_cons_self ..)
end
section
variable {prog : Program} {w : World} {A : Around} {σ : Shared} {h₀ : Heap} {N : Led} {s : Shared} {env : Env} {E : Value → Shared → Prop} {mg mb : Str → Option Value} {n : Nat} {ad : Ads}
theorem addlist {a b : Addr} {vs ws : List Value} {Q : Value → Shared → Prop} (S : St σ h₀ N s) (ha : (a, .lst vs) ∈ N) (hb : (b, .lst ws) ∈ N) (hsz : vs.length + ws.length ≤ sizeLine)
    (h : ∀ s' c, s.heap.get? c = none → St σ h₀ ((c, .lst (vs ++ ws)) :: N) s' → Q (.ref c) s') : wpAny (model prog w) A (binaryOp .Add (.ref a) (.ref b)) Q E s := by
  obtain ⟨n1, h1⟩ := S.lst ha
  obtain ⟨n2, h2⟩ := S.lst hb
  have e : vs.toArray ++ ws.toArray = (vs ++ ws).toArray := by simp
  refine concat_meets ⟨_, h1, rfl⟩ ⟨_, h2, rfl⟩ noFill_list_add seq_list_add PySem.F.slot_list_add PySem.F.entry_list_add (PySem.F.args_list_add_2 _ _) (list_addW a b vs.toArray ws.toArray n1 n2 none none #[] #[] (by simpa using hsz)) ⟨h1, h2, ?_⟩
  rw [e]
  exact h _ _ (get?_size _) (S.push (tk := s.toks) rfl ⟨0, rfl⟩)
end
/-- ints as values -/
inductive Ints : List Value → List Int → Prop where
  | nil : Ints [] []
  | cons {i : Int} {t : Tok} {vs : List Value} {ns : List Int} : Ints vs ns → Ints (.int i t :: vs) (i :: ns)
theorem Ints.length {vs : List Value} {ns : List Int} (h : Ints vs ns) : vs.length = ns.length := by
  induction h with
  | nil => rfl
  | cons _ ih => simp [ih]
theorem Ints.append {vs ws : List Value} {ns ms : List Int} (h : Ints vs ns) (h' : Ints ws ms) : Ints (vs ++ ws) (ns ++ ms) := by
  induction h with
  | nil => exact h'
  | cons _ ih => exact .cons ih
theorem Ints.get {vs : List Value} {ns : List Int} (h : Ints vs ns) : ∀ (i : Nat) (v : Value), vs[i]? = some v → ∃ t, v = .int (ns.getD i 0) t := by
  induction h with
  | nil => intro i v hv; simp at hv
  | cons _ ih =>
    intro i v hv
    cases i with
    | zero => simp at hv; exact ⟨_, by simp [← hv]; rfl⟩
    | succ i => simp at hv; simpa using ih i v hv
theorem Ints.are {vs : List Value} {ns : List Int} (h : Ints vs ns) : IntsAre vs ns := by
  induction h with
  | nil => exact .nil
  | cons _ ih => exact .cons _ _ ih
theorem Ints.of {vs : List Value} {ns : List Int} (h : IntsAre vs ns) : Ints vs ns := by
  induction h with
  | nil => exact .nil
  | cons _ _ _ ih => exact .cons ih
local macro_rules | `(tactic| walk_at "m5") => `(tactic| first
  | walk_at "m4"
  | with_reducible refine List_ ?_
  | ((with_reducible refine' newlist ?S ?hz ?_); (case S => walk_at "st"); (case hz => first | decide | (simp [sizeLine]; done) | (simp [sizeLine]; omega)); intro s' a' n' S')
  | ((with_reducible refine' addlist ?S ?ha ?hb ?hz ?_); (case S => walk_at "st"); (case ha | hb => walk_at "mem"); (case hz => first | (simp [sizeLine]; done) | (simp [sizeLine]; omega)); intro s' a' n' S'))
local macro_rules | `(tactic| walk_at "mw") => `(tactic| first | walk_at "m5" | with_reducible refine wpAny_execs_cons ?_)
section
variable {prog : Program} {w : World} {A : Around} {σ : Shared} {h₀ : Heap} {N : Led} {s : Shared} {env : Env} {E : Value → Shared → Prop} {mg mb : Str → Option Value} {n : Nat} {ad : Ads}
/-- the octets ahead of what is there -/
def octG : Nat → Nat → List Int → List Int
  | 0, _, acc => acc
  | f + 1, k, acc => if k = 0 then acc else octG f (k / 64) (((k % 64 + 64 : Nat) : Int) :: acc)
def octF (k : Nat) : List Int := octG k (k / 64) [((k % 64 : Nat) : Int)]
theorem octG_fuel : ∀ (f k : Nat) (acc : List Int), k ≤ f → octG f k acc = octG k k acc := by
  intro f
  induction f using Nat.strongRecOn with
  | ind f ih =>
    intro k acc hk
    cases k with
    | zero => cases f <;> rfl
    | succ k =>
      cases f with
      | zero => omega
      | succ f =>
        simp only [octG, Nat.succ_ne_zero, if_false]
        rw [ih f (by omega) _ _ (by omega), ih k (by omega) _ _ (by omega)]
theorem octets_spec {k : Nat} {t : Tok} {Q : Value → Shared → Prop} (S : St σ h₀ N s) (W : Wd ad mg mb h₀) (R : Room A (n + 1)) (hk : k < 2 ^ 24)
    (h : ∀ s' a vs, Ints vs (octF k) → St σ h₀ ((a, .lst vs) :: N) s' → Q (.ref a) s') :
    wpAny (model prog w) A (call (.ref ad.oct) [.int (k : Int) t]) Q E s := by
  refine call_fn S W.G R W.octF (fun _ _ _ => rfl) rfl ?_
  intro L cd s1 A1 R1 S1
  generalize hm : (fun y => List.lookup y ((List.map (fun x => x.arg) (fdef 13).snd.fst.args).zip [Value.int (k : Int) t]).reverse) = m at S1
  have f1 : m "number" = some (.int (k : Int) t) := by rw [← hm]; rfl
  clear hm
  refine wpAny_execs_cons ?_
  repeat walk_at "mw"
  rename_i s2 S2
  refine while_x (fun j s => ∃ (a : Addr) (vs : List Value) (acc : List Int) (m : Str → Option Value), St σ h₀ ((a, .lst vs) :: (L, .ns m) :: N) s ∧ Ints vs acc ∧ acc.length + j ≤ k + 1 ∧ octG j j acc = octF k ∧
      m "octets" = some (.ref a) ∧ (∃ t, m "number" = some (.int (j : Int) t)))
    (fun s => ∃ (a : Addr) (vs : List Value) (m : Str → Option Value), St σ h₀ ((a, .lst vs) :: (L, .ns m) :: N) s ∧ Ints vs (octF k) ∧ m "octets" = some (.ref a))
    (k / 64) ⟨_, _, [((k % 64 : Nat) : Int)], _, S2, ?_, ?_, ?_, rfl, ?_⟩ ?_ ?_
  · rw [show (((k % 64 : Nat) : Int)) = (k : Int) % 64 by omega]
    exact .cons .nil
  · simp; omega
  · unfold octF
    exact (octG_fuel k (k / 64) _ (by omega)).symm
  · rw [show (((k / 64 : Nat) : Int)) = (k : Int) / 64 by omega]
    exact ⟨_, rfl⟩
  · rintro j s3 ⟨a, vs, acc, m', S3, hi, hl, hR, g1, ⟨t2, g2⟩⟩
    have hvl := hi.length
    repeat walk_at "mw"
    rename_i s3' t3' S3'
    by_cases hj : 0 < j
    · rw [if_pos (by simpa using hj)]
      repeat walk_at "mw"
      rename_i s9 S9
      dsimp only
      refine ⟨j / 64, by omega, _, _, ((j % 64 + 64 : Nat) : Int) :: acc, _, S9.sub (.cons_cons _ (.cons _ (.cons _ (.refl _)))), ?_, ?_, ?_, rfl, ?_⟩
      · rw [show (((j % 64 + 64 : Nat) : Int)) = (j : Int) % 64 + 64 by omega]
        exact .cons hi
      · rw [List.length_cons]; omega
      · rw [← hR]
        have e : octG j j acc = octG (j - 1) (j / 64) (((j % 64 + 64 : Nat) : Int) :: acc) := by
          cases j with
          | zero => omega
          | succ j => simp only [octG, Nat.succ_ne_zero, if_false, Nat.add_sub_cancel]
        rw [e]
        exact (octG_fuel (j - 1) (j / 64) _ (by omega)).symm
      · rw [show (((j / 64 : Nat) : Int)) = (j : Int) / 64 by omega]
        exact ⟨_, rfl⟩
    · rw [if_neg (by simpa using hj)]
      have : j = 0 := by omega
      subst this
      exact ⟨a, vs, m', S3'.sub (.refl _), by rw [← hR]; exact hi, g1⟩
  · rintro s3 ⟨a, vs, m', S3, hi, g1⟩
    dsimp only
    repeat walk_at "mw"
    exact h _ _ _ hi (S3.sub (.cons_cons _ (List.sublist_cons_self ..)))
end
section
variable {prog : Program} {w : World} {A : Around} {σ : Shared} {h₀ : Heap} {N : Led} {s : Shared} {env : Env} {E : Value → Shared → Prop} {mg mb : Str → Option Value} {n : Nat} {ad : Ads}
/-- a bytes' iterator -/
def biE (b : Array UInt8) (t : Tok) (i : Nat) : Ent := .sat fun o => o.cls = .type "bytes_iterator" ∧ o.data = .fields #[.bytes b t, .int i 0]
theorem St.bi {I : Addr} {b : Array UInt8} {t : Tok} {i : Nat} (S : St σ h₀ N s) (hm : (I, biE b t i) ∈ N) : KBw.IsBytesIter s.heap I b t i := by
  obtain ⟨o, ho, hc, hd⟩ := S.at hm
  exact ⟨o, ho, hc, hd⟩
theorem tobytes {l : Addr} {vs : List Value} {ns : List Int} {Q : Value → Shared → Prop} (S : St σ h₀ N s) (hh : A.handled = none) (hm : (l, .lst vs) ∈ N) (hi : Ints vs ns) (hr : ∀ n ∈ ns, 0 ≤ n ∧ n < 256) (hz : vs.length ≤ sizeLine)
    (h : ∀ s' t, St σ h₀ N s' → Q (.bytes (byteArr ns) t) s') : wpAny (model prog w) A (call (.type "bytes") [.ref l]) Q E s :=
  call_bytes_ints (S.isList hm) hi.are hr hz hh fun _ _ _ hk => h _ _ (S.ext hk)
theorem iterb {b : Array UInt8} {t : Tok} {Q : Value → Shared → Prop} (S : St σ h₀ N s) (h : ∀ s' I, s.heap.get? I = none → St σ h₀ ((I, biE b t 0) :: N) s' → Q (.ref I) s') :
    wpAny (model prog w) A (call (.builtin "iter") [.bytes b t]) Q E s := by
  refine call_function_entry (by decide +kernel) (by decide +kernel) kdk_entry_iter (kdk_args_iter _) ?_
  unfold Builtin.«iter»
  refine wpAny_bind (m := someArgs "iter" 1 2 _) (wpAny_of_eq (a := [Value.bytes b t]) (by first | rfl | kernel_rfl!) ?_)
  show wpAny _ _ (pyIter (.bytes b t) >>= _) _ _ _
  refine wpAny_bind (KBw.pyIter_bytes ?_)
  exact wpAny_pure ⟨_, rfl, h _ _ (get?_size _) (S.push (tk := s.toks) rfl ⟨rfl, rfl⟩)⟩
theorem nextb {I : Addr} {b : Array UInt8} {t : Tok} {i : Nat} {c : UInt8} {g : Ent → Led} {Q : Value → Shared → Prop} (S : St σ h₀ N s) (P : Put I (biE b t i) N g) (hx : b[i]? = some c)
    (h : ∀ s' t', St σ h₀ (g (biE b t (i + 1))) s' → Q (.int (c.toNat : Int) t') s') : wpAny (model prog w) A (call (.builtin "next") [.ref I]) Q E s := by
  have hit := S.bi P.mem
  obtain ⟨o, ho, hc, hd⟩ := id hit
  refine call_function_entry (by decide +kernel) (by decide +kernel) kdk_entry_next (kdk_args_next _) ?_
  unfold Builtin.«next»
  refine wpAny_bind (m := someArgs "next" 1 2 _) (wpAny_of_eq (a := [Value.ref I]) (by first | rfl | kernel_rfl!) ?_)
  dsimp only
  refine wpAny_bind (wpAny_specialOf (name := Str.ofString "__next__") (KBw.iter_typeIs hit) KBw.slot_next.lookup ?_)
  refine wpAny_ite_split (fun hab => absurd hab (by decide)) (fun _ => ?_)
  refine wpAny_bind (wpAny_callSpecial?_slot (name := Str.ofString "__next__") (KBw.iter_typeIs hit) KBw.slot_next (wpAny_call_entry KBw.slot_next (KBw.iter_typeIs hit) KBw.entry_next ?_ (KBw.args_next _)))
  show wpAny _ _ (field (.ref I) 0 >>= _) _ _ s
  refine wpAny_bind (wpAny_field ho hd (x := .bytes b t) rfl ?_)
  show wpAny _ _ (if (Value.bytes b t == Value.none) = true then _ else _) _ _ s
  rw [if_neg (show ¬ ((Value.bytes b t == Value.none) = true) from Bool.false_ne_true)]
  show wpAny _ _ (field (.ref I) 1 >>= _) _ _ s
  refine wpAny_bind (wpAny_field ho hd (x := .int i 0) rfl ?_)
  refine wpAny_bind (wpAny_of_eq (a := b) rfl ?_)
  simp only [Int.toNat_natCast, hx]
  refine wpAny_bind (wpAny_setField ho hd (by simp) (wpAny_bind (wpAny_mkInt (wpAny_pure ⟨_, rfl, wpAny_pure ⟨_, rfl, h _ _ (S.put P (Heap.SameBut.update ..) ?_)⟩⟩))))
  exact ⟨_, Heap.get?_update_self _ ho (Obj.isFreed_of_fields (Obj.data_mapFields hd _)), (Obj.cls_mapFields ..).trans hc, by
    rw [Obj.data_mapFields hd]; simp [rawInt]⟩
theorem and63 (c : Nat) : Builtin.bitAnd (c : Int) 63 = ((c % 64 : Nat) : Int) := by
  show ((c &&& 63 : Nat) : Int) = _
  rw [show (63 : Nat) = 2 ^ 6 - 1 from rfl, Nat.and_two_pow_sub_one_eq_mod]
theorem and64 {c : Nat} (h : c < 128) : Builtin.bitAnd (c : Int) 64 = if c < 64 then 0 else 64 := by
  show ((c &&& 64 : Nat) : Int) = _
  have : ∀ c, c < 128 → (c &&& 64) = if c < 64 then 0 else 64 := by decide +kernel
  rw [this c h]
  split <;> rfl
theorem bitOr_nat (a b : Nat) : Builtin.bitOr (a : Int) (b : Int) = ((a ||| b : Nat) : Int) := by
  have hn : ∀ x : Nat, decide (0 ≤ Builtin.bitNot (x : Int)) = false := fun x => decide_eq_false (by unfold Builtin.bitNot; omega)
  have hnn : ∀ x : Nat, (Builtin.bitNot (Builtin.bitNot (x : Int))) = x := fun x => by unfold Builtin.bitNot; omega
  unfold Builtin.bitOr Builtin.bitAnd
  rw [hn a, hn b]
  dsimp only
  rw [hnn, hnn, hnn]
  rfl
theorem or6 (v c : Nat) : Builtin.bitOr ((v : Int) * 2 ^ Int.toNat 6) ((c % 64 : Nat) : Int) = ((v * 64 + c % 64 : Nat) : Int) := by
  have e : (v : Int) * 2 ^ Int.toNat 6 = ((2 ^ 6 * v : Nat) : Int) := by
    show (v : Int) * 64 = _
    push_cast
    omega
  rw [e]
  rw [bitOr_nat]
  rw [← Nat.two_pow_add_eq_or_of_lt (show c % 64 < 2 ^ 6 by omega)]
  congr 1
  omega
/-- reading on: what is read so far, the last octet, the rest -/
def dec : Nat → Nat → List Nat → Nat × List Nat
  | v, b, [] => if b < 64 then (v, []) else (v, [128])
  | v, b, c :: r => if b < 64 then (v, c :: r) else dec (v * 64 + c % 64) c r
theorem dec_le : ∀ (r : List Nat) (v b : Nat), v ≤ (dec v b r).1
  | [], v, b => by unfold dec; split <;> exact Nat.le_refl _
  | c :: r, v, b => by
    unfold dec
    split
    · exact Nat.le_refl _
    · have := dec_le r (v * 64 + c % 64) c
      omega
def hiO : Nat → Nat → List Nat
  | 0, _ => []
  | f + 1, j => if j = 0 then [] else hiO f (j / 64) ++ [j % 64 + 64]
theorem octG_hi : ∀ (f j : Nat) (acc : List Int), octG f j acc = (hiO f j).map (fun c : Nat => (c : Int)) ++ acc
  | 0, _, acc => by simp [octG, hiO]
  | f + 1, j, acc => by
    unfold octG hiO
    split
    · rfl
    · rw [octG_hi f]
      simp
theorem hiO_dec : ∀ (f j : Nat) (rs : List Nat), j ≤ f → 0 < j → ∃ b r, hiO f j ++ rs = b :: r ∧ 64 ≤ b ∧ dec (b % 64) b r = dec j (j % 64 + 64) rs := by
  intro f
  induction f with
  | zero => intro j rs h1 h2; omega
  | succ f ih =>
    intro j rs h1 h2
    unfold hiO
    rw [if_neg (by omega)]
    by_cases hq : j / 64 = 0
    · have e : hiO f (j / 64) = [] := by rw [hq]; cases f <;> simp [hiO]
      rw [e]
      refine ⟨j % 64 + 64, rs, rfl, by omega, ?_⟩
      have e1 : (j % 64 + 64) % 64 = j := by omega
      rw [e1]
    · obtain ⟨b, r, e, hb, hd⟩ := ih (j / 64) ((j % 64 + 64) :: rs) (by omega) (by omega)
      refine ⟨b, r, by rw [← e]; simp, hb, ?_⟩
      rw [hd, dec, if_neg (by omega)]
      have : j / 64 * 64 + (j % 64 + 64) % 64 = j := by omega
      rw [this]
def octN (k : Nat) : List Nat := hiO k (k / 64) ++ [k % 64]
theorem octF_eq (k : Nat) : octF k = (octN k).map (fun c : Nat => (c : Int)) := by
  unfold octF octN
  rw [octG_hi]
  simp
theorem octN_dec (k : Nat) (rs : List Nat) : ∃ b r, octN k ++ rs = b :: r ∧ dec (b % 64) b r = (k, rs) := by
  unfold octN
  by_cases hq : k / 64 = 0
  · have e : hiO k (k / 64) = [] := by rw [hq]; cases k <;> simp [hiO]
    rw [e]
    refine ⟨k % 64, rs, rfl, ?_⟩
    have e1 : k % 64 % 64 = k := by omega
    rw [e1]
    cases rs <;> simp only [dec, if_pos (show k % 64 < 64 by omega)]
  · obtain ⟨b, r, e, hb, hd⟩ := hiO_dec k (k / 64) ((k % 64) :: rs) (by omega) (by omega)
    refine ⟨b, r, by rw [← e]; simp, ?_⟩
    rw [hd, dec, if_neg (by omega)]
    have : k / 64 * 64 + k % 64 % 64 = k := by omega
    rw [this]
    cases rs <;> simp only [dec, if_pos (show k % 64 < 64 by omega)]
theorem hiO_lt : ∀ (f j : Nat), ∀ c ∈ hiO f j, c < 128
  | 0, _, c, h => by simp [hiO] at h
  | f + 1, j, c, h => by
    unfold hiO at h
    split at h
    · simp at h
    · rcases List.mem_append.mp h with h | h
      · exact hiO_lt f _ c h
      · have := List.mem_singleton.mp h; omega
theorem octN_lt (k : Nat) : ∀ c ∈ octN k, c < 128 := by
  intro c h
  unfold octN at h
  rcases List.mem_append.mp h with h | h
  · exact hiO_lt _ _ c h
  · have := List.mem_singleton.mp h; omega
end
section
variable {prog : Program} {w : World} {A : Around} {σ : Shared} {h₀ : Heap} {N : Led} {s : Shared} {env : Env} {E : Value → Shared → Prop} {mg mb : Str → Option Value} {n : Nat} {ad : Ads}
theorem and_i {a b : Int} {t u : Tok} {Q : Value → Shared → Prop} (S : St σ h₀ N s) (h : ∀ s' t', St σ h₀ N s' → Q (.int (Builtin.bitAnd a b) t') s') :
    wpAny (model prog w) A (binaryOp .BitAnd (.int a t) (.int b u)) Q E s := and_int (h _ _ S.tok)
theorem ior_i {a b : Int} {t u : Tok} {Q : Value → Shared → Prop} (S : St σ h₀ N s) (h : ∀ s' t', St σ h₀ N s' → Q (.int (Builtin.bitOr a b) t') s') :
    wpAny (model prog w) A (inplaceOp .BitOr (.int a t) (.int b u)) Q E s := ior_int (h _ _ S.tok)
theorem ishl_i {a n : Int} {t u : Tok} {Q : Value → Shared → Prop} (S : St σ h₀ N s) (hn : 0 ≤ n) (hn2 : n ≤ 1000000) (ha : a.natAbs < 2 ^ 64) (h : ∀ s' t', St σ h₀ N s' → Q (.int (a * 2 ^ n.toNat) t') s') :
    wpAny (model prog w) A (inplaceOp .LShift (.int a t) (.int n u)) Q E s := ilshift_int_small hn hn2 ha (h _ _ S.tok)
def tapeB (l : List Nat) : Array UInt8 := byteArr (l.map fun c : Nat => (c : Int))
theorem tape_get {l : List Nat} {i c : Nat} (h : l[i]? = some c) (hc : c < 256) : ∃ u : UInt8, (tapeB l)[i]? = some u ∧ u.toNat = c := by
  refine ⟨c.toUInt8, ?_, ?_⟩
  · unfold tapeB byteArr
    simp [h]
  · simp; omega
end
local macro_rules | `(tactic| walk_at "m6") => `(tactic| first
  | walk_at "m5"
  | with_reducible refine wpAny_AugAssign_Name ?_
  | ((with_reducible refine' load_l ?S ?hm ?hv ?_ (hk := ?hk) (hl := ?hl) (hL := ?hL)); (case hl | hk => exact rfl); (case S => walk_at "st"); (case hm => walk_at "mem"); (case hL => exact rfl); (case hv => walk_at "var"))
  | ((with_reducible first | refine' and_i ?S ?_ | refine' iadd_i ?S ?_ | refine' ior_i ?S ?_); (case S => walk_at "st"); intro s' t' S'))
local macro_rules | `(tactic| walk_at "mv") => `(tactic| first | walk_at "m6" | with_reducible refine wpAny_execs_cons ?_)
section
variable {prog : Program} {w : World} {A : Around} {σ : Shared} {h₀ : Heap} {N : Led} {s : Shared} {env : Env} {E : Value → Shared → Prop} {mg mb : Str → Option Value} {n : Nat} {ad : Ads}
theorem parse_spec {I : Addr} {tape post : List Nat} {k i : Nat} {tb : Tok} {g : Ent → Led} {Q : Value → Shared → Prop} (S : St σ h₀ N s) (W : Wd ad mg mb h₀) (R : Room A (n + 1)) (hk : k < 2 ^ 24)
    (ht : tape.drop i = octN k ++ post) (h256 : ∀ c ∈ tape, c < 128) (P : Put I (biE (tapeB tape) tb i) N g)
    (h : ∀ s' t, St σ h₀ (g (biE (tapeB tape) tb (i + (octN k).length))) s' → Q (.int (k : Int) t) s') :
    wpAny (model prog w) A (call (.ref ad.pv) [.ref I]) Q E s := by
  refine call_fn S W.G R W.pvF (fun _ _ _ => rfl) rfl ?_
  intro L cd s1 A1 R1 S1
  rw [← P.self] at S1
  generalize hm : (fun y => List.lookup y ((List.map (fun x => x.arg) (fdef 1).snd.fst.args).zip [Value.ref I]).reverse) = m at S1
  have f1 : m "iterator" = some (.ref I) := by rw [← hm]; rfl
  clear hm
  obtain ⟨b, r, eb, hd⟩ := octN_dec k post
  rw [eb] at ht
  have hget : ∀ j c rs, tape.drop j = c :: rs → tape[j]? = some c ∧ tape.drop (j + 1) = rs ∧ c < 128 := by
    intro j c rs e
    have e1 : tape[j]? = some c := by
      have : (tape.drop j)[0]? = some c := by rw [e]; rfl
      simpa using this
    refine ⟨e1, ?_, h256 c (List.mem_of_getElem? e1)⟩
    rw [← List.drop_drop, e]; rfl
  obtain ⟨hb1, hb2, hb3⟩ := hget i b r ht
  obtain ⟨u, hu1, hu2⟩ := tape_get hb1 (by omega)
  refine wpAny_execs_cons ?_
  repeat walk_at "mv"
  refine nextb (by walk_at "st") (by walk_at "put") hu1 ?_
  intro s2 t2 S2
  rw [hu2]
  repeat walk_at "mv"
  rename_i s3 S3
  have hlen : ∀ j rs, tape.drop j = rs → j ≤ tape.length → j = tape.length - rs.length := by
    intro j rs e hj
    have := congrArg List.length e
    rw [List.length_drop] at this
    omega
  have hpl : post.length ≤ tape.length ∧ i + (octN k).length = tape.length - post.length := by
    have e1 := congrArg List.length ht
    have e2 := congrArg List.length eb
    rw [List.length_drop] at e1
    rw [List.length_append] at e2
    simp only [List.length_cons] at e1 e2
    omega
  have h128 : ∀ c ∈ post, c < 128 := fun c hc => h256 c (List.mem_of_mem_drop (i := i) (by rw [ht, ← eb]; exact List.mem_append_right _ hc))
  refine while_x (fun q s => ∃ (v b : Nat) (rs : List Nat) (j : Nat) (m : Str → Option Value), St σ h₀ ((L, .ns m) :: g (biE (tapeB tape) tb j)) s ∧ rs.length = q ∧ dec v b rs = (k, post) ∧ tape.drop j = rs ∧ j ≤ tape.length ∧ b < 128 ∧
      m "iterator" = some (.ref I) ∧ (∃ t, m "b" = some (.int (b : Int) t)) ∧ (∃ t, m "val" = some (.int (v : Int) t)))
    (fun s => ∃ (m : Str → Option Value), St σ h₀ ((L, .ns m) :: g (biE (tapeB tape) tb (i + (octN k).length))) s ∧ (∃ t, m "val" = some (.int (k : Int) t)))
    r.length ⟨b % 64, b, r, i + 1, _, S3, rfl, hd, hb2, ?_, hb3, ?_, ?_, ?_⟩ ?_ ?_
  · have := (List.getElem?_eq_some_iff.mp hb1).1
    omega
  · exact f1
  · exact ⟨_, rfl⟩
  · rw [← and63]; exact ⟨_, rfl⟩
  · rintro q s4 ⟨v, b, rs, j, m', S4, hq, hdc, hdr, hj, hb, g1, ⟨t4, g2⟩, ⟨t5, g3⟩⟩
    refine isTrue_plain ?_
    repeat walk_at "mv"
    refine truthy_int ?_
    rename_i s5 t6 S5
    rw [and64 hb]
    by_cases hb6 : b < 64
    · rw [if_pos hb6]
      rw [if_neg (by decide)]
      have e : v = k ∧ rs = post := by
        cases rs with
        | nil => rw [dec, if_pos hb6] at hdc; exact ⟨congrArg Prod.fst hdc, congrArg Prod.snd hdc⟩
        | cons c r => rw [dec, if_pos hb6] at hdc; exact ⟨congrArg Prod.fst hdc, congrArg Prod.snd hdc⟩
      have ej := hlen j rs hdr hj
      rw [e.2, ← hpl.2] at ej
      subst ej
      rw [e.1] at g3
      exact ⟨m', S5.sub (.refl _), _, g3⟩
    · rw [if_neg hb6]
      rw [if_pos (by decide)]
      cases rs with
      | nil =>
        rw [dec, if_neg hb6] at hdc
        have e9 : [128] = post := congrArg Prod.snd hdc
        have := h128 128 (by rw [← e9]; exact List.mem_singleton_self _)
        omega
      | cons c r2 =>
        rw [dec, if_neg hb6] at hdc
        have hvk := dec_le r2 (v * 64 + c % 64) c
        rw [hdc] at hvk
        obtain ⟨hc1, hc2, hc3⟩ := hget j c r2 hdr
        obtain ⟨u2, hv1, hv2⟩ := tape_get hc1 (by omega)
        repeat walk_at "mv"
        refine ishl_i (by walk_at "st") (by decide) (by decide) (by dsimp only at hvk; rw [Int.natAbs_natCast]; omega) ?_
        intro s6 t6 S6
        repeat walk_at "mv"
        refine nextb (by walk_at "st") (by walk_at "put") hv1 ?_
        intro s7 t7 S7
        rw [hv2]
        repeat walk_at "mv"
        rename_i s8 S8
        rw [and63, or6] at S8
        dsimp only
        refine ⟨r2.length, by rw [← hq]; simp, v * 64 + c % 64, c, r2, j + 1, _, S8, rfl, hdc, hc2, ?_, hc3, ?_, ?_, ?_⟩
        · have := (List.getElem?_eq_some_iff.mp hc1).1
          omega
        · exact g1
        · exact ⟨_, rfl⟩
        · exact ⟨_, rfl⟩
  · rintro s4 ⟨m', S4, ⟨t4, g1⟩⟩
    dsimp only
    repeat walk_at "mv"
    exact h _ _ (S4.sub (List.sublist_cons_self ..))
end
section
variable {prog : Program} {w : World} {A : Around} {σ : Shared} {h₀ : Heap} {N : Led} {s : Shared} {env : Env} {E : Value → Shared → Prop} {mg mb : Str → Option Value} {n : Nat} {ad : Ads}
theorem St.many (S : St σ h₀ N s) {h' : Heap} {tk : Nat} {M : Led} (hk : ∀ b o, s.heap.get? b = some o → h'.get? b = some o) (hn : ∀ p ∈ M, s.heap.get? p.1 = none) (hd : (M.map (·.1)).Nodup) (ha : ∀ p ∈ M, At h' p.1 p.2) :
    St σ h₀ (M ++ N) { s with heap := h', toks := tk } := by
  have E := S.ext (tk := tk) hk
  refine ⟨E.keep, fun p hp => ?_, ?_, E.gens, E.drawn, E.os⟩
  · rcases List.mem_append.mp hp with hp | hp
    · refine ⟨ha p hp, ?_⟩
      cases q : h₀.get? p.1 with
      | none => rfl
      | some o => have := S.keep _ o q; rw [hn p hp] at this; cases this
    · exact E.led p hp
  · rw [List.map_append, List.nodup_append]
    refine ⟨hd, S.nd, fun a ha b hb e => ?_⟩
    obtain ⟨p, hp, rfl⟩ := List.mem_map.mp ha
    exact S.fresh (hn p hp) (e ▸ hb)
theorem get?_above {h : Heap} {a : Addr} (ha : h.objs.size ≤ a) : h.get? a = none := by
  cases q : h.get? a with
  | none => rfl
  | some o => exact absurd (Heap.lt_size q) (Nat.not_lt.mpr ha)
abbrev fenvC (i : Nat) (L a : Addr) (cd : Value) : Env := envOfC (fdef i).1 (fdef i).2.2.2 L a cd
abbrev fcells (i : Nat) (L : Addr) : List (Str × Addr) := cellsFrom (L + 1) (fdef i).2.2.2.names []
abbrev fbinds (i : Nat) (args : List Value) : List (Str × Value) := ((fdef i).2.1.args.map (·.arg)).zip args
theorem call_fn_c {i : Nat} {a : Addr} {args : List Value} {Q : Value → Shared → Prop} (S : St σ h₀ N s) (G : Gl mg mb h₀) (R : Room A (n + 1)) (F : Fn h₀ a i)
    (hb : ∀ pm cd doc, bindArgs (docDef (fdef i).1 (fdef i).2.1 (fdef i).2.2.1 (fdef i).2.2.2 pm cd doc) ⟨args, []⟩ = pure (fbinds i args))
    (hkind : ∀ L, ∀ x ∈ fbinds i args, (fdef i).2.2.2.names.lookup x.1 = some .local ∨ ((fdef i).2.2.2.names.lookup x.1 = some .cell ∧ ((fcells i L).lookup x.1).isSome = true))
    (hcs : ∀ L, ∀ p ∈ fcells i L, (fcells i L).lookup p.1 = some p.2)
    (h : ∀ L cd s' A', Room A' n → St σ h₀ (((L, .ns (bindL (fenvC i L a cd).kindOf (fbinds i args) fun _ => none)) :: (fcells i L).map fun p => (p.2, Ent.cel (bindC (fenvC i L a cd).kindOf (fbinds i args) (fun _ => none) p.1))) ++ N) s' →
      wpAny (model prog w) A' (execs (fdef i).2.2.1 (fenvC i L a cd)) (fun f s'' => Q (match f with | .ret v => v | _ => .none) s'') NoE s')
    (hco : (fdef i).2.2.2.isCoroutine = false := by rfl) (hgen : (fdef i).2.2.2.isGenerator = false := by rfl) (hk : (fdef i).2.2.2.kind = .function := by rfl) : wpAny (model prog w) A (call (.ref a) args) Q E s := by
  obtain ⟨o, pm, cd, doc, h1, h2, h3⟩ := F.fn
  refine wpAny_call (call_cells_ret R.room (S.keep _ _ h1) h2 (G.lim.keeps S.keep) (h3.keeps S.keep) (hb pm cd doc) (hkind _) (fun h₁ tk Fr₁ X => ?_) hco hgen hk)
  refine h _ cd _ _ R.deeper (S.many Fr₁.keep ?_ ?_ ?_)
  · intro p hp
    rcases List.mem_cons.mp hp with rfl | hp
    · exact get?_size _
    · obtain ⟨q, hq, rfl⟩ := List.mem_map.mp hp
      exact get?_above (Nat.le_of_lt (X.above q.1 q.2 hq))
  · rw [List.map_cons, List.nodup_cons, List.map_map]
    refine ⟨fun hm => ?_, ?_⟩
    · obtain ⟨q, hq, e⟩ := List.mem_map.mp hm
      have := X.above q.1 q.2 hq
      have e' : q.2 = s.heap.objs.size := e
      rw [e'] at this
      exact Nat.lt_irrefl _ this
    · exact List.pairwise_map.mpr X.apart
  · intro p hp
    rcases List.mem_cons.mp hp with rfl | hp
    · obtain ⟨o, es, ep, e1, e2, e3, e4⟩ := Fr₁.ns
      exact ⟨o, e1, es, ep, e2, e3, e4⟩
    · obtain ⟨q, hq, rfl⟩ := List.mem_map.mp hp
      exact X.cell q.1 q.2 (hcs _ q hq)
abbrev tests (ifs : List Expr) (cenv : Env) : Sem Bool := forIn ifs true fun c r => if r = true then do let ok ← isTrue c cenv (eval c cenv); pure (ForInStep.yield ok) else pure (ForInStep.yield r)
theorem comploop {x : Str} {px : Pos} {elt iter : Expr} {ifs : List Expr} {scope : Scope} {pos : Pos} {cenv : Env} {C D I : Addr} {ob : Nat → Ent} {val : Nat → Value → Prop} {req : Led → Prop} {m : Str → Option Value}
    (Dr : Draw prog w A σ h₀ I n ob val req) (J : Nat → List Value → Led → Prop)
    (S : St σ h₀ ((I, ob 0) :: (C, .ns m) :: (D, .lst []) :: N) s) (h0 : J 0 [] N) (hreq : ∀ i ys N, J i ys N → ∀ m, req ((C, .ns m) :: (D, .lst ys) :: N)) (hz : n ≤ sizeLine)
    (turn : ∀ i m ys N v s, i < n → ys.length ≤ i → J i ys N → val i v → St σ h₀ ((I, ob (i + 1)) :: (C, .ns m) :: (D, .lst ys) :: N) s →
      wpAny (model prog w) A (storeName cenv x v) (fun _ s₁ => wpAny (model prog w) A (tests ifs cenv) (fun ok s₂ =>
        if ok = true then wpAny (model prog w) A (eval elt cenv) (fun y s₃ => ∃ m' N', J (i + 1) (ys ++ [y]) N' ∧ St σ h₀ ((I, ob (i + 1)) :: (C, .ns m') :: (D, .lst ys) :: N') s₃) NoE s₂
        else ∃ m' N', J (i + 1) ys N' ∧ St σ h₀ ((I, ob (i + 1)) :: (C, .ns m') :: (D, .lst ys) :: N') s₂) NoE s₁) NoE s)
    {R : Result → Shared → Prop} (exit : ∀ m ys N s, J n ys N → St σ h₀ ((C, .ns m) :: (D, .lst ys) :: N) s → R (.ok .next) s) :
    codeAny (model prog w) A (.compLoop (.ListComp elt [⟨.Name x px, iter, ifs, 0⟩] scope pos) 0 (.ref I) (.ref D) cenv) R s := by
  refine codeAny_compLoop_tests (fun k s => ∃ i m ys N, i ≤ n ∧ k = n + 1 - i ∧ ys.length ≤ i ∧ J i ys N ∧ St σ h₀ ((I, ob i) :: (C, .ns m) :: (D, .lst ys) :: N) s) ?_ (n + 1) ⟨0, m, [], N, Nat.zero_le _, rfl, Nat.le_refl _, h0, S⟩
  rintro k s ⟨i, m, ys, N, hi, rfl, hl, hJ, S⟩
  have lift : ∀ {α : Type} {t : Sem α} {Q : α → Shared → Prop} {s : Shared} {E : Value → Shared → Prop}, wpAny (model prog w) A t Q NoE s → wpAny (model prog w) A t Q E s := fun h => wpAny_mono h (fun _ _ q => q) fun _ _ e => e.elim
  by_cases hlt : i < n
  · refine lift (Dr.item i _ s _ hlt (hreq _ _ _ hJ _) S fun v s' hv S' => ?_)
    refine wpAny_assign_Name (lift (wpAny_mono (turn i m ys N v s' hlt hl hJ hv S') (fun _ s₁ h₁ => lift (wpAny_mono h₁ (fun ok s₂ h₂ => ?_) fun _ _ e => e)) fun _ _ e => e))
    cases ok with
    | true =>
      rw [if_pos rfl] at h₂ ⊢
      refine lift (wpAny_mono h₂ (fun y s₃ h₃ => ?_) fun _ _ e => e)
      obtain ⟨m', N', hJ', S₃⟩ := h₃
      refine append_l S₃ (.tail (.tail .head)) (by omega) fun s₄ S₄ => ⟨n + 1 - (i + 1), by omega, i + 1, m', _, N', hlt, rfl, ?_, hJ', S₄⟩
      rw [List.length_append]; simp; omega
    | false =>
      rw [if_neg Bool.false_ne_true] at h₂ ⊢
      obtain ⟨m', N', hJ', S₃⟩ := h₂
      exact ⟨n + 1 - (i + 1), by omega, i + 1, m', _, N', hlt, rfl, by omega, hJ', S₃⟩
  · have : i = n := by omega
    subst this
    exact lift (Dr.done _ s _ (hreq _ _ _ hJ _) S fun s' S' => exit m ys N s' hJ S')
/-- what is left of a comprehension once its iterator stands -/
def CompIn (prog : Program) (w : World) (A : Around) (E : Value → Shared → Prop) (env : Env) (scope : Scope) (cl : List (Str × Addr)) (elt : Expr) (x : Str) (px : Pos) (iter : Expr) (ifs : List Expr) (pos : Pos) (Q : Value → Shared → Prop) (it : Value) (s : Shared) : Prop :=
  wpAny (model prog w) A (newList []) (fun acc s₃ => wpAny (model prog w) A (newFunctionEnv scope env.globals cl [] env.qual none .none (some env)) (fun cenv s₄ =>
    codeAny (model prog w) A (.compStart (.ListComp elt [⟨.Name x px, iter, ifs, 0⟩] scope pos) 0 it acc { cenv with scope := relabel scope env }) (compPost (model prog w) A E none Q acc cenv.locals) s₄) E s₃) E s
theorem comp_open {x : Str} {px : Pos} {elt iter : Expr} {ifs : List Expr} {scope : Scope} {pos : Pos} {Q : Value → Shared → Prop} (cl : List (Str × Addr)) (hclos : closureFor scope env = pure cl)
    (h : wpAny (model prog w) A (eval iter env) (fun xv s₁ => wpAny (model prog w) A (pyIter xv) (fun it s₂ => CompIn prog w A E env scope cl elt x px iter ifs pos Q it s₂) E s₁) E s)
    (hkind : scope.kind = .function := by rfl) (hnames : ∀ y ∈ scope.names, y.2 = .local → scope.names.lookup y.1 = some .local := by decide)
    (hs : ∀ x, foldedSetIterable iter env x = pure x := by intro _; rfl) :
    wpAny (model prog w) A (eval (.ListComp elt [⟨.Name x px, iter, ifs, 0⟩] scope pos) env) Q E s := by
  rw [eval_ListComp]
  exact wpAny_comprehension_free (use := none) rfl hs hclos hkind hnames h
def selfIt (prog : Program) (w : World) (A : Around) (σ : Shared) (h₀ : Heap) (I : Addr) (e : Ent) : Prop :=
  ∀ N s (Q : Value → Shared → Prop) (E : Value → Shared → Prop), St σ h₀ N s → (I, e) ∈ N → Q (.ref I) s → wpAny (model prog w) A (pyIter (.ref I)) Q E s
theorem comp0 {x : Str} {px : Pos} {elt iter : Expr} {ifs : List Expr} {scope : Scope} {pos : Pos} {cl : List (Str × Addr)} {I : Addr} {ob : Nat → Ent} {val : Nat → Value → Prop} {req : Led → Prop} {Q : Value → Shared → Prop}
    (Dr : Draw prog w A σ h₀ I n ob val req) (sf : selfIt prog w A σ h₀ I (ob 0)) (J : Nat → List Value → Led → Prop) (S : St σ h₀ ((I, ob 0) :: N) s)
    (h0 : J 0 [] N) (hreq : ∀ i ys N, J i ys N → ∀ N', N.Sublist N' → req N') (hz : n ≤ sizeLine)
    (turn : ∀ C D i m ys N v s, i < n → ys.length ≤ i → J i ys N → val i v → St σ h₀ ((I, ob (i + 1)) :: (C, .ns m) :: (D, .lst ys) :: N) s →
      wpAny (model prog w) A (storeName (compEnvC scope cl C env) x v) (fun _ s₁ => wpAny (model prog w) A (tests ifs (compEnvC scope cl C env)) (fun ok s₂ =>
        if ok = true then wpAny (model prog w) A (eval elt (compEnvC scope cl C env)) (fun y s₃ => ∃ m' N', J (i + 1) (ys ++ [y]) N' ∧ St σ h₀ ((I, ob (i + 1)) :: (C, .ns m') :: (D, .lst ys) :: N') s₃) NoE s₂
        else ∃ m' N', J (i + 1) ys N' ∧ St σ h₀ ((I, ob (i + 1)) :: (C, .ns m') :: (D, .lst ys) :: N') s₂) NoE s₁) NoE s)
    (exit : ∀ D ys N s, J n ys N → St σ h₀ ((D, .lst ys) :: N) s → Q (.ref D) s)
    (hcell : ∀ y ∈ scope.names, y.2 ≠ .cell := by decide) (hkind : scope.kind = .function := by rfl) :
    CompIn prog w A E env scope cl elt x px iter ifs pos Q (.ref I) s := by
  refine newlist S (by simp) fun s₃ D hD S₃ => ?_
  refine wpAny_newFunctionEnv hcell (by intro y hy; simp at hy) (fun h₁ hns₁ hsb₁ => ?_) hkind
  have S₄ : St σ h₀ ((s₃.heap.objs.size, .ns (fun x => ([] : List (Str × Value)).reverse.lookup x)) :: (D, .lst []) :: (I, ob 0) :: N) { s₃ with heap := h₁, toks := s₃.toks + ([] : List (Str × Value)).length } := by
    refine S₃.new (fun b o e => hsb₁.extBut b o (Nat.ne_of_lt (Heap.lt_size e)) (Heap.get?_push_of_some _ e)) (get?_size _) ?_
    obtain ⟨o, es, ep, e1, e2, e3, e4⟩ := hns₁
    exact ⟨o, e1, es, ep, e2, e3, e4⟩
  have S₅ := S₄.perm (N' := (I, ob 0) :: (s₃.heap.objs.size, .ns (fun x => ([] : List (Str × Value)).reverse.lookup x)) :: (D, .lst []) :: N)
    (((List.Perm.swap _ _ _).cons _).symm.trans (List.Perm.swap _ _ _)).symm
  generalize hC : s₃.heap.objs.size = C at S₅
  have loop : codeAny (model prog w) A (.compLoop (.ListComp elt [⟨.Name x px, iter, ifs, 0⟩] scope pos) 0 (.ref I) (.ref D) (compEnvC scope cl C env)) (compPost (model prog w) A E none Q (.ref D) C)
      { s₃ with heap := h₁, toks := s₃.toks + ([] : List (Str × Value)).length } := by
    refine comploop Dr J S₅ h0 (fun i ys N hJ m => hreq i ys N hJ _ (.cons _ (.cons _ (.refl _)))) hz (fun i m ys N v s => turn C D i m ys N v s) fun m ys N s hJ S => ?_
    exact ⟨m, S.ns (.head _), fun h' hs' => exit D ys N _ hJ (S.dropTo (tk := s.toks) hs'.extBut)⟩
  subst hC
  exact codeAny_compStart_list loop (sf _ _ _ _ S₅ (.head _) loop)
end
set_option linter.unusedVariables false
set_option linter.unusedSimpArgs false
section
variable {prog : Program} {w : World} {A : Around} {σ : Shared} {h₀ : Heap} {N : Led} {s : Shared} {env : Env} {E : Value → Shared → Prop} {mg mb : Str → Option Value} {n : Nat} {ad : Ads}
theorem newenv1 {scope : Scope} {cl : List (Str × Addr)} {y : Str} {Q : Env → Shared → Prop} (S : St σ h₀ N s) (hcf : ∀ a, cellsFrom a scope.names cl = (y, a) :: cl)
    (hpc : ∀ h, pushCells h scope.names = h.push { cls := .type "cell", data := .cell none })
    (h : ∀ C c s', St σ h₀ ((c, .cel none) :: (C, .ns fun _ => none) :: N) s' → Q { scope, locals := C, globals := env.globals, cells := (y, c) :: cl, qual := env.qual, func := none, code := env.code, frame := env.frame, builtins := env.builtins } s') :
    wpAny (model prog w) A (newFunctionEnv scope env.globals cl [] env.qual none .none (some env)) Q E s := by
  simp only [newFunctionEnv, Option.isSome_some, if_true]
  refine wpAny_bind (wpAny_alloc ?_)
  refine wpAny_bind (wpAny_layCells _ (fun name kind cells => by cases hkc : kind == NameKind.cell <;> simp [hkc]) _ _ _ _ ?_)
  rw [hcf, hpc]
  refine wpAny_bind ?_
  rw [List.forIn_nil]
  refine wpAny_pure (wpAny_pure (h _ _ _ ?_))
  have S1 : St σ h₀ ((s.heap.objs.size, .ns fun _ => none) :: N) { s with heap := s.heap.push { cls := .type "dict", data := .dict #[] }, toks := s.toks } := by
    refine S.push rfl ?_
    obtain ⟨o, es, ep, e1, e2, e3, e4⟩ := Heap.Ns.new s.heap (.type "dict")
    rw [Heap.get?_push_size _ rfl] at e1
    cases e1
    exact ⟨es, ep, e2, e3, e4⟩
  exact S1.push (tk := s.toks) rfl rfl
theorem comp1 {x : Str} {px : Pos} {elt iter : Expr} {ifs : List Expr} {scope : Scope} {pos : Pos} {cl : List (Str × Addr)} {I : Addr} {ob : Nat → Ent} {val : Nat → Value → Prop} {req : Led → Prop} {Q : Value → Shared → Prop}
    (Dr : Draw prog w A σ h₀ I n ob val req) (sf : selfIt prog w A σ h₀ I (ob 0)) (J : Nat → List Value → Led → Prop) (S : St σ h₀ ((I, ob 0) :: N) s) (y : Str) 
    (h0 : J 0 [] N) (hreq : ∀ i ys N, J i ys N → ∀ N', N.Sublist N' → req N') (hz : n ≤ sizeLine)
    (turn : ∀ C D c i m u ys N v s, i < n → ys.length ≤ i → J i ys N → val i v → St σ h₀ ((I, ob (i + 1)) :: (C, .ns m) :: (D, .lst ys) :: (c, .cel u) :: N) s →
      wpAny (model prog w) A (storeName (compEnvC scope ((y, c) :: cl) C env) x v) (fun _ s₁ => wpAny (model prog w) A (tests ifs (compEnvC scope ((y, c) :: cl) C env)) (fun ok s₂ =>
        if ok = true then wpAny (model prog w) A (eval elt (compEnvC scope ((y, c) :: cl) C env)) (fun y s₃ => ∃ m' u' N', J (i + 1) (ys ++ [y]) N' ∧ St σ h₀ ((I, ob (i + 1)) :: (C, .ns m') :: (D, .lst ys) :: (c, .cel u') :: N') s₃) NoE s₂
        else ∃ m' u' N', J (i + 1) ys N' ∧ St σ h₀ ((I, ob (i + 1)) :: (C, .ns m') :: (D, .lst ys) :: (c, .cel u') :: N') s₂) NoE s₁) NoE s)
    (exit : ∀ D ys N s, J n ys N → St σ h₀ ((D, .lst ys) :: N) s → Q (.ref D) s) (hcf : ∀ a, cellsFrom a scope.names cl = (y, a) :: cl := by intro _; rfl)
    (hpc : ∀ h, pushCells h scope.names = h.push { cls := .type "cell", data := .cell none } := by intro _; rfl) :
    CompIn prog w A E env scope cl elt x px iter ifs pos Q (.ref I) s := by
  refine newlist S (by simp) fun s₃ D hD S₃ => ?_
  refine newenv1 S₃ hcf hpc fun C c s₄ S₄ => ?_
  have S₅ := S₄.perm (N' := (I, ob 0) :: (C, .ns fun _ => none) :: (D, .lst []) :: (c, .cel none) :: N) (by
    refine (List.perm_cons_append_cons (l₁ := [(C, .ns fun _ => none), (D, .lst []), (c, .cel none)]) (l₂ := N) (a := (I, ob 0)) (List.Perm.refl _)).trans ?_
    show List.Perm ((C, Ent.ns fun _ => none) :: (D, .lst []) :: (c, .cel none) :: (I, ob 0) :: N) _
    exact (List.Perm.cons _ (List.Perm.swap _ _ _)).trans (List.Perm.swap _ _ _))
  have loop : codeAny (model prog w) A (.compLoop (.ListComp elt [⟨.Name x px, iter, ifs, 0⟩] scope pos) 0 (.ref I) (.ref D) (compEnvC scope ((y, c) :: cl) C env)) (compPost (model prog w) A E none Q (.ref D) C) s₄ := by
    refine comploop Dr (fun i ys N => ∃ u N', N = (c, .cel u) :: N' ∧ J i ys N') S₅ ⟨_, _, rfl, h0⟩ ?_ hz ?_ ?_
    · rintro i ys _ ⟨u, N', rfl, hJ⟩ m
      exact hreq i ys _ hJ _ (.cons _ (.cons _ (.cons _ (.refl _))))
    · rintro i m ys _ v s hi hl ⟨u, N', rfl, hJ⟩ hv S
      refine wpAny_mono (turn C D c i m u ys N' v s hi hl hJ hv S) (fun _ s₁ h₁ => wpAny_mono h₁ (fun ok s₂ h₂ => ?_) fun _ _ e => e) fun _ _ e => e
      cases ok with
      | true =>
        rw [if_pos rfl] at h₂ ⊢
        refine wpAny_mono h₂ (fun y s₃ h₃ => ?_) fun _ _ e => e
        obtain ⟨m', u', N', hJ', S'⟩ := h₃
        exact ⟨m', _, ⟨u', N', rfl, hJ'⟩, S'⟩
      | false =>
        rw [if_neg Bool.false_ne_true] at h₂ ⊢
        obtain ⟨m', u', N', hJ', S'⟩ := h₂
        exact ⟨m', _, ⟨u', N', rfl, hJ'⟩, S'⟩
    · rintro m ys _ s ⟨u, N', rfl, hJ⟩ S
      exact ⟨m, S.ns (.head _), fun h' hs' => exit D ys N' _ hJ ((S.dropTo (tk := s.toks) hs'.extBut).sub (.cons_cons _ (.cons _ (.refl _))))⟩
  exact codeAny_compStart_list loop (sf _ _ _ _ S₅ (.head _) loop)
theorem self_l {I l : Addr} {i : Nat} : selfIt prog w A σ h₀ I (liE l i) := fun N s Q E S hm h => by
  obtain ⟨o, ho, hc, hd⟩ := S.at hm
  exact wpAny_pyIter_listiter ⟨o, ho, hc, hd⟩ h
theorem self_r {I : Addr} {a c : Int} {k i : Nat} : selfIt prog w A σ h₀ I (rgE a c k i) := fun N s Q E S hm h => iter_ri S hm h
theorem tests1 {c : Expr} {cenv : Env} {Q : Bool → Shared → Prop} (h : wpAny (model prog w) A (isTrue c cenv (eval c cenv)) Q E s) : wpAny (model prog w) A (tests [c] cenv) Q E s := wpAny_tests_one h
theorem tests0 {cenv : Env} {Q : Bool → Shared → Prop} (h : Q true s) : wpAny (model prog w) A (tests [] cenv) Q E s := wpAny_tests_nil h
end
section
variable {prog : Program} {w : World} {A : Around} {σ : Shared} {h₀ : Heap} {N : Led} {s : Shared} {env : Env} {E : Value → Shared → Prop} {mg mb : Str → Option Value} {n : Nat} {ad : Ads}
theorem in_l {l : Addr} {vs : List Value} {ns : List Int} {k : Int} {t : Tok} {Q : Value → Shared → Prop} (S : St σ h₀ N s) (hm : (l, .lst vs) ∈ N) (hi : Ints vs ns) (h : ∀ s', St σ h₀ N s' → Q (.bool (ns.any (· == k))) s') :
    wpAny (model prog w) A (compareOp .In (.int k t) (.ref l)) Q E s := by
  refine in_list_ints (S.isList hm) hi.are ?_
  exact h _ S
theorem notin_l {l : Addr} {vs : List Value} {ns : List Int} {k : Int} {t : Tok} {Q : Value → Shared → Prop} (S : St σ h₀ N s) (hm : (l, .lst vs) ∈ N) (hi : Ints vs ns) (h : ∀ s', St σ h₀ N s' → Q (.bool (!ns.any (· == k))) s') :
    wpAny (model prog w) A (compareOp .NotIn (.int k t) (.ref l)) Q E s := by
  refine notin_list_ints (S.isList hm) hi.are ?_
  exact h _ S
theorem Ints.look {vs : List Value} {ns : List Int} (h : Ints vs ns) : ∀ {i : Nat} {v : Value}, vs[i]? = some v → ∃ k t, ns[i]? = some k ∧ v = .int k t := by
  induction h with
  | nil => intro i v h; simp at h
  | cons _ ih =>
    intro i v h
    cases i with
    | zero => simp at h; exact ⟨_, _, rfl, h.symm⟩
    | succ i => simpa using ih (by simpa using h)
theorem Ints.snoc {vs : List Value} {ns : List Int} {k : Int} {t : Tok} (h : Ints vs ns) : Ints (vs ++ [.int k t]) (ns ++ [k]) := by
  induction h with
  | nil => exact .cons .nil
  | cons _ ih => exact .cons ih
theorem take_succ_get {α : Type} {l : List α} {i : Nat} {a : α} (h : l[i]? = some a) : l.take (i + 1) = l.take i ++ [a] := by
  rw [List.take_add_one, h]; rfl
theorem filter_step {α : Type} {l : List α} {i : Nat} {a : α} {p : α → Bool} (h : l[i]? = some a) : (l.take (i + 1)).filter p = (l.take i).filter p ++ (if p a = true then [a] else []) := by
  rw [take_succ_get h, List.filter_append]
  congr 1
  by_cases hp : p a = true
  · rw [if_pos hp, List.filter_cons_of_pos hp, List.filter_nil]
  · rw [if_neg hp, List.filter_cons_of_neg hp, List.filter_nil]
end
local macro_rules | `(tactic| walk_at "mem") => `(tactic| first | exact List.Mem.head _ | assumption | exact (Put.again (by assumption) _).mem | (refine mem_tail ?_; walk_at "mem"))
local macro_rules | `(tactic| walk_at "m7") => `(tactic| first
  | walk_at "m6"
  | (with_reducible first | refine tests1 ?_ | refine tests0 ?_)
  | ((with_reducible refine' name_c ?S ?hc ?hm ?_ (hk := ?hk) (hl := ?hl) (hd := ?hd)); (case hl | hc | hk => exact rfl); (case hd => decide); (case S => walk_at "st"); (case hm => walk_at "mem"))
  | ((with_reducible refine' store_c ?S ?hc ?P ?_ (hk := ?hk) (hl := ?hl)); (case hl | hc | hk => exact rfl); (case S => walk_at "st"); (case P => walk_at "put"); intro s' S')
  | ((with_reducible first | refine' in_l ?S ?hm ?hi ?_ | refine' notin_l ?S ?hm ?hi ?_); (case S => walk_at "st"); (case hm => walk_at "mem"); (case hi => assumption); intro s' S'))
local macro_rules | `(tactic| walk_at "mu") => `(tactic| first | walk_at "m7" | with_reducible refine wpAny_execs_cons ?_)
section
variable {prog : Program} {w : World} {A : Around} {σ : Shared} {h₀ : Heap} {N : Led} {s : Shared} {env : Env} {E : Value → Shared → Prop} {mg mb : Str → Option Value} {n : Nat} {ad : Ads}
theorem met_spec {l r : Addr} {vl vr : List Value} {nl nr : List Int} {Q : Value → Shared → Prop} (S : St σ h₀ N s) (W : Wd ad mg mb h₀) (R : Room A (n + 1)) (hl : (l, .lst vl) ∈ N) (hr : (r, .lst vr) ∈ N) (il : Ints vl nl) (ir : Ints vr nr)
    (hz : vl.length < 2 ^ 20) (h : ∀ s' a vs, Ints vs (nl.filter fun a => nr.any (· == a)) → St σ h₀ ((a, .lst vs) :: N) s' → Q (.ref a) s') :
    wpAny (model prog w) A (call (.ref ad.met) [.ref l, .ref r]) Q E s := by
  refine call_fn_c S W.G R W.metF (fun _ _ _ => rfl) ?_ ?_ ?_
  · intro L x hx
    rcases List.mem_cons.mp hx with rfl | hx
    · exact .inl rfl
    · rcases List.mem_singleton.mp hx with rfl
      exact .inr ⟨rfl, rfl⟩
  · intro L p hp
    rcases List.mem_singleton.mp hp with rfl
    rfl
  intro L cd s1 A1 R1 S1
  generalize hm : (bindL (fenvC 14 L ad.met cd).kindOf (fbinds 14 [.ref l, .ref r]) fun _ => none) = m at S1
  have f1 : m "left" = some (.ref l) := by rw [← hm]; rfl
  clear hm
  have S2 : St σ h₀ ((L, .ns m) :: (L + 1, .cel (some (.ref r))) :: N) s1 := S1
  clear S1
  have hl2 : (l, .lst vl) ∈ (L, .ns m) :: (L + 1, .cel (some (.ref r))) :: N := mem_tail (mem_tail hl)
  refine wpAny_execs_cons ?_
  repeat walk_at "mu"
  refine comp_open [("right", L + 1)] rfl ?_
  repeat walk_at "mu"
  refine iter_l S2 hl2 ?_
  intro s3 I hI S3
  refine comp0 (draw_list R1.h I l vl) self_l (fun i ys N' => N' = (L, .ns m) :: (L + 1, .cel (some (.ref r))) :: N ∧ Ints ys ((nl.take i).filter fun a => nr.any (· == a))) S3 ⟨rfl, .nil⟩ ?_ ?_ ?_ ?_
  · rintro i ys _ ⟨rfl, _⟩ N' hs
    exact hs.subset hl2
  · simp [sizeLine]; omega
  · rintro C D i m' ys _ v s4 hi hyl ⟨rfl, hiy⟩ hv S4
    obtain ⟨k, t, hk, rfl⟩ := il.look hv
    repeat walk_at "mu"
    rename_i s5 S5
    rw [filter_step hk]
    by_cases hb : (nr.any fun x => x == k) = true
    · rw [if_pos hb, if_pos hb]
      repeat walk_at "mu"
      exact ⟨_, _, ⟨rfl, hiy.snoc⟩, S5⟩
    · rw [if_neg hb, if_neg hb, List.append_nil]
      exact ⟨_, _, ⟨rfl, hiy⟩, S5⟩
  · rintro D ys _ s4 ⟨rfl, hiy⟩ S4
    rw [il.length, List.take_length] at hiy
    exact h _ _ _ hiy (S4.sub (.cons_cons _ (.cons _ (.cons _ (.refl _)))))
end
section
variable {prog : Program} {w : World} {A : Around} {σ : Shared} {h₀ : Heap} {N : Led} {s : Shared} {env : Env} {E : Value → Shared → Prop} {mg mb : Str → Option Value} {n : Nat} {ad : Ads}
theorem call_rd {u v : Value} {Q : Value → Shared → Prop} (S : St σ h₀ N s) (W : Wd ad mg mb h₀) (R : Room A (n + 1))
    (h : ∀ L cd s' A', Room A' n → St σ h₀ ((L, .ns fun x => ([(("function" : Str), u), (("sequence" : Str), v), (("initial" : Str), Value.ref ad.im)]).reverse.lookup x) :: N) s' →
      wpAny (model prog w) A' (execs (fdef 5).2.2.1 (fenv 5 L ad.rd cd)) (fun f s'' => Q (match f with | .ret v => v | _ => .none) s'') NoE s') : wpAny (model prog w) A (call (.ref ad.rd) [u, v]) Q E s := by
  obtain ⟨o, pm, cd, doc, T, to, n, h1, h2, h3, h4, h5⟩ := W.rdF
  refine wpAny_call (codeAny_call_def R.room (S.keep _ _ h1) h2 (W.G.lim.keeps S.keep) (h3.keeps S.keep) rfl (binds := [(("function" : Str), u), (("sequence" : Str), v), (("initial" : Str), Value.ref ad.im)])
    (BindsTo.of_defaults rfl (S.keep _ _ h4) h5 rfl rfl) (show ∀ x ∈ (fdef 5).2.2.2.names, x.2 ≠ .cell by decide) (locs rfl) (fun h₁ hn hk => ?_))
  refine wpAny_mono (h _ cd _ _ R.deeper (S.new hk (get?_size _) ?_)) (fun f s' q => q) fun _ _ e => e.elim
  obtain ⟨o, es, ep, e1, e2, e3, e4⟩ := hn
  exact ⟨o, e1, es, ep, e2, e3, e4⟩
theorem Draw.shift {I : Addr} {n : Nat} {ob : Nat → Ent} {val : Nat → Value → Prop} {req : Led → Prop} (D : Draw prog w A σ h₀ I n ob val req) (k : Nat) (hk : k ≤ n) : Draw prog w A σ h₀ I (n - k) (fun i => ob (i + k)) (fun i => val (i + k)) req where
  item := fun i N s Q hi hr S hQ => D.item (i + k) N s Q (by omega) hr S fun v s' hv S' => hQ v s' hv (by rw [show i + 1 + k = i + k + 1 by omega]; exact S')
  done := fun N s Q hr S hQ => D.done N s Q hr (by have : n - k + k = n := by omega
                                                   rw [← this]; exact S) hQ
theorem iterl {l : Addr} {vs : List Value} {Q : Value → Shared → Prop} (S : St σ h₀ N s) (hm : (l, .lst vs) ∈ N) (h : ∀ s' I, s.heap.get? I = none → St σ h₀ ((I, liE l 0) :: N) s' → Q (.ref I) s') :
    wpAny (model prog w) A (call (.builtin "iter") [.ref l]) Q E s := by
  refine call_function_entry (by decide +kernel) (by decide +kernel) kdk_entry_iter (kdk_args_iter _) ?_
  unfold Builtin.«iter»
  refine wpAny_bind (m := someArgs "iter" 1 2 _) (wpAny_of_eq (a := [Value.ref l]) (by first | rfl | kernel_rfl!) ?_)
  show wpAny _ _ (pyIter (.ref l) >>= _) _ _ _
  refine wpAny_bind (iter_l S hm ?_)
  intro s' I hI S'
  exact wpAny_pure ⟨_, rfl, h _ _ hI S'⟩
theorem nextl {I l : Addr} {i : Nat} {vs : List Value} {x : Value} {g : Ent → Led} {Q : Value → Shared → Prop} (S : St σ h₀ N s) (P : Put I (liE l i) N g) (hm : (l, .lst vs) ∈ N) (hx : vs[i]? = some x)
    (h : ∀ s', St σ h₀ (g (liE l (i + 1))) s' → Q x s') : wpAny (model prog w) A (call (.builtin "next") [.ref I]) Q E s := by
  obtain ⟨o, ho, hc, hd⟩ := S.at P.mem
  have hit : s.heap.IsListIter I l i := ⟨o, ho, hc, hd⟩
  obtain ⟨ol, hol, _, nl, hdl⟩ := S.isList hm
  refine call_function_entry (by decide +kernel) (by decide +kernel) kdk_entry_next (kdk_args_next _) ?_
  unfold Builtin.«next»
  refine wpAny_bind (m := someArgs "next" 1 2 _) (wpAny_of_eq (a := [Value.ref I]) (by first | rfl | kernel_rfl!) ?_)
  dsimp only
  refine wpAny_bind (wpAny_specialOf (name := Str.ofString "__next__") hit.typeIs slot_listiter_next.lookup ?_)
  refine wpAny_ite_split (fun hab => absurd hab (by decide)) (fun _ => ?_)
  refine wpAny_bind (wpAny_callSpecial?_slot (name := Str.ofString "__next__") hit.typeIs slot_listiter_next (wpAny_call_entry slot_listiter_next hit.typeIs entry_listiter_next ?_ (args_listiter_next _)))
  show wpAny _ _ (field (.ref I) 0 >>= _) _ _ s
  refine wpAny_bind (wpAny_field ho hd (x := .ref l) rfl ?_)
  show wpAny _ _ (if (Value.ref l == Value.none) = true then _ else _) _ _ s
  rw [if_neg (show ¬ ((Value.ref l == Value.none) = true) from Bool.false_ne_true)]
  show wpAny _ _ (field (.ref I) 1 >>= _) _ _ s
  refine wpAny_bind (wpAny_field ho hd (x := .int i 0) rfl ?_)
  show wpAny _ _ (seqItems? (.ref l) >>= _) _ _ s
  refine wpAny_bind (wpAny_seqItems hol hdl ?_)
  simp only [Int.toNat_natCast, List.getElem?_toArray, hx]
  refine wpAny_bind (wpAny_setField ho hd (by simp) (wpAny_pure ⟨x, rfl, wpAny_pure ⟨_, rfl, h _ (S.put (tk := s.toks) P (Heap.SameBut.update ..) ?_)⟩⟩))
  exact ⟨_, Heap.get?_update_self _ ho (Obj.isFreed_of_fields (Obj.data_mapFields hd _)), (Obj.cls_mapFields ..).trans hc, by
    rw [Obj.data_mapFields hd]; simp [rawInt]⟩
/-- a row: a list of ints -/
def RowAt (N : Led) (v : Value) (ns : List Int) : Prop := ∃ a vs, v = .ref a ∧ (a, .lst vs) ∈ N ∧ Ints vs ns ∧ ns.length < 2 ^ 19
theorem RowAt.mono {N N' : Led} {v : Value} {ns : List Int} (h : RowAt N v ns) (hs : N.Sublist N') : RowAt N' v ns := by
  obtain ⟨a, vs, e, hm, hi, hl⟩ := h
  exact ⟨a, vs, e, hs.subset hm, hi, hl⟩
def metN (a b : List Int) : List Int := a.filter fun x => b.any (· == x)
end
local macro_rules | `(tactic| walk_at "m8") => `(tactic| first
  | walk_at "m7"
  | (with_reducible first | refine wpAny_Try_except ?_ | refine wpAny_is_ref_self ?_)
  | ((with_reducible refine' iterl ?S ?hm ?_); (case S => walk_at "st"); (case hm => walk_at "mem"); intro s' a' n' S'))
local macro_rules | `(tactic| walk_at "mt") => `(tactic| first | walk_at "m8" | with_reducible refine wpAny_execs_cons ?_)
section
variable {prog : Program} {w : World} {A : Around} {σ : Shared} {h₀ : Heap} {N : Led} {s : Shared} {env : Env} {E : Value → Shared → Prop} {mg mb : Str → Option Value} {n : Nat} {ad : Ads}
theorem reduce_spec {l : Addr} {v0 : Value} {vs : List Value} {n0 : List Int} {nss : List (List Int)} {Q : Value → Shared → Prop} (S : St σ h₀ N s) (W : Wd ad mg mb h₀) (R : Room A (n + 2)) (hl : (l, .lst (v0 :: vs)) ∈ N)
    (hr0 : RowAt N v0 n0) (hrs : ∀ (i : Nat) (v : Value), vs[i]? = some v → ∃ ns, nss[i]? = some ns ∧ RowAt N v ns) (hz : vs.length < 2 ^ 19)
    (h : ∀ s' v N', N.Sublist N' → RowAt N' v ((nss.take vs.length).foldl metN n0) → St σ h₀ N' s' → Q v s') :
    wpAny (model prog w) A (call (.ref ad.rd) [.ref ad.met, .ref l]) Q E s := by
  refine call_rd S W R ?_
  intro L cd s1 A1 R1 S1
  generalize hm : (fun x => List.lookup x ([(("function" : Str), Value.ref ad.met), (("sequence" : Str), Value.ref l), (("initial" : Str), Value.ref ad.im)]).reverse) = m at S1
  have f1 : m "function" = some (.ref ad.met) := by rw [← hm]; rfl
  have f2 : m "sequence" = some (.ref l) := by rw [← hm]; rfl
  have f3 : m "initial" = some (.ref ad.im) := by rw [← hm]; rfl
  clear hm
  refine wpAny_execs_cons ?_
  repeat walk_at "mt"
  rename_i s2 I hI S2 s3 S3
  refine nextl (vs := v0 :: vs) (by walk_at "st") (by walk_at "put") (mem_tail (mem_tail hl)) rfl ?_
  intro s4 S4
  repeat (first | walk_at "mt" | dsimp only)
  rename_i s5 S5
  refine self_l (l := l) (i := 1) _ _ _ _ S5 (.head _) ?_
  refine forloop ((draw_list R1.h I l (v0 :: vs)).shift 1 (by simp)) (fun i N' => ∃ (m : Str → Option Value) (v : Value) (N1 : Led), N' = (L, .ns m) :: N1 ∧ N.Sublist N1 ∧ m "function" = some (.ref ad.met) ∧
      m "value" = some v ∧ RowAt N1 v ((nss.take i).foldl metN n0)) S5 ⟨_, v0, _, rfl, .refl _, ?_, ?_, ?_⟩ ?_ ?_ ?_
  · exact f1
  · exact rfl
  · exact hr0
  · rintro i N' ⟨m', v, N1, rfl, hs, g1, g2, hr⟩
    exact mem_tail (hs.subset hl)
  · rintro i N' v s6 hi ⟨m', u, N1, rfl, hs, g1, g2, hr⟩ hv S6
    have hv' : vs[i]? = some v := by simpa using hv
    obtain ⟨ns, hns, hrow⟩ := hrs i v hv'
    obtain ⟨a1, w1, rfl, hm1, hi1, hl1⟩ := hr
    obtain ⟨a2, w2, rfl, hm2, hi2, hl2⟩ := hrow.mono hs
    repeat walk_at "mt"
    rename_i s7 S7
    refine ⟨S7.keep, ?_⟩
    refine met_spec S7 W R1 (mem_tail (mem_tail hm1)) (mem_tail (mem_tail hm2)) hi1 hi2 (by rw [hi1.length]; omega) ?_
    intro s8 a8 w8 hi8 S8
    repeat walk_at "mt"
    rename_i s9 S9
    dsimp only
    have S10 := S9.perm (((List.Perm.swap _ _ _).cons _).trans (List.Perm.swap _ _ _))
    refine ⟨_, ⟨_, .ref a8, (a8, .lst w8) :: N1, rfl, hs.trans (List.sublist_cons_self ..), ?_, ?_, a8, w8, rfl, .head _, ?_, ?_⟩, S10⟩
    · exact g1
    · exact rfl
    · rw [take_succ_get hns, List.foldl_append]
      exact hi8
    · rw [take_succ_get hns, List.foldl_append]
      exact Nat.lt_of_le_of_lt (List.length_filter_le ..) hl1
  · rintro N' s6 ⟨m', u, N1, rfl, hs, g1, g2, hr⟩ S6
    dsimp only
    repeat walk_at "mt"
    have e : (v0 :: vs).length - 1 = vs.length := rfl
    rw [e] at hr
    exact h _ _ _ hs hr (S6.sub (List.sublist_cons_self ..))
end
/-- a dict's entries, by key and value -/
inductive Spelt : List DictEntry → List (Str × Value) → Prop where
  | nil : Spelt [] []
  | cons {h : Int} {t : Tok} {k : Str} {v : Value} {es : List DictEntry} {kvs : List (Str × Value)} : Spelt es kvs → Spelt (⟨h, .str k t, v⟩ :: es) ((k, v) :: kvs)
def dE (kvs : List (Str × Value)) : Ent := .sat fun o => ∃ es ep, o = ⟨.type "dict", none, .dict (List.toArray es) ep, #[]⟩ ∧ Spelt es kvs
def putL (k : Str) (v : Value) : List (Str × Value) → List (Str × Value)
  | [] => [(k, v)]
  | p :: r => if p.1 = k then (p.1, v) :: r else p :: putL k v r
def dropL (k : Str) : List (Str × Value) → List (Str × Value)
  | [] => []
  | p :: r => if p.1 = k then r else p :: dropL k r
theorem isCps (s name : Str) (t : Tok) : (Value.str s t).isStrByCps name.cps.size name.cps.toList = decide (s = name) := by
  show (s.cps.size == name.cps.size && s.cps.toList == name.cps.toList) = _
  obtain ⟨⟨a⟩⟩ := s
  obtain ⟨⟨b⟩⟩ := name
  by_cases h : a = b
  · subst h; simp
  · have : ¬ ((Str.mk ⟨a⟩) = Str.mk ⟨b⟩) := fun e => h (by cases e; rfl)
    simp [h]
theorem Spelt.put {es : List DictEntry} {kvs : List (Str × Value)} (h : Spelt es kvs) (name : Str) (hh : Int) (t : Tok) (v : Value) :
    Spelt (nsPutIn name.cps.size name.cps.toList (fun | some e => { e with val := v } | none => ⟨hh, .str name t, v⟩) es).1 (putL name v kvs) := by
  induction h with
  | nil => exact .cons .nil
  | @cons h' t' k' v' es' kvs' _ ih =>
    unfold nsPutIn putL
    rw [isCps]
    by_cases e : k' = name
    · subst e
      simp only [decide_true, if_true]
      exact .cons (by assumption)
    · simp only [decide_eq_true_eq, e, if_false]
      exact .cons ih
theorem Spelt.find {es : List DictEntry} {kvs : List (Str × Value)} (h : Spelt es kvs) (name : Str) : nsFind es.toArray name = kvs.lookup name := by
  unfold nsFind findBy
  rw [List.find?_toArray]
  induction h with
  | nil => rfl
  | @cons h' t' k' v' es' kvs' _ ih =>
    rw [List.find?_cons, List.lookup_cons]
    show Option.map _ (match (k' == name) with | true => _ | false => _) = _
    by_cases e : k' = name
    · subst e; simp
    · rw [beq_false_of_ne e, beq_false_of_ne (Ne.symm e)]; exact ih
theorem Spelt.keys {es : List DictEntry} {kvs : List (Str × Value)} (h : Spelt es kvs) : StrKeys es.toArray := by
  induction h with
  | nil => intro e he; simp at he
  | cons _ ih =>
    intro e he
    simp only [List.mem_toArray, List.mem_cons] at he
    rcases he with rfl | he
    · exact ⟨_, _, rfl⟩
    · exact ih e (by simpa using he)
theorem putName_is {es : List DictEntry} {ep : Nat} (name : Str) (hh : Int) (key v : Value) : ∃ ep', Obj.putName name hh key v ⟨.type "dict", none, .dict (List.toArray es) ep, #[]⟩ =
    ⟨.type "dict", none, .dict (nsPutIn name.cps.size name.cps.toList (fun | some e => { e with val := v } | none => ⟨hh, key, v⟩) es).1.toArray ep', #[]⟩ := by
  unfold Obj.putName
  dsimp only
  split
  · rename_i es' q; exact ⟨ep, congrArg (fun r : List DictEntry × Bool => (⟨.type "dict", none, .dict r.1.toArray ep, #[]⟩ : Obj)) (Eq.symm q)⟩
  · rename_i es' q; exact ⟨ep + 1, congrArg (fun r : List DictEntry × Bool => (⟨.type "dict", none, .dict r.1.toArray (ep + 1), #[]⟩ : Obj)) (Eq.symm q)⟩
theorem dropName_is {es : List DictEntry} {ep : Nat} (name : Str) : ∃ ep', Obj.dropName name ⟨.type "dict", none, .dict (List.toArray es) ep, #[]⟩ =
    ⟨.type "dict", none, .dict ((nsDropIn name.cps.size name.cps.toList es).getD es).toArray ep', #[]⟩ := by
  unfold Obj.dropName
  dsimp only
  split
  · rename_i es' q; rw [q]; exact ⟨_, rfl⟩
  · rename_i q; rw [q]; exact ⟨_, rfl⟩
section
variable {prog : Program} {w : World} {A : Around} {σ : Shared} {h₀ : Heap} {N : Led} {s : Shared} {env : Env} {E : Value → Shared → Prop}
theorem St.dns {a : Addr} {kvs : List (Str × Value)} (S : St σ h₀ N s) (hm : (a, dE kvs) ∈ N) : s.heap.Ns a (fun k => kvs.lookup k) := by
  obtain ⟨o, ho, es, ep, rfl, hs⟩ := S.at hm
  exact ⟨_, _, _, ho, rfl, hs.keys, hs.find⟩
theorem get_d {a : Addr} {kvs : List (Str × Value)} {name : Str} {Q : Option Value → Shared → Prop} (S : St σ h₀ N s) (hm : (a, dE kvs) ∈ N) (h : Q (kvs.lookup name) s) :
    wpAny (model prog w) A (nsGet a name) Q E s := wpAny_nsGet (S.dns hm) h
theorem set_d {a : Addr} {kvs : List (Str × Value)} {name : Str} {v : Value} {g : Ent → Led} {Q : Unit → Shared → Prop} (S : St σ h₀ N s) (P : Put a (dE kvs) N g) (h : ∀ s', St σ h₀ (g (dE (putL name v kvs))) s' → Q () s') :
    wpAny (model prog w) A (nsSet a name v) Q E s := by
  obtain ⟨o, ho, es, ep, rfl, hs⟩ := S.at P.mem
  have hany : es.toArray.any (·.refKey) = false := by
    rw [Array.any_eq_false']; intro e he; obtain ⟨n, t, h⟩ := hs.keys e he; simp [DictEntry.refKey, h]
  unfold nsSet strHash
  refine wpAny_bind (wpAny_bind (wpAny_askSetting (wpAny_pure ?_)))
  refine wpAny_bind (wpAny_mkText ?_)
  refine wpAny_bind (wpAny_loadPart (o := ⟨.type "dict", none, .dict (List.toArray es) ep, #[]⟩) ho ?_)
  dsimp only
  rw [if_neg (by rw [aRefKeyMayBeTheName_at, hany]; simp)]
  refine wpAny_updatePart (o := ⟨.type "dict", none, .dict (List.toArray es) ep, #[]⟩) ho (h _ (S.put (tk := s.toks + 1) P (Heap.SameBut.update ..) ?_))
  obtain ⟨ep', e1⟩ := putName_is (es := es) (ep := ep) name (if name.cps.isEmpty then 0 else reduceHash ((model prog w).w.params.strHash name.cps)) (.str name s.toks) v
  exact ⟨_, Heap.get?_update_self _ ho (by rw [e1]; rfl), _, _, e1, hs.put name _ s.toks v⟩
theorem Spelt.drop {es : List DictEntry} {kvs : List (Str × Value)} (h : Spelt es kvs) (name : Str) : Spelt ((nsDropIn name.cps.size name.cps.toList es).getD es) (dropL name kvs) := by
  induction h with
  | nil => exact .nil
  | @cons h' t' k' v' es' kvs' _ ih =>
    unfold nsDropIn dropL
    rw [isCps]
    by_cases e : k' = name
    · subst e
      simp only [decide_true, if_true]
      assumption
    · simp only [decide_eq_true_eq, e, if_false]
      cases q : nsDropIn name.cps.size name.cps.toList es' with
      | none => rw [q] at ih; exact .cons ih
      | some r => rw [q] at ih; exact .cons ih
theorem Spelt.has {es : List DictEntry} {kvs : List (Str × Value)} (h : Spelt es kvs) (name : Str) : es.toArray.any (·.key.isStr name) = (kvs.lookup name).isSome := by
  rw [← h.find name]
  unfold nsFind findBy
  rw [List.find?_toArray, Option.isSome_map, List.any_toArray]
  cases q : es.find? fun e => e.key.isStr name with
  | none =>
    rw [List.find?_eq_none] at q
    show es.any _ = false
    rw [List.any_eq_false]
    exact q
  | some e =>
    have := List.find?_some q
    show es.any _ = true
    exact List.any_eq_true.mpr ⟨e, List.mem_of_find?_eq_some q, this⟩
theorem del_d {a : Addr} {kvs : List (Str × Value)} {name : Str} {g : Ent → Led} {Q : Bool → Shared → Prop} (S : St σ h₀ N s) (P : Put a (dE kvs) N g) (h : ∀ s', St σ h₀ (g (dE (dropL name kvs))) s' → Q (kvs.lookup name).isSome s') :
    wpAny (model prog w) A (nsDel a name) Q E s := by
  obtain ⟨o, ho, es, ep, rfl, hs⟩ := S.at P.mem
  have hany : es.toArray.any (·.refKey) = false := by
    rw [Array.any_eq_false']; intro e he; obtain ⟨n, t, h⟩ := hs.keys e he; simp [DictEntry.refKey, h]
  have hhas : nsHas name ⟨.type "dict", none, .dict (List.toArray es) ep, #[]⟩ = pure ((kvs.lookup name).isSome) := by
    rw [nsHas_eq]
    unfold nsHasByArray
    dsimp only
    rw [hs.has, hany]
    cases (kvs.lookup name).isSome <;> rfl
  unfold nsDel
  refine wpAny_bind (wpAny_loadPart (o := ⟨.type "dict", none, .dict (List.toArray es) ep, #[]⟩) ho ?_)
  refine wpAny_bind (wpAny_of_eq hhas ?_)
  cases q : (kvs.lookup name).isSome with
  | false =>
    rw [if_neg Bool.false_ne_true]
    have e : dropL name kvs = kvs := by
      clear hhas hs h P
      induction kvs with
      | nil => rfl
      | cons p r ih =>
        rw [List.lookup_cons] at q
        unfold dropL
        by_cases e : p.1 = name
        · rw [beq_iff_eq.mpr e.symm] at q; cases q
        · rw [beq_false_of_ne (Ne.symm e)] at q
          rw [if_neg e, ih q]
    have := h s (by rw [e, P.self]; exact S)
    rw [q] at this
    exact wpAny_pure this
  | true =>
    rw [if_pos rfl]
    rw [q] at h
    refine wpAny_bind (wpAny_updatePart (o := ⟨.type "dict", none, .dict (List.toArray es) ep, #[]⟩) ho (wpAny_pure (h _ (S.put (tk := s.toks) P (Heap.SameBut.update ..) ?_))))
    obtain ⟨ep', e1⟩ := dropName_is (es := es) (ep := ep) name
    exact ⟨_, Heap.get?_update_self _ ho (by rw [e1]; rfl), _, _, e1, hs.drop name⟩
end
section
variable {prog : Program} {w : World} {A : Around} {σ : Shared} {h₀ : Heap} {N : Led} {s : Shared} {env : Env} {E : Value → Shared → Prop} {mg mb : Str → Option Value} {n : Nat} {ad : Ads}
/-- a code object: its table stands at P, its full name is q -/
def cdE (c P : Addr) (q : Str) : Ent := .sat fun o => ∃ vs file tf flags tg inF text tt tq, o.cls = .type "code" ∧ o.data = .fields vs ∧ vs[11]? = some (.ref P) ∧ vs.getD 11 .none = .ref P ∧ vs.getD 18 .none = .str file tf ∧
    vs.getD 7 .none = .int flags tg ∧ vs.getD 9 .none = .bool inF ∧ vs.getD 10 .none = .int text tt ∧ c ≠ P ∧ vs[1]? = some (.str q tq)
/-- a code object's table: no place behind row K stands in it -/
def tbE (K : Nat) : Ent := .sat fun o => ∃ ps : Array Value, o = tabObj ps ∧ TriplesOk ps.toList ∧ ∀ pos : Pos, K < pos.line → codeAmong pos ps.toList = none
theorem among_more {pos pos' : Pos} {c : Value} (hne : pos.line ≠ pos'.line) : ∀ (l : List Value), TriplesOk l → codeAmong pos l = none → codeAmong pos (l ++ [rawInt pos'.line, rawInt pos'.col, c]) = none := by
  intro l ht hn
  fun_induction TriplesOk l with
  | case1 => simp only [List.nil_append, rawInt, codeAmong]; rw [if_neg]; simp; omega
  | case2 a t b u x rest ih =>
    simp only [List.cons_append, codeAmong] at hn ⊢
    split at hn
    · cases hn
    · rename_i hc; rw [if_neg hc]; exact ih ht hn
  | case3 l h1 h2 => exact ht.elim
theorem St.codeHd {c P : Addr} {q : Str} (S : St σ h₀ N s) (hm : (c, cdE c P q) ∈ N) : CodeHd s.heap c P := by
  obtain ⟨o, ho, vs, file, tf, flags, tg, inF, text, tt, tq, e1, e2, e3, e4, e5, e6, e7, e8, e9, e10⟩ := S.at hm
  exact ⟨o, vs, file, tf, flags, tg, inF, text, tt, ho, e1, e2, e3, e4, e5, e6, e7, e8, e9⟩
theorem St.codeRec {c P : Addr} {q : Str} (S : St σ h₀ N s) (hm : (c, cdE c P q) ∈ N) : s.heap.CodeRec (.ref c) q := by
  obtain ⟨o, ho, vs, file, tf, flags, tg, inF, text, tt, tq, e1, e2, e3, e4, e5, e6, e7, e8, e9, e10⟩ := S.at hm
  exact ⟨c, o, vs, tq, rfl, ho, e2, e10⟩
theorem cdE_of {h : Heap} {c P : Addr} {q : Str} (C : CodeHd h c P) (R : h.CodeRec (.ref c) q) : At h c (cdE c P q) := by
  obtain ⟨o, vs, file, tf, flags, tg, inF, text, tt, ho, e1, e2, e3, e4, e5, e6, e7, e8, e9⟩ := C
  obtain ⟨c', o', vs', tq, ec, ho', d1, d2⟩ := R
  cases ec
  rw [ho] at ho'; cases ho'
  rw [e2] at d1; cases d1
  exact ⟨o, ho, vs, file, tf, flags, tg, inF, text, tt, tq, e1, e2, e3, e4, e5, e6, e7, e8, e9, d2⟩
theorem code_new {make : CodeContext → Sem Value} {c P : Addr} {K : Nat} {pos : Pos} {qual : Str} {g : Ent → Led} {Q : Value → Shared → Prop} (S : St σ h₀ N s) (hc : env.code = .ref c) (C : CodeHd s.heap c P)
    (PT : Put P (tbE K) N g) (hK : K < pos.line)
    (hmk : ∀ (ctx : CodeContext) (s : Shared) (Q' : Value → Shared → Prop), (∀ c P h' tk, (∀ b o, s.heap.get? b = some o → h'.get? b = some o) → s.heap.objs.size ≤ c → s.heap.objs.size ≤ P → h'.IsCode c P #[] → h'.TableAt c P #[] → h'.CodeRec (.ref c) qual →
      Q' (.ref c) { s with heap := h', toks := tk }) → wpAny (model prog w) A (make ctx) Q' E s)
    (h : ∀ c' P' s', St σ h₀ ((c', cdE c' P' qual) :: (P', tbE 0) :: g (tbE pos.line)) s' → Q (.ref c') s') :
    wpAny (model prog w) A (codeAt env pos make) Q E s := by
  obtain ⟨oP, hP, ps, rfl, ht, hnone⟩ := S.at PT.mem
  have hnf := hnone pos hK
  obtain ⟨o, vs, file, tf, flags, tg, inF, text, tt, op, ho, hd, h11, h2, h7, h9, h10, hop, hpd, htr, hne⟩ := C.code hP ht
  unfold codeAt
  rw [hc, if_neg (show ¬ ((Value.ref c == Value.none) = true) from Bool.false_ne_true)]
  refine wpAny_bind (wpAny_fieldsOf ho hd ?_)
  rw [h11]
  refine wpAny_bind (wpAny_fieldsOf hop hpd ?_)
  rw [hnf, h2, h7, h9, h10]
  refine wpAny_bind (hmk _ _ _ fun c' P' h' tk hk hc' hP' hcode' htab' hrec' => ?_)
  have hcP' : c' ≠ P' := by
    obtain ⟨_, _, _, _, _, _, _, _, _, _, _, _, _, _, _, _, _, _, _, _, q⟩ := hcode'
    exact q
  have S1 : St σ h₀ ([(c', cdE c' P' qual), (P', tbE 0)] ++ N) { s with heap := h', toks := tk } := by
    refine S.many hk ?_ ?_ ?_
    · intro p hp
      rcases List.mem_cons.mp hp with rfl | hp
      · exact get?_above hc'
      · rcases List.mem_singleton.mp hp with rfl
        exact get?_above hP'
    · simpa using hcP'
    · intro p hp
      rcases List.mem_cons.mp hp with rfl | hp
      · exact cdE_of (CodeHd.of hcode' htab') hrec'
      · rcases List.mem_singleton.mp hp with rfl
        exact ⟨_, htab'.2, #[], rfl, trivial, fun _ _ => rfl⟩
  have hop' := hk _ _ hop
  have e0 : op = tabObj ps := Option.some.inj (hop.symm.trans hP)
  subst e0
  refine wpAny_bind (wpAny_updateFieldsOfTheText hop' rfl ?_)
  have hnew : (Obj.mapFields (fun vs => if (codeAmong pos vs.toList).isSome = true then vs else vs ++ #[rawInt pos.line, rawInt pos.col, .ref c']) (tabObj ps)) = tabObj (ps ++ #[rawInt pos.line, rawInt pos.col, .ref c']) := by
    simp only [Obj.mapFields, hnf]
    rfl
  have hget := Heap.get?_update_self (h := h') (fun o => Obj.mapFields (fun vs => if (codeAmong pos vs.toList).isSome = true then vs else
    vs ++ #[rawInt pos.line, rawInt pos.col, .ref c']) o) hop' (by rw [hnew]; rfl)
  rw [hnew] at hget
  refine wpAny_bind (wpAny_fieldsOf hget rfl ?_)
  have hl : (ps ++ #[rawInt pos.line, rawInt pos.col, Value.ref c']).toList = ps.toList ++ [rawInt pos.line, rawInt pos.col, .ref c'] := by simp
  rw [hl, codeAmong_snoc _ htr hnf]
  exact wpAny_pure (h c' P' _ (S1.put (tk := tk) (.tail (.tail PT)) (Heap.SameBut.update ..) ⟨_, hget, _, rfl, by rw [hl]; exact TriplesOk_snoc _ _ _ _ ht, fun pos' hp' => by rw [hl]; exact among_more (by omega) _ ht (hnone pos' (by omega))⟩))
theorem fcode {c P : Addr} {K : Nat} {pos : Pos} {fl : Nat} {name qual : Str} {p : Arguments} {scope : Scope} {body : FuncBody} {g : Ent → Led} {Q : Value → Shared → Prop} (S : St σ h₀ N s) (hc : env.code = .ref c) (C : CodeHd s.heap c P)
    (PT : Put P (tbE K) N g) (hK : K < pos.line)
    (h : ∀ c' P' s', St σ h₀ ((c', cdE c' P' qual) :: (P', tbE 0) :: g (tbE pos.line)) s' → Q (.ref c') s') :
    wpAny (model prog w) A (functionCode env pos fl name qual p scope body) Q E s := code_new S hc C PT hK (fun _ _ _ q => wpAny_newCodeX q) h
theorem ccode {c P : Addr} {K : Nat} {pos : Pos} {fl : Nat} {name qual : Str} {scope : Scope} {g : Ent → Led} {Q : Value → Shared → Prop} (S : St σ h₀ N s) (hc : env.code = .ref c) (C : CodeHd s.heap c P)
    (PT : Put P (tbE K) N g) (hK : K < pos.line)
    (h : ∀ c' P' s', St σ h₀ ((c', cdE c' P' qual) :: (P', tbE 0) :: g (tbE pos.line)) s' → Q (.ref c') s') :
    wpAny (model prog w) A (classCode env pos fl name qual scope) Q E s := code_new S hc C PT hK (fun _ _ _ q => wpAny_newCodeX q) h
end
/-- the builtins' module, as the globals name it -/
def Bm (mg : Str → Option Value) (h₀ : Heap) : Prop := ∃ bm ob, mg "__builtins__" = some (.ref bm) ∧ bm ≠ builtinsNs ∧ h₀.get? bm = some ob ∧ ob.cls = .type "module" ∧ ob.dict = some builtinsNs ∧ ob.data = .plain
section
variable {prog : Program} {w : World} {A : Around} {σ : Shared} {h₀ : Heap} {N : Led} {s : Shared} {env : Env} {E : Value → Shared → Prop} {mg mb : Str → Option Value} {n : Nat} {ad : Ads}
theorem bfor {r : Addr} {Q : Addr → Shared → Prop} (S : St σ h₀ N s) (G : Gl mg mb h₀) (B : Bm mg h₀) (hg : env.globals = mainGlobals) (h : Q builtinsNs s) : wpAny (model prog w) A (builtinsFor env.globals r) Q E s := by
  obtain ⟨bm, ob, e1, e2, e3, e4, e5, e6⟩ := B
  rw [hg]
  exact wpAny_builtinsFor (G.g.keeps S.keep) e1 e2 (S.keep _ _ e3) e4 e5 e6 h
/-- a function made in the call -/
def fnE (name qual : Str) (params : Arguments) (body : FuncBody) (scope : Scope) (clos : List (Str × Addr)) (pm : Value) (c : Addr) : Ent := .sat fun o => ∃ ctv, o = kdv_obj name qual params body scope clos .none .none pm c ctv
theorem mktail {name qual : Str} {params : Arguments} {body : FuncBody} {scope : Scope} {pos : Pos} {fl : Nat} {clos : List (Str × Addr)} {c P : Addr} {K : Nat} {g : Ent → Led} {Q : Value → Shared → Prop}
    (S : St σ h₀ N s) (G : Gl mg mb h₀) (B : Bm mg h₀) (hcl : closureFor scope env = pure clos) (hg : env.globals = mainGlobals) (hc : env.code = .ref c) (C : CodeHd s.heap c P)
    (PT : Put P (tbE K) N g) (hK : K < pos.line) (hdoc : (match body with | .stmts b => docOf b | .expr _ => none) = none)
    (h : ∀ f c' P' s', St σ h₀ ((f, fnE name qual params body scope clos ((mg "__name__").getD .none) c') :: (c', cdE c' P' qual) :: (P', tbE 0) :: g (tbE pos.line)) s' → Q (.ref f) s') :
    wpAny (model prog w) A (makeTail name qual params body scope env .none .none none pos fl) Q E s := by
  unfold makeTail
  rw [hcl]
  refine wpAny_bind (wpAny_pure ?_)
  have go : ∀ (ctv : Value) (s : Shared), St σ h₀ N s → CodeHd s.heap c P →
      wpAny (model prog w) A (functionCode env pos fl name qual params scope body) (fun cv s₁ => wpAny (model prog w) A (builtinsFor env.globals env.builtins) (fun bv s₂ => wpAny (model prog w) A (nsGet env.globals "__name__") (fun nv s₃ =>
        wpAny (model prog w) A (newObj (.type "function") (.func (⟨name, qual, params, body, scope, env.globals, clos, .none, .none, .none, nv.getD .none, none, cv, ctv, bv⟩ : FuncData))) Q E s₃) E s₂) E s₁) E s := by
    intro ctv s S C
    refine fcode S hc C PT hK ?_
    intro c' P' s1 S1
    refine bfor S1 G B hg ?_
    refine wpAny_nsGet (by rw [hg]; exact G.g.keeps S1.keep) ?_
    refine wpAny_newObj_type (h _ c' P' _ (S1.push (tk := s1.toks) rfl ⟨ctv, ?_⟩)) (by size_fits)
    rw [hg]
  cases clos with
  | nil =>
    simp only [List.isEmpty_nil, if_true]
    refine wpAny_bind (wpAny_pure ?_)
    refine wpAny_bind (wpAny_mono (go .none s S C) (fun cv s₁ h₁ => wpAny_bind (wpAny_mono h₁ (fun bv s₂ h₂ => wpAny_bind (wpAny_mono h₂ (fun nv s₃ h₃ => ?_) fun _ _ e => e)) fun _ _ e => e)) fun _ _ e => e)
    cases body with
    | expr e => exact wpAny_bind (wpAny_pure h₃)
    | stmts b =>
      have hdoc' : docOf b = none := hdoc
      refine wpAny_bind ?_
      simp only [hdoc']
      exact wpAny_pure h₃
  | cons q r =>
    simp only [List.isEmpty_cons, Bool.false_eq_true, if_false]
    refine wpAny_bind (wpAny_newTextTuple ?_)
    have S' : St σ h₀ N { s with heap := s.heap.push { cls := .type "tuple", data := .seq (List.map (fun x : Str × Addr => Value.ref x.2) ((q :: r).mergeSort fun a b => decide (a.1.cps.toList ≤ b.1.cps.toList))).toArray }, toks := s.toks } := S.ext fun _ _ e => Heap.get?_push_of_some _ e
    refine wpAny_bind (wpAny_mono (go (.ref s.heap.objs.size) _ S' (C.keeps fun _ _ e => Heap.get?_push_of_some _ e)) (fun cv s₁ h₁ => wpAny_bind (wpAny_mono h₁ (fun bv s₂ h₂ => wpAny_bind (wpAny_mono h₂ (fun nv s₃ h₃ => ?_) fun _ _ e => e)) fun _ _ e => e)) fun _ _ e => e)
    cases body with
    | expr e => exact wpAny_bind (wpAny_pure h₃)
    | stmts b =>
      have hdoc' : docOf b = none := hdoc
      refine wpAny_bind ?_
      simp only [hdoc']
      exact wpAny_pure h₃
end
/-- the class statement: name, body, scope, statics, place -/
def kst : Str × List Stmt × Scope × List Str × Pos := match (fdef 3).2.2.1 with
  | .ClassDef nm _ _ body _ _ scope _ _ statics pos :: _ => (nm, body, scope, statics, pos)
  | _ => ("", [], ⟨.function, [], false, false, []⟩, [], ⟨0, 0, 0, 0⟩)
def kfn (j : Nat) : Str × Arguments × List Stmt × Scope := match (kst.2.1[j]?).bind fnParts with
  | some x => x
  | none => ("", ⟨[], [], none, [], [], none, []⟩, [], ⟨.function, [], false, false, []⟩)
/-- the class body's surroundings -/
abbrev kenv (NS cc fr mc : Addr) : Env :=
  { scope := kst.2.2.1, locals := NS, globals := mainGlobals, cells := [("mycmp", mc)], qual := "cmp_to_key.<locals>.K" ++ ".", func := none, code := .ref cc, frame := some fr, builtins := builtinsNs }
section
variable {prog : Program} {w : World} {A : Around} {σ : Shared} {h₀ : Heap} {N : Led} {s : Shared} {env : Env} {E : Value → Shared → Prop} {mg mb : Str → Option Value} {n : Nat} {ad : Ads}
theorem set_k {x : Str} {v : Value} {NS : Addr} {kvs : List (Str × Value)} {g : Ent → Led} {Q : Unit → Shared → Prop} (S : St σ h₀ N s) (P : Put NS (dE kvs) N g) (h : ∀ s', St σ h₀ (g (dE (putL x v kvs))) s' → Q () s')
    (hL : env.locals = NS) (hs : storeName env x v = localSet env x v) : wpAny (model prog w) A (storeName env x v) Q E s := by
  rw [hs]
  unfold localSet
  rw [hL]
  obtain ⟨o, ho, es, ep, rfl, hsp⟩ := S.at P.mem
  refine wpAny_bind (wpAny_load ho ?_)
  exact set_d S P h
theorem def_k {name : Str} {params : Arguments} {body : List Stmt} {scope : Scope} {pos : Pos} {clos : List (Str × Addr)} {c P : Addr} {K : Nat} {g : Ent → Led} {Q : Flow → Shared → Prop}
    (S : St σ h₀ N s) (G : Gl mg mb h₀) (B : Bm mg h₀) (hcl : closureFor scope env = pure clos) (hg : env.globals = mainGlobals) (hc : env.code = .ref c) (C : CodeHd s.heap c P)
    (PT : Put P (tbE K) N g) (hK : K < pos.line) (hdoc : docOf body = none)
    (h : ∀ f c' P' s', St σ h₀ ((f, fnE name (qualnameIn env name name) params (.stmts body) scope clos ((mg "__name__").getD .none) c') :: (c', cdE c' P' (qualnameIn env name name)) :: (P', tbE 0) :: g (tbE pos.line)) s' →
      wpAny (model prog w) A (storeName env name (.ref f)) (fun _ s'' => Q .next s'') E s')
    (hd : params.defaults = [] := by rfl) (hk0 : params.kw_defaults = [] := by rfl) (hko : params.kwonlyargs = [] := by rfl) (ha : annTrees params none env = [] := by rfl) :
    wpAny (model prog w) A (exec (.FunctionDef name params body [] none [] scope none name pos) env) Q E s := by
  rw [exec_def]
  refine wpAny_bind (wpAny_standAt (wpAny_bind (wpAny_holding ?_)))
  rw [defaultsOf_eq, hk0, ha, hd]
  refine wpAny_bind (wpAny_evalAll_nil ?_)
  refine wpAny_bind (wpAny_holding (wpAny_pure ?_))
  refine wpAny_holding (wpAny_bind (wpAny_pure ?_))
  rw [makeFunction_eq, hko]
  refine wpAny_bind (wpAny_pure (wpAny_bind (wpAny_pure (wpAny_bind (wpAny_pure ?_)))))
  refine mktail S G B hcl hg hc C PT hK hdoc ?_
  intro f c' P' s' S'
  exact wpAny_bind (wpAny_standAt (wpAny_bind (wpAny_bindName (wpAny_mono (h f c' P' s' S') (fun _ _ h'' => wpAny_pure h'') fun _ _ x => x))))
end
section
variable {prog : Program} {w : World} {A : Around} {σ : Shared} {h₀ : Heap} {N : Led} {s : Shared} {env : Env} {E : Value → Shared → Prop} {mg mb : Str → Option Value} {n : Nat} {ad : Ads}
theorem const_s {x : Str} {k : Nat} {pos : Pos} {Q : Value → Shared → Prop} (S : St σ h₀ N s) (h : ∀ s' t, St σ h₀ N s' → Q (.str x t) s') : wpAny (model prog w) A (eval (.Constant (.str x) k pos) env) Q E s := wpAny_Constant_str (h _ _ S.tok)
end
local macro_rules | `(tactic| walk_at "k1") => `(tactic| first
  | ((with_reducible refine' const_s ?S ?_); (case S => walk_at "st"); intro s' t' S')
  | with_reducible refine wpAny_Constant_none ?_
  | ((with_reducible refine' set_k ?S ?P ?_ ?hL ?hs); (case hL | hs => exact rfl); (case S => walk_at "st"); (case P => walk_at "put"); intro s' S')
  | walk_at "mw")
section
variable {prog : Program} {w : World} {A : Around} {σ : Shared} {h₀ : Heap} {N : Led} {s : Shared} {env : Env} {E : Value → Shared → Prop} {mg mb : Str → Option Value} {n : Nat} {ad : Ads}
/-- the j-th statement of the class body, as a function -/
def kq (j : Nat) : Str := "cmp_to_key.<locals>.K" ++ "." ++ (kfn j).1
def kfE (j : Nat) (clos : List (Str × Addr)) (pm : Value) (c : Addr) : Ent := fnE (kfn j).1 (kq j) (kfn j).2.1 (.stmts (kfn j).2.2.1) (kfn j).2.2.2 clos pm c
theorem St.ent {a : Addr} {e e' : Ent} {N : Led} (S : St σ h₀ ((a, e) :: N) s) (h : ∀ o, e.is o → e'.is o) : St σ h₀ ((a, e') :: N) s :=
  ⟨S.keep, fun p hp => by
    rcases List.mem_cons.mp hp with rfl | hp
    · obtain ⟨⟨o, ho, hi⟩, hz⟩ := S.led _ (.head _)
      exact ⟨⟨o, ho, h o hi⟩, hz⟩
    · exact S.led p (.tail _ hp), S.nd, S.gens, S.drawn, S.os⟩
theorem kbody_spec {NS cc P mc fr : Addr} {lam v1 v2 v3 : Value} {qq : Str} {Q : Flow → Shared → Prop}
    (S : St σ h₀ ((NS, dE [("__module__", v1), ("__qualname__", v2), ("__firstlineno__", v3)]) :: (cc, cdE cc P qq) :: (P, tbE 0) :: (mc, .cel (some lam)) :: N) s) (G : Gl mg mb h₀) (B : Bm mg h₀)
    (h : ∀ t1 t2 sl f1 c1 P1 f2 c2 P2 f3 c3 P3 f4 c4 P4 f5 c5 P5 f6 c6 P6 s', St σ h₀ ((f6, kfE 7 [("mycmp", mc)] ((mg "__name__").getD .none) c6) :: (c6, cdE c6 P6 (kq 7)) :: (f5, kfE 6 [("mycmp", mc)] ((mg "__name__").getD .none) c5) :: (c5, cdE c5 P5 (kq 6)) ::
      (f4, kfE 5 [("mycmp", mc)] ((mg "__name__").getD .none) c4) :: (c4, cdE c4 P4 (kq 5)) :: (f3, kfE 4 [("mycmp", mc)] ((mg "__name__").getD .none) c3) :: (c3, cdE c3 P3 (kq 4)) :: (f2, kfE 3 [("mycmp", mc)] ((mg "__name__").getD .none) c2) :: (c2, cdE c2 P2 (kq 3)) ::
      (f1, kfE 2 [] ((mg "__name__").getD .none) c1) :: (c1, cdE c1 P1 (kq 2)) :: (sl, .lst [.str "obj" t1]) ::
      (NS, dE [("__module__", .str "cpy313.functools" t2), ("__qualname__", v2), ("__firstlineno__", v3), ("__slots__", .ref sl), ("__init__", .ref f1), ("__lt__", .ref f2), ("__gt__", .ref f3), ("__eq__", .ref f4), ("__le__", .ref f5), ("__ge__", .ref f6), ("__hash__", .none)]) ::
      (mc, .cel (some lam)) :: N) s' → Q .next s') :
    wpAny (model prog w) A (execs kst.2.1 (kenv NS cc fr mc)) Q E s := by
  refine wpAny_execs_cons ?_
  repeat walk_at "k1"
  rename_i s1 S1
  have C1 := S1.codeHd (c := cc) (P := P) (q := qq) (by walk_at "mem")
  refine def_k S1 G B rfl rfl rfl C1 (by walk_at "put") (by decide) rfl ?_
  intro f1 c1 P1 s1' S1'
  repeat walk_at "k1"
  rename_i s2 S2
  have C2 := S2.codeHd (c := cc) (P := P) (q := qq) (by walk_at "mem")
  refine def_k S2 G B rfl rfl rfl C2 (by walk_at "put") (by decide) rfl ?_
  intro f2 c2 P2 s2' S2'
  repeat walk_at "k1"
  rename_i s3 S3
  have C3 := S3.codeHd (c := cc) (P := P) (q := qq) (by walk_at "mem")
  refine def_k S3 G B rfl rfl rfl C3 (by walk_at "put") (by decide) rfl ?_
  intro f3 c3 P3 s3' S3'
  repeat walk_at "k1"
  rename_i s4 S4
  have C4 := S4.codeHd (c := cc) (P := P) (q := qq) (by walk_at "mem")
  refine def_k S4 G B rfl rfl rfl C4 (by walk_at "put") (by decide) rfl ?_
  intro f4 c4 P4 s4' S4'
  repeat walk_at "k1"
  rename_i s5 S5
  have C5 := S5.codeHd (c := cc) (P := P) (q := qq) (by walk_at "mem")
  refine def_k S5 G B rfl rfl rfl C5 (by walk_at "put") (by decide) rfl ?_
  intro f5 c5 P5 s5' S5'
  repeat walk_at "k1"
  rename_i s6 S6
  have C6 := S6.codeHd (c := cc) (P := P) (q := qq) (by walk_at "mem")
  refine def_k S6 G B rfl rfl rfl C6 (by walk_at "put") (by decide) rfl ?_
  intro f6 c6 P6 s6' S6'
  repeat walk_at "k1"
  rename_i sZ SZ
  have S12 := SZ.sub (.cons_cons _ (.cons_cons _ (.cons _ (.cons_cons _ (.cons_cons _ (.cons _ (.cons_cons _ (.cons_cons _ (.cons _ (.cons_cons _ (.cons_cons _ (.cons _ (.cons_cons _ (.cons_cons _ (.cons _ (.cons_cons _ (.cons_cons _ (.cons _ (.cons_cons _ (.cons_cons _ (.cons _ (.cons _ (.refl _)))))))))))))))))))))))
  exact h _ _ _ _ _ P1 _ _ P2 _ _ P3 _ _ P4 _ _ P5 _ _ P6 _ S12
end
section
variable {prog : Program} {w : World} {A : Around} {σ : Shared} {h₀ : Heap} {N : Led} {s : Shared} {env : Env} {E : Value → Shared → Prop} {mg mb : Str → Option Value} {n : Nat} {ad : Ads}
/-- what a run of the engine leaves behind -/
theorem St.mem {h : Heap} {tk : Nat} {news : List (Addr × Obj)} (S : St σ h₀ N s) (D : PySem.W.X.Mem s.heap h [] news) : St σ h₀ (news.map (fun p => (p.1, Ent.raw p.2)) ++ N) { s with heap := h, toks := tk } := by
  refine S.many (fun b o e => D.keep b o e ?_) ?_ ?_ ?_
  · show (_ || PySem.W.X.away [] b) = true
    rw [show PySem.W.X.away [] b = true from rfl, Bool.or_true]
  · intro p hp
    obtain ⟨q, hq, rfl⟩ := List.mem_map.mp hp
    exact (D.nw q hq).2
  · rw [List.map_map]
    exact D.ord.imp fun h => Nat.ne_of_gt h
  · intro p hp
    obtain ⟨q, hq, rfl⟩ := List.mem_map.mp hp
    exact ⟨_, (D.nw q hq).1, rfl⟩
/-- x put into l gives l' -/
inductive Ins {α : Type} (x : α) : List α → List α → Prop
  | head {l} : Ins x l (x :: l)
  | tail {y l l'} : Ins x l l' → Ins x (y :: l) (y :: l')
theorem Ins.perm {α : Type} {x : α} {l l' : List α} (h : Ins x l l') : l'.Perm (x :: l) := by
  induction h with
  | head => exact .refl _
  | tail _ ih => exact (ih.cons _).trans (.swap ..)
/-- the entries of xs are among those of ys -/
def Sel {α : Type} (xs ys : List α) : Prop := ∃ z, ys.Perm (xs ++ z)
theorem Sel.refl {α : Type} {ys : List α} : Sel ys ys := ⟨[], by rw [List.append_nil]⟩
theorem Sel.nil {α : Type} {ys : List α} : Sel [] ys := ⟨ys, .refl _⟩
theorem Sel.cons {α : Type} {x : α} {xs ys' ys : List α} (i : Ins x ys' ys) (h : Sel xs ys') : Sel (x :: xs) ys := by
  obtain ⟨z, hz⟩ := h
  exact ⟨z, i.perm.trans (hz.cons x)⟩
theorem Sel.skip {α : Type} {y : α} {xs ys : List α} (h : Sel xs ys) : Sel xs (y :: ys) := by
  obtain ⟨z, hz⟩ := h
  exact ⟨y :: z, (hz.cons y).trans List.perm_middle.symm⟩
theorem St.sel {N' : Led} (S : St σ h₀ N s) (h : Sel N' N) : St σ h₀ N' s := by
  obtain ⟨z, hz⟩ := h
  exact (S.perm hz.symm).sub (List.sublist_append_left _ _)
end
local macro_rules | `(tactic| walk_at "ins") => `(tactic| first | exact Ins.head | (apply Ins.tail; walk_at "ins"))
local macro_rules | `(tactic| walk_at "sel") => `(tactic| first | exact Sel.refl | exact Sel.nil | (apply Sel.cons; (case i => walk_at "ins"); walk_at "sel") | (apply Sel.skip; walk_at "sel"))
section
variable {prog : Program} {w : World} {A : Around} {σ : Shared} {h₀ : Heap} {N : Led} {s : Shared} {env : Env} {E : Value → Shared → Prop} {mg mb : Str → Option Value} {n : Nat} {ad : Ads}
theorem Room.star {α : Type} {M : Model} {t : Sem α} {Q : α → Shared → Prop} (R : Room A 200) (h : wpAny M (Astar 800 9060) t Q E s) : wpAny M A t Q E s :=
  wp_star R.h (by have := R.d; have : recursionLimit = 1000 := rfl; omega) (by have := R.u; have : cLine = 9900 := rfl; omega) h
end
local macro_rules | `(tactic| x_close) => `(tactic| (rename_i D; apply_assumption; exact D))
section
variable {prog : Program} {w : World} {A : Around} {σ : Shared} {h₀ : Heap} {N : Led} {s : Shared} {env : Env} {E : Value → Shared → Prop} {mg mb : Str → Option Value} {n : Nat} {ad : Ads}
theorem prep_x {t : Tok} {Q : Option Value → Shared → Prop} (h : ∀ hh a, PySem.W.X.Mem s.heap hh [] [(a, ⟨.type "builtin_function_or_method", none, .fields #[.builtin "type.__prepare__", .type "type"], #[]⟩)] → Q (some (.ref a)) { s with heap := hh, toks := s.toks }) :
    wpAny (model prog w) (Astar 800 9060) (getAttrBy? (.type "type") (.str "__prepare__" t)) Q E s := by
  x_run
theorem prep2_x {t : Tok} {a b : Addr} {Q : Value → Shared → Prop} (ha : s.heap.get? a = some { cls := .type "builtin_function_or_method", dict := none, data := .fields #[.builtin "type.__prepare__", .type "type"], slots := #[] })
    (h : ∀ hh d, PySem.W.X.Mem s.heap hh [] [(d, ⟨.type "dict", none, .dict #[] 0, #[]⟩)] → Q (.ref d) { s with heap := hh, toks := s.toks }) :
    wpAny (model prog w) (Astar 800 9060) (call (.ref a) [.str "K" t, .ref b]) Q E s := by
  x_run
theorem prep {Q : Option Value → Shared → Prop} (S : St σ h₀ N s) (R : Room A 200) (h : ∀ s' a, St σ h₀ ((a, .raw ⟨.type "builtin_function_or_method", none, .fields #[.builtin "type.__prepare__", .type "type"], #[]⟩) :: N) s' → Q (some (.ref a)) s') :
    wpAny (model prog w) A (getAttr? (.type "type") "__prepare__") Q E s := by
  unfold getAttr?
  refine wpAny_bind (wpAny_mkText ?_)
  refine Room.star R (prep_x ?_)
  intro hh a D
  exact h _ _ ((S.tok (tk := s.toks + 1)).mem (tk := s.toks + 1) D)
theorem prep2 {t : Tok} {a b : Addr} {Q : Value → Shared → Prop} (S : St σ h₀ N s) (R : Room A 200) (hm : (a, .raw ⟨.type "builtin_function_or_method", none, .fields #[.builtin "type.__prepare__", .type "type"], #[]⟩) ∈ N)
    (h : ∀ s' d, St σ h₀ ((d, dE []) :: N) s' → Q (.ref d) s') : wpAny (model prog w) A (call (.ref a) [.str "K" t, .ref b]) Q E s := by
  refine Room.star R (prep2_x (S.raw hm) ?_)
  intro hh d D
  exact h _ _ ((S.mem (tk := s.toks) D).ent (e' := dE []) (fun o ho => ⟨[], 0, ho, .nil⟩))
end
section
variable {prog : Program} {w : World} {A : Around} {σ : Shared} {h₀ : Heap} {N : Led} {s : Shared} {env : Env} {E : Value → Shared → Prop} {mg mb : Str → Option Value} {n : Nat} {ad : Ads}
/-- a def whose code object stands at c, its table at P -/
def FnC (h : Heap) (a : Addr) (i : Nat) (c P : Addr) : Prop := ∃ o pm doc, h.get? a = some o ∧ o.data = .func (docDef (fdef i).1 (fdef i).2.1 (fdef i).2.2.1 (fdef i).2.2.2 pm (.ref c) doc) ∧ h.CodeRec (.ref c) (fdef i).1 ∧ CodeHd h c P
theorem call_at_c {i : Nat} {a c P : Addr} {args : List Value} {Q : Value → Shared → Prop} (S : St σ h₀ N s) (G : Gl mg mb h₀) (R : Room A (n + 1)) (F : FnC h₀ a i c P)
    (hb : ∀ pm cd doc, bindArgs (docDef (fdef i).1 (fdef i).2.1 (fdef i).2.2.1 (fdef i).2.2.2 pm cd doc) ⟨args, []⟩ = pure (fbinds i args))
    (hkind : ∀ L, ∀ x ∈ fbinds i args, (fdef i).2.2.2.names.lookup x.1 = some .local ∨ ((fdef i).2.2.2.names.lookup x.1 = some .cell ∧ ((fcells i L).lookup x.1).isSome = true))
    (hcs : ∀ L, ∀ p ∈ fcells i L, (fcells i L).lookup p.1 = some p.2)
    (h : ∀ L s' A', Room A' n → St σ h₀ (((L, .ns (bindL (fenvC i L a (.ref c)).kindOf (fbinds i args) fun _ => none)) :: (fcells i L).map fun p => (p.2, Ent.cel (bindC (fenvC i L a (.ref c)).kindOf (fbinds i args) (fun _ => none) p.1))) ++ N) s' →
      wpAny (model prog w) A' (execs (fdef i).2.2.1 (fenvC i L a (.ref c))) (fun f s'' => Q (match f with | .ret v => v | _ => .none) s'') NoE s')
    (hco : (fdef i).2.2.2.isCoroutine = false := by rfl) (hgen : (fdef i).2.2.2.isGenerator = false := by rfl) (hk : (fdef i).2.2.2.kind = .function := by rfl) : wpAny (model prog w) A (call (.ref a) args) Q E s := by
  obtain ⟨o, pm, doc, h1, h2, h3, h4⟩ := F
  refine wpAny_call (call_cells_ret R.room (S.keep _ _ h1) h2 (G.lim.keeps S.keep) (h3.keeps S.keep) (hb pm (.ref c) doc) (hkind _) (fun h₁ tk Fr₁ X => ?_) hco hgen hk)
  refine h _ _ _ R.deeper (S.many Fr₁.keep ?_ ?_ ?_)
  · intro p hp
    rcases List.mem_cons.mp hp with rfl | hp
    · exact get?_size _
    · obtain ⟨q, hq, rfl⟩ := List.mem_map.mp hp
      exact get?_above (Nat.le_of_lt (X.above q.1 q.2 hq))
  · rw [List.map_cons, List.nodup_cons, List.map_map]
    refine ⟨fun hm => ?_, ?_⟩
    · obtain ⟨q, hq, e⟩ := List.mem_map.mp hm
      have := X.above q.1 q.2 hq
      have e' : q.2 = s.heap.objs.size := e
      rw [e'] at this
      exact Nat.lt_irrefl _ this
    · exact List.pairwise_map.mpr X.apart
  · intro p hp
    rcases List.mem_cons.mp hp with rfl | hp
    · obtain ⟨o, es, ep, e1, e2, e3, e4⟩ := Fr₁.ns
      exact ⟨o, e1, es, ep, e2, e3, e4⟩
    · obtain ⟨q, hq, rfl⟩ := List.mem_map.mp hp
      exact X.cell q.1 q.2 (hcs _ q hq)
theorem class_open {name bind : Str} {b : Expr} {body : List Stmt} {scope : Scope} {x1 : Option Scope} {statics : List Str} {pos : Pos} {Q : Flow → Shared → Prop} (S : St σ h₀ N s) (G : Gl mg mb h₀) (hb : env.builtins = builtinsNs)
    (h : wpAny (model prog w) A (spliced (backTo pos (starEach [b] env))) (fun vs s₁ => wpAny (model prog w) A (buildClass name (qualnameIn env name bind) vs [] body scope statics pos.line env pos none)
      (fun c s₂ => wpAny (model prog w) A (storeName env bind c) (fun _ s₃ => Q .next s₃) E s₂) E s₁) E s) :
    wpAny (model prog w) A (exec (.ClassDef name [b] [] body [] [] scope x1 bind statics pos) env) Q E s := by
  rw [arm_exec_ClassDef]
  refine wpAny_bind (wpAny_evalAll_nil (wpAny_bind (wpAny_standAt (wpAny_bind ?_))))
  unfold buildClassGuard
  rw [hb]
  have e : mb "__build_class__" = some (.builtin "__build_class__") := by
    rw [G.bl _ (by decide)]
    first | kernel_rfl | decide +kernel
  refine wpAny_bind (wpAny_nsGet (G.b.keeps S.keep) ?_)
  rw [e]
  refine wpAny_pure (wpAny_bind (wpAny_holding (wpAny_bind ?_)))
  unfold evalArgs
  refine wpAny_bind (wpAny_mono h (fun vs s₁ h₁ => wpAny_bind (wpAny_pure (wpAny_holding ?_))) fun _ _ e => e)
  refine wpAny_bind (wpAny_evalAll_nil (wpAny_bind (wpAny_pure (wpAny_pure (wpAny_bind (wpAny_standAt (wpAny_holding (wpAny_mono h₁ (fun c s₂ h₂ => ?_) fun _ _ e => e))))))))
  refine wpAny_bind (wpAny_pure (wpAny_bind (wpAny_standAt (wpAny_bind (wpAny_bindName (wpAny_mono h₂ (fun _ _ q => wpAny_pure q) fun _ _ e => e))))))
end
local macro_rules | `(tactic| walk_at "tb") => `(tactic| try dsimp -zeta -zetaHave only)
section
variable {prog : Program} {w : World} {A : Around} {σ : Shared} {h₀ : Heap} {N : Led} {s : Shared} {env : Env} {E : Value → Shared → Prop} {mg mb : Str → Option Value} {n : Nat} {ad : Ads}
theorem entry_tnew : entryFor table "type.__new__" = some Builtin.«type.__new__» := entryFor_of_tree (by kernel_rfl)
theorem slot_tinit : Slot "type" "__init__" "type.__init__" :=
  .of (owner := "type") (n := "__init__") (by rw [typeLookup_type, builtinLookup_eq_fast]; kernel_rfl) (by decide +kernel) (by decide +kernel) (by decide +kernel)
    (by first | exact .inl (by decide +kernel) | exact .inr (by decide +kernel)) (by rw [isSubtype_type]; kernel_rfl)
theorem entry_tinit : entryFor table "type.__init__" = some Builtin.«type.__init__» := entryFor_of_tree (by kernel_rfl)
theorem args_tinit (a b c d : Value) : argsOk "type.__init__" ⟨[a, b, c, d], []⟩ := by unfold argsOk; kernel_rfl
/-- type(name, bases, ns), up to type.__new__ -/
theorem type_call {t : Tok} {bt NS : Addr} {Q : Value → Shared → Prop}
    (h : wpAny (model prog w) A.in1.in1 (Builtin.«type.__new__» ⟨[.type "type", .str "K" t, .ref bt, .ref NS], []⟩) (fun f s' => ∃ C o, f = .done (.ret (.ref C)) ∧ s'.heap.get? C = some o ∧ o.cls = .type "type" ∧ Q (.ref C) s') E s) :
    wpAny (model prog w) A (call (.type "type") [.str "K" t, .ref bt, .ref NS] []) Q E s := by
  refine wpAny_call (codeAny_of_tree ?_)
  show wpAny _ _ (callAny (.type "type") _) _ _ _
  refine wpAny_pure ⟨Code.quiet_builtin _ (by decide +kernel), codeAny_builtin F.entry_type_call ?_⟩
  rw [Around.under_plain (weight_type_call_type "type" _ []) (units_type_call_type "type" _ [])]
  unfold Builtin.«type.__call__»
  dsimp only
  rw [if_pos (by decide)]
  rw [if_neg (by show ¬ (false = true); decide), if_neg (by show ¬ (false = true); decide), if_neg (by decide +kernel)]
  refine wpAny_bind (wpAny_of_eq (a := ()) (by first | rfl | kernel_rfl) ?_)
  obtain ⟨cm, tl, hm⟩ : ∃ c tl, mroOf (.type "type") = pure (c :: tl) := ⟨_, _, rfl⟩
  refine wpAny_bind (wpAny_of_eq hm ?_)
  rw [if_neg (by simp)]
  refine wpAny_bind (wpAny_of_eq (a := some "type.__new__") (by first | rfl | kernel_rfl) ?_)
  refine wpAny_bind (wpAny_pure ?_)
  refine wpAny_bind (wpAny_holding (wpAny_call ?_))
  refine codeAny_call_builtin (by decide +kernel) entry_tnew (wpAny_of_eq (a := ()) (by first | rfl | kernel_rfl) ?_)
  refine wpAny_mono h ?_ fun _ _ e => e
  rintro f s' ⟨C, o, rfl, ho, hc, hq⟩
  dsimp only
  have hT : s'.TypeIs (.ref C) "type" := ⟨o, ho, hc⟩
  refine wpAny_bind (wpAny_isInstance hT (b := true) (by rw [isSubtype_type]; kernel_rfl) ?_)
  rw [if_neg (by decide)]
  refine wpAny_bind (wpAny_holding (wpAny_callSpecial?_slot (name := Str.ofString "__init__") hT slot_tinit ?_))
  refine wpAny_call (codeAny_call_builtin slot_tinit.plain entry_tinit (slot_tinit.check _ _ _ _ _ _ _ _ hT (args_tinit _ _ _ _) ?_))
  unfold Builtin.«type.__init__»
  dsimp only
  rw [if_neg (by show ¬ (false = true); decide), if_neg (by show ¬ (false = true); decide)]
  refine wpAny_pure ?_
  dsimp only
  rw [if_neg (by decide)]
  exact wpAny_pure hq
theorem ite_n {β : Type} {M : Model} {c : Prop} [Decidable c] {a b : Sem β} {Q : β → Shared → Prop} (hc : ¬ c) (h : wpAny M A b Q E s) : wpAny M A (if c then a else b) Q E s := by rw [if_neg hc]; exact h
theorem ite_p {β : Type} {M : Model} {c : Prop} [Decidable c] {a b : Sem β} {Q : β → Shared → Prop} (hc : c) (h : wpAny M A a Q E s) : wpAny M A (if c then a else b) Q E s := by rw [if_pos hc]; exact h
theorem ite_f {β : Type} {M : Model} {c : Bool} {a b : Sem β} {Q : β → Shared → Prop} (hc : c = false) (h : wpAny M A b Q E s) : wpAny M A (if c = true then a else b) Q E s := by rw [if_neg (by rw [hc]; decide)]; exact h
theorem sub_obj : isSubtype (.type "type") (.type "type") = pure true := by rw [isSubtype_type]; kernel_rfl
/-- the class body's namespace -/
def kvsB (m q v3 : Value) (sl f1 f2 f3 f4 f5 f6 sa : Addr) : List (Str × Value) := [("__module__", m), ("__qualname__", q), ("__firstlineno__", v3), ("__slots__", .ref sl), ("__init__", .ref f1), ("__lt__", .ref f2), ("__gt__", .ref f3), ("__eq__", .ref f4), ("__le__", .ref f5), ("__ge__", .ref f6), ("__hash__", .none), ("__static_attributes__", .ref sa)]
theorem get_v {a : Addr} {kvs : List (Str × Value)} {name : Str} {r : Option Value} {Q : Option Value → Shared → Prop} (S : St σ h₀ N s) (hm : (a, dE kvs) ∈ N) (hv : kvs.lookup name = r) (h : Q r s) :
    wpAny (model prog w) A (nsGet a name) Q E s := get_d S hm (by rw [hv]; exact h)
theorem Spelt.length {es : List DictEntry} {kvs : List (Str × Value)} (h : Spelt es kvs) : es.length = kvs.length := by
  induction h with
  | nil => rfl
  | cons _ ih => simp [ih]
theorem newdict {es : List DictEntry} {kvs : List (Str × Value)} {Q : Value → Shared → Prop} (S : St σ h₀ N s) (hs : Spelt es kvs) (hz : kvs.length < 1000) (h : ∀ s' a, St σ h₀ ((a, dE kvs) :: N) s' → Q (.ref a) s') :
    wpAny (model prog w) A (newObj (.type "dict") (.dict es.toArray)) Q E s :=
  wpAny_newObj_type (h _ _ (S.push (tk := s.toks) rfl ⟨es, 0, rfl, hs⟩)) (by have := hs.length; show es.toArray.size ≤ sizeLine + 1; rw [List.size_toArray]; unfold sizeLine; omega)
theorem allocr {o o' : Obj} {Q : Addr → Shared → Prop} (S : St σ h₀ N s) (he : o = o') (hf : o'.isFreed = false) (h : ∀ s' a, St σ h₀ ((a, .raw o') :: N) s' → Q a s') : wpAny (model prog w) A (alloc o) Q E s :=
  he ▸ wpAny_alloc (h _ _ (S.push (tk := s.toks) hf rfl))
theorem setslot {a : Addr} {kc : Value} {kd : Option Addr} {dt : Data} {sl : Array (Option Value)} {i : Nat} {v : Option Value} {g : Ent → Led} {Q : Unit → Shared → Prop} (S : St σ h₀ N s) (P : Put a (.raw ⟨kc, kd, dt, sl⟩) N g) (hi : i < 100)
    (sl' : Array (Option Value)) (he : (sl ++ Array.replicate (i + 1 - sl.size) none).setIfInBounds i v = sl')
    (h : ∀ s', St σ h₀ (g (.raw ⟨kc, kd, dt, sl'⟩)) s' → Q () s') (hf : ∀ sl, (⟨kc, kd, dt, sl⟩ : Obj).isFreed = false := by intro; rfl) : wpAny (model prog w) A (setSlotAt a i v) Q E s := by
  unfold setSlotAt
  rw [if_neg (by unfold sizeLine; omega)]
  refine wpAny_updatePart (S.raw P.mem) (h _ (S.put (tk := s.toks) P (Heap.SameBut.update ..) ⟨_, Heap.get?_update_self _ (S.raw P.mem) (hf _), ?_⟩))
  show (⟨kc, kd, dt, _⟩ : Obj) = _
  rw [he]
theorem forc {α β : Type} {M : Model} {x : α} {r : List α} {b : β} {f : α → β → Sem (ForInStep β)} {Q : β → Shared → Prop} (h : wpAny M A (f x b) (fun st s' => match st with | .done b' => Q b' s' | .yield b' => wpAny M A (forIn r b' f) Q E s') E s) :
    wpAny M A (forIn (x :: r) b f) Q E s := by
  rw [List.forIn_cons]
  refine wpAny_bind (wpAny_mono h (fun st s' h' => ?_) fun _ _ e => e)
  cases st with
  | done b' => exact wpAny_pure h'
  | yield b' => exact h'
theorem forn {α β : Type} {M : Model} {b : β} {f : α → β → Sem (ForInStep β)} {Q : β → Shared → Prop} (h : Q b s) : wpAny M A (forIn ([] : List α) b f) Q E s := by
  rw [List.forIn_nil]; exact wpAny_pure h
theorem updcls {a : Addr} {kc : Value} {kd : Option Addr} {dt : Data} {sl : Array (Option Value)} {c : ClassData} {f : ClassData → ClassData} {g : Ent → Led} {Q : Unit → Shared → Prop} (S : St σ h₀ N s) (P : Put a (.raw ⟨kc, kd, dt, sl⟩) N g) (ho : dt = .cls c)
    (c' : ClassData) (hc : f c = c') (hp : (Data.cls c').pastItsLine = none) (h : ∀ s', St σ h₀ (g (.raw ⟨kc, kd, .cls c', sl⟩)) s' → Q () s') : wpAny (model prog w) A (updateCls a f) Q E s := by
  subst ho hc
  unfold updateCls
  refine wpAny_bind (wpAny_load (S.raw P.mem) ?_)
  have hg := Heap.get?_update_self (Obj.mapCls f) (S.raw P.mem) rfl
  refine wpAny_bind (wpAny_update (S.raw P.mem) ?_)
  exact wpAny_lookBehind hg hp (h _ (S.put (tk := s.toks) P (Heap.SameBut.update ..) ⟨_, hg, rfl⟩))
theorem cdata {a : Addr} {o : Obj} {c : ClassData} {Q : ClassData → Shared → Prop} (S : St σ h₀ N s) (hm : (a, .raw o) ∈ N) (ho : o.data = .cls c) (h : Q c s) : wpAny (model prog w) A (classData a) Q E s := by
  unfold classData
  refine wpAny_bind (wpAny_load (S.raw hm) ?_)
  rw [ho]; exact wpAny_pure h
end
section
variable {prog : Program} {w : World} {A : Around} {σ : Shared} {h₀ : Heap} {N : Led} {s : Shared} {env : Env} {E : Value → Shared → Prop} {mg mb : Str → Option Value} {n : Nat} {ad : Ads}
theorem fora {α β : Type} {M : Model} {l : Array α} {b : β} {f : α → β → Sem (ForInStep β)} {Q : β → Shared → Prop} (h : wpAny M A (forIn l.toList b f) Q E s) : wpAny M A (forIn l b f) Q E s := by rw [← Array.forIn_toList]; exact h
theorem read_spec {kvs : List (Str × Value)} {es : List DictEntry} {sl : Addr} {t1 : Tok} {Q : Builtin.Slots.Plan → Shared → Prop} (S : St σ h₀ N s) (hsl : (sl, .lst [.str "obj" t1]) ∈ N) (R : Room A 200) (hs : Spelt es kvs)
    (hk : kvs.lookup ("__slots__" : Str) = some (.ref sl)) (ho : kvs.lookup ("obj" : Str) = none) (h : ∀ s', St σ h₀ N s' → Q { names := ["obj"], dict := false, weak := false, inherited := [] } s') :
    wpAny (model prog w) A (Builtin.Slots.read "K" [.type "object"] es.toArray) Q E s := by
  unfold Builtin.Slots.read
  refine wpAny_bind (wpAny_of_eq (a := .type "object") (by first | rfl | kernel_rfl) ?_)
  refine wpAny_bind (wpAny_of_eq (a := []) (by first | rfl | kernel_rfl) ?_)
  refine wpAny_bind (wpAny_of_eq (a := false) (by first | rfl | kernel_rfl) ?_)
  refine wpAny_bind (wpAny_of_eq (a := false) (by first | rfl | kernel_rfl) ?_)
  refine wpAny_bind (wpAny_of_eq (a := false) (by first | rfl | kernel_rfl) ?_)
  obtain ⟨e, he1, he2⟩ : ∃ e, es.toArray.find? (fun e => e.key.isStr "__slots__") = some e ∧ e.val = .ref sl := by
    have := hs.find "__slots__"
    rw [hk] at this
    unfold nsFind findBy at this
    rw [Option.map_eq_some_iff] at this
    exact this
  rw [he1]
  refine wpAny_bind (wpAny_rule ?_)
  rw [he2]
  obtain ⟨nn, hsl'⟩ := S.lst hsl
  refine wpAny_bind (wpAny_bind (wpAny_load hsl' (wpAny_pure ?_)))
  refine ite_n (by decide) ?_
  refine wpAny_bind (wpAny_collect_seq sl (.inl rfl) hsl' rfl rfl (fun h' hk' => ?_) (by show (1 : Nat) ≤ sizeLine; decide))
  have S2 := S.ext (tk := s.toks) hk'
  refine ite_p rfl ?_
  refine wpAny_bind (wpAny_of_eq (a := false) (by first | rfl | kernel_rfl) ?_)
  refine ite_n (by decide) ?_
  refine wpAny_bind (forc ?_)
  refine wpAny_bind (wpAny_of_eq (a := some ("obj" : Str)) rfl ?_)
  refine wpAny_bind (wpAny_pure ?_)
  have hid : Builtin.Slots.isIdentifier "obj" = some true := by decide +kernel
  dsimp only
  rw [hid]
  refine wpAny_bind (wpAny_pure ?_)
  refine ite_n (by decide) ?_
  refine ite_n (by decide) ?_
  refine ite_n (by decide) ?_
  refine wpAny_pure (forn ?_)
  have hany : es.toArray.any (fun x => x.key.isStr "obj") = false := by rw [hs.has, ho]; rfl
  have hmg : Builtin.Slots.mangle "K" "obj" = "obj" := by decide +kernel
  refine wpAny_bind (fora (forc ?_))
  dsimp only
  rw [hmg]
  refine ite_n (by decide) ?_
  refine ite_f (by rw [hany]; rfl) ?_
  refine ite_n (by decide) ?_
  refine wpAny_pure (forn ?_)
  refine wpAny_bind (forc (ite_n (by decide) (wpAny_pure (forn (wpAny_pure ?_)))))
  exact h _ S2
end
/-- the class K as type.__new__ leaves it -/
def kcls (C ns bt : Addr) (q : Str) (t t3 : Tok) : Obj := ⟨.type "type", none, .cls { name := "K", bases := [.type "object"], mro := [.ref C, .type "object"], ns := ns, qualname := q, hasDict := false, slotNames := ["obj"] },
  #[some (.ref bt), none, some (.str "K" t), some (.str q t3), some (.builtin "object.__new__"), some (.bool false)]⟩
section
variable {prog : Program} {w : World} {A : Around} {σ : Shared} {h₀ : Heap} {N : Led} {s : Shared} {env : Env} {E : Value → Shared → Prop} {mg mb : Str → Option Value} {n : Nat} {ad : Ads}
end
local macro_rules | `(tactic| x_close) => `(tactic| (rename_i D; apply_assumption; exact D))
section
variable {prog : Program} {w : World} {A : Around} {σ : Shared} {h₀ : Heap} {N : Led} {s : Shared} {env : Env} {E : Value → Shared → Prop} {mg mb : Str → Option Value} {n : Nat} {ad : Ads}
theorem Room.in1 {A : Around} {n : Nat} (R : Room A (n + 1)) : Room A.in1 n := ⟨R.h, by have := R.d; show A.depth + n < _; omega, by have := R.u; show A.units + 1 + 4 * n + 40 < _; omega⟩
theorem super_x {C ns bt : Addr} {q : Str} {t t3 : Tok} {Q : Value → Shared → Prop} (hC : s.heap.get? C = some ⟨.type "type", none, .cls { name := "K", bases := [.type "object"], mro := [.ref C, .type "object"], ns := ns, qualname := q, hasDict := false, slotNames := ["obj"] },
  #[some (.ref bt), none, some (.str "K" t), some (.str q t3), some (.builtin "object.__new__"), some (.bool false)]⟩)
    (h : ∀ hh a, PySem.W.X.Mem s.heap hh [] [(a, ⟨.type "super", none, .fields #[.ref C, .ref C, .ref C], #[]⟩)] → Q (.ref a) { s with heap := hh, toks := s.toks }) :
    wpAny (model prog w) (Astar 800 9060) (call (.type "super") [.ref C, .ref C]) Q E s := by
  x_run
end
/-- nothing of another maker is loaded -/
def Cs (h₀ : Heap) : Prop := ∃ m, h₀.Ns cStatics m ∧ m "thirdparty.any" = none
section
variable {prog : Program} {w : World} {A : Around} {σ : Shared} {h₀ : Heap} {N : Led} {s : Shared} {env : Env} {E : Value → Shared → Prop} {mg mb : Str → Option Value} {n : Nat} {ad : Ads}
theorem slot_sga : Slot "super" "__getattribute__" "super.__getattribute__" :=
  .of (owner := "super") (n := "__getattribute__") (by rw [typeLookup_type, builtinLookup_eq_fast]; kernel_rfl) (by decide +kernel) (by decide +kernel) (by decide +kernel)
    (by first | exact .inl (by decide +kernel) | exact .inr (by decide +kernel)) (by rw [isSubtype_type]; kernel_rfl)
theorem entry_sga : entryFor table "super.__getattribute__" = some Builtin.«super.__getattribute__» := entryFor_of_tree (by kernel_rfl)
theorem args_sga (a b : Value) : argsOk "super.__getattribute__" ⟨[a, b], []⟩ := by unfold argsOk; kernel_rfl
theorem slot_cdg : Slot "classmethod_descriptor" "__get__" "classmethod_descriptor.__get__" :=
  .of (owner := "classmethod_descriptor") (n := "__get__") (by rw [typeLookup_type, builtinLookup_eq_fast]; kernel_rfl) (by decide +kernel) (by decide +kernel) (by decide +kernel)
    (by first | exact .inl (by decide +kernel) | exact .inr (by decide +kernel)) (by rw [isSubtype_type]; kernel_rfl)
theorem entry_cdg : entryFor table "classmethod_descriptor.__get__" = some Builtin.«classmethod_descriptor.__get__» := entryFor_of_tree (by kernel_rfl)
theorem args_cdg (a b c : Value) : argsOk "classmethod_descriptor.__get__" ⟨[a, b, c], []⟩ := by unfold argsOk; kernel_rfl
theorem cdg {C : Addr} {o : Obj} {c : ClassData} {Q : Value → Shared → Prop} (S : St σ h₀ N s) (hC : (C, .raw o) ∈ N) (ho : o.data = .cls c) (hm : c.mro = [.ref C, .type "object"])
    (h : ∀ s' a, St σ h₀ ((a, .raw ⟨.type "builtin_function_or_method", none, .fields #[.builtin "object.__init_subclass__", .ref C], #[]⟩) :: N) s' → Q (.ref a) s') :
    wpAny (model prog w) A (call (.builtin "classmethod_descriptor.__get__") [.builtin "object.__init_subclass__", .none, .ref C]) Q E s := by
  refine wpAny_call (codeAny_call_builtin slot_cdg.plain entry_cdg (slot_cdg.check _ _ _ _ _ _ _ _ (by show typeOf _ = _; kernel_rfl) (args_cdg _ _ _) ?_))
  unfold Builtin.«classmethod_descriptor.__get__»
  refine wpAny_bind (wpAny_of_eq (a := (.builtin "object.__init_subclass__", none, some (.ref C))) (by first | rfl | kernel_rfl) ?_)
  refine wpAny_bind (wpAny_pure ?_)
  unfold isType loadHead
  refine wpAny_bind (wpAny_bind (wpAny_loadPart (S.raw hC) (wpAny_pure ?_)))
  rw [ho]
  refine ite_f rfl ?_
  unfold isSubtype
  refine wpAny_bind (wpAny_bind (wpAny_bind (cdata S hC ho (wpAny_pure ?_))))
  rw [hm]
  refine ite_f rfl (wpAny_pure ?_)
  refine ite_f (by kernel_rfl) ?_
  refine wpAny_bind (wpAny_newObj_type (T := "builtin_function_or_method") (wpAny_pure (h _ _ (S.push (tk := s.toks) rfl rfl))))
theorem bound_ois {C : Addr} {o : Obj} {c : ClassData} {Q : Unit → Shared → Prop} (S : St σ h₀ N s) (hC : (C, .raw o) ∈ N) (ho : o.data = .cls c) (hoc : o.cls = .type "type") (h : Q () s) : wpAny (model prog w) A (checkBoundCall "object.__init_subclass__" ⟨[.ref C], []⟩) Q E s := by
  obtain ⟨sig, hs⟩ : ∃ sig, Manifest.signature? "object.__init_subclass__" = some sig := Option.isSome_iff_exists.mp (by decide +kernel)
  have hk : builtinKind "object.__init_subclass__" = some .classMethod := by decide +kernel
  have hT : s.TypeIs (.ref C) "type" := ⟨o, S.raw hC, hoc⟩
  unfold checkBoundCall
  rw [hs, hk]
  refine ite_f rfl ?_
  refine wpAny_bind (wpAny_isInstance hT (b := false) (by rw [isSubtype_type]; kernel_rfl) ?_)
  refine ite_f (by decide +kernel) ?_
  unfold isType loadHead
  refine wpAny_bind (wpAny_bind (wpAny_loadPart (S.raw hC) (wpAny_pure ?_)))
  rw [ho]
  refine ite_p rfl (wpAny_bind (wpAny_pure ?_))
  refine wpAny_bind (cdata S hC ho ?_)
  refine wpAny_bind (wpAny_typeOf hT ?_)
  refine ite_p (by decide) ?_
  have h1 : (Manifest.signature? "object.__init_subclass__").map (·.machinery) = some .noArgs := by decide +kernel
  have h2 : (Manifest.signature? "object.__init_subclass__").map (·.receiver) = some .cls := by decide +kernel
  have h3 : (Manifest.signature? "object.__init_subclass__").map (·.short) = some "__init_subclass__" := by decide +kernel
  rw [hs] at h1 h2 h3
  have h1 : sig.machinery = .noArgs := Option.some.inj h1
  have h2 : sig.receiver = .cls := Option.some.inj h2
  have h3 : sig.short = "__init_subclass__" := Option.some.inj h3
  unfold Bind.checkArgs
  dsimp only
  rw [h1, h2, h3]
  have hne : (toString c.qualname.toString ++ toString "." ++ toString (Bind.lastOf "object.__init_subclass__")) ≠ "*" := by
    intro e
    have := congrArg String.length e
    rw [String.length_append, String.length_append, show (toString (Bind.lastOf "object.__init_subclass__")).length = 17 from by decide +kernel] at this
    have h0 : ("*" : String).length = 1 := by decide +kernel
    omega
  unfold Bind.printed
  refine wpAny_bind (ite_p (by simpa using hne) (wpAny_pure ?_))
  refine wpAny_bind (ite_p (by decide +kernel) (wpAny_pure ?_))
  refine wpAny_onRaise ?_
  unfold Bind.check
  exact wpAny_bind (wpAny_pure (wpAny_pure h))
theorem entry_ois : entryFor table "object.__init_subclass__" = some Builtin.«object.__init_subclass__» := entryFor_of_tree (by kernel_rfl)
theorem isub {C f : Addr} {o : Obj} {c : ClassData} {Q : Value → Shared → Prop} (S : St σ h₀ N s) (hC : (C, .raw o) ∈ N) (ho : o.data = .cls c) (hoc : o.cls = .type "type") (hf : (f, .raw ⟨.type "builtin_function_or_method", none, .fields #[.builtin "object.__init_subclass__", .ref C], #[]⟩) ∈ N) (h : Q .none s) : wpAny (model prog w) A (call (.ref f) []) Q E s := by
  refine wpAny_call (codeAny_of_tree ?_)
  show wpAny _ _ (callAny (.ref f) _) _ _ _
  refine wpAny_bind (wpAny_load (S.raw hf) ?_)
  refine ite_p rfl ?_
  refine ite_p rfl ?_
  refine wpAny_bind (bound_ois S hC ho hoc ?_)
  refine wpAny_pure ⟨Code.quiet_builtin _ (by decide +kernel), codeAny_builtin entry_ois ?_⟩
  unfold Builtin.«object.__init_subclass__»
  exact ite_p rfl (wpAny_pure h)
theorem forl {α β : Type} {M : Model} {l l' : List α} {b : β} {f : α → β → Sem (ForInStep β)} {Q : β → Shared → Prop} (he : l = l') (h : wpAny M A (forIn l' b f) Q E s) : wpAny M A (forIn l b f) Q E s := he ▸ h
theorem super_attr {C ns bt sup : Addr} {q : Str} {t t3 : Tok} {Q : Value → Shared → Prop} (S : St σ h₀ N s) (hm : (sup, .raw ⟨.type "super", none, .fields #[.ref C, .ref C, .ref C], #[]⟩) ∈ N) (hC : (C, .raw (kcls C ns bt q t t3)) ∈ N) (hcs : Cs h₀) (R : Room A 210)
    (h : ∀ s' f, St σ h₀ ((f, .raw ⟨.type "builtin_function_or_method", none, .fields #[.builtin "object.__init_subclass__", .ref C], #[]⟩) :: N) s' → Q (.ref f) s') :
    wpAny (model prog w) A (getAttr (.ref sup) "__init_subclass__") Q E s := by
  unfold getAttr
  refine wpAny_bind (wpAny_mkText ?_)
  have S1 := S.tok (tk := s.toks + 1)
  have hT : ({ s with toks := s.toks + 1 } : Shared).TypeIs (.ref sup) "super" := ⟨_, S.raw hm, rfl⟩
  unfold getAttrBy
  refine wpAny_holding (wpAny_bind (wpAny_typeOf hT (wpAny_bind (wpAny_of_eq slot_sga.lookup ?_))))
  unfold getAttrByItsOwn
  refine ite_n (by decide) ?_
  refine wpAny_bind (wpAny_of_eq (a := none) rfl ?_)
  refine wpAny_bind (wpAny_attempt (wpAny_holding ?_))
  unfold callGetattribute boundAndCalled
  refine ite_n (by decide) ?_
  refine wpAny_bind (wpAny_of_eq (slot_sga.bind _) ?_)
  refine wpAny_call (codeAny_call_builtin slot_sga.plain entry_sga (slot_sga.check _ _ _ _ _ _ _ _ hT (args_sga _ _) ?_))
  unfold Builtin.«super.__getattribute__»
  have hf : ∀ {A : Around} {E : Value → Shared → Prop} {Q : Value → Shared → Prop} (i : Nat), i < 3 → Q (.ref C) { s with toks := s.toks + 1 } → wpAny (model prog w) A (field (.ref sup) i) Q E { s with toks := s.toks + 1 } := by
    intro A E Q i hi hq
    unfold field
    refine wpAny_bind (wpAny_fieldsOf (S1.raw hm) rfl ?_)
    have : i = 0 ∨ i = 1 ∨ i = 2 := by omega
    rcases this with rfl | rfl | rfl <;> exact wpAny_pure hq
  refine wpAny_bind (wpAny_of_eq (a := some ("__init_subclass__" : Str)) rfl ?_)
  refine ite_n (by decide) ?_
  refine wpAny_bind (wpAny_of_eq (a := some ("__init_subclass__" : Str)) rfl ?_)
  refine wpAny_bind (hf 0 (by decide) ?_)
  refine wpAny_bind (hf 1 (by decide) ?_)
  refine wpAny_bind (hf 2 (by decide) ?_)
  refine ite_n (by simp; decide) ?_
  refine wpAny_bind ?_
  unfold notOfAnOpaqueClass opaqueClassAbove anyOpaqueLoaded
  obtain ⟨mc, hc1, hc2⟩ := hcs
  refine wpAny_bind (wpAny_bind (wpAny_bind (wpAny_nsGet (hc1.keeps S1.keep) ?_)))
  rw [hc2]
  refine wpAny_pure (ite_p (by decide) (wpAny_pure (wpAny_pure ?_)))
  refine ite_n (by simp) ?_
  refine wpAny_bind (wpAny_bind (cdata S1 hC rfl (wpAny_pure ?_)))
  have ha : List.drop 1 (List.dropWhile (fun x => x != Value.ref C) [Value.ref C, Value.type "object"]) = [Value.type "object"] := by simp [List.dropWhile]
  refine wpAny_bind (forl ha (forc ?_))
  refine wpAny_bind (wpAny_of_eq (a := some (.builtin "object.__init_subclass__")) (by kernel_rfl) ?_)
  refine wpAny_bind (wpAny_of_eq (a := .type "classmethod_descriptor") (by kernel_rfl) ?_)
  refine wpAny_bind (wpAny_of_eq (a := some (.builtin "classmethod_descriptor.__get__")) (by kernel_rfl) ?_)
  refine wpAny_bind (wpAny_holding ?_)
  rw [if_pos (by simp)]
  refine cdg S1 hC rfl rfl ?_
  intro s2 f S2
  refine wpAny_bind (wpAny_pure (wpAny_pure (wpAny_pure ?_)))
  exact wpAny_pure (h _ _ S2)
end
section
variable {prog : Program} {w : World} {A : Around} {σ : Shared} {h₀ : Heap} {N : Led} {s : Shared} {env : Env} {E : Value → Shared → Prop} {mg mb : Str → Option Value} {n : Nat} {ad : Ads}
/-- looking a name up in the class made here -/
theorem look_k {C ns : Addr} {o : Obj} {c : ClassData} {kvs : List (Str × Value)} {name : Str} {r : Option Value} {Q : Option Value → Shared → Prop} (S : St σ h₀ N s) (hm : (C, .raw o) ∈ N) (ho : o.data = .cls c) (hmro : c.mro = [.ref C, .type "object"]) (hcn : c.ns = ns) (hns : (ns, dE kvs) ∈ N)
    (hr : (kvs.lookup name).orElse (fun _ => builtinOwn "object" name) = r) (h : Q r s) : wpAny (model prog w) A (typeLookup (.ref C) name) Q E s := by
  subst hcn
  unfold typeLookup
  refine wpAny_bind (wpAny_bind (cdata S hm ho (wpAny_pure ?_)))
  rw [hmro]
  refine wpAny_bind (forc (wpAny_bind (wpAny_bind (cdata S hm ho (get_d S hns ?_)))))
  cases hl : kvs.lookup name with
  | some v =>
    rw [hl] at hr; subst hr
    exact wpAny_pure (wpAny_pure h)
  | none =>
    rw [hl] at hr
    refine wpAny_pure (forc (wpAny_bind (wpAny_pure ?_)))
    have hr' : builtinOwn "object" name = r := hr
    rw [hr']
    cases r with
    | some v => exact wpAny_pure (wpAny_pure h)
    | none => exact wpAny_pure (forn (wpAny_pure h))
theorem refresh_k {C ns : Addr} {o : Obj} {c : ClassData} {kvs : List (Str × Value)} {Q : Unit → Shared → Prop} (S : St σ h₀ N s) (hm : (C, .raw o) ∈ N) (ho : o.data = .cls c) (hmro : c.mro = [.ref C, .type "object"]) (hcn : c.ns = ns) (hns : (ns, dE kvs) ∈ N)
    (h4 : o.slots[4]? = some (some (.builtin "object.__new__"))) (hr : kvs.lookup ("__new__" : Str) = none) (h : Q () s) : wpAny (model prog w) A (Bind.refreshMaker C) Q E s := by
  unfold Bind.refreshMaker slotAt
  refine wpAny_bind (wpAny_bind (wpAny_loadPart (S.raw hm) (wpAny_pure ?_)))
  refine ite_n (by rw [h4]; decide) ?_
  refine wpAny_bind (look_k S hm ho hmro hcn hns (r := some (.builtin "object.__new__")) (by rw [hr]; kernel_rfl) ?_)
  exact ite_n (by decide +kernel) (wpAny_pure h)
theorem install_k {C ns : Addr} {sl : Array (Option Value)} {q : Str} {kvs : List (Str × Value)} {Q : Unit → Shared → Prop} (S : St σ h₀ ((C, .raw ⟨.type "type", none, .cls { name := "K", bases := [.type "object"], mro := [.ref C, .type "object"], ns := ns, qualname := q }, sl⟩) :: (ns, dE kvs) :: N) s)
    (hr : kvs.lookup ("obj" : Str) = none) (hz : kvs.length < 1000) (h : ∀ s' md t', St σ h₀ ((C, .raw ⟨.type "type", none, .cls { name := "K", bases := [.type "object"], mro := [.ref C, .type "object"], ns := ns, qualname := q, hasDict := false, slotNames := ["obj"] }, sl⟩) :: (ns, dE (putL "obj" (.ref md) kvs)) ::
      (md, .raw ⟨.type "member_descriptor", none, .fields #[.str "obj" t', .ref C, .builtin "proto.slot", .builtin "proto.slot#set", rawInt 0], #[]⟩) :: N) s' → Q () s') :
    wpAny (model prog w) A (Builtin.Slots.install (.ref C) ns [.type "object"] { names := ["obj"], dict := false, weak := false }) Q E s := by
  unfold Builtin.Slots.install
  refine wpAny_bind (forc ?_)
  refine wpAny_bind (get_v S (.tail _ (.head _)) hr ?_)
  refine ite_p (by decide) ?_
  refine wpAny_bind (wpAny_mkStr ?_)
  refine wpAny_bind (wpAny_newObj_type (T := "member_descriptor") ?_)
  have S1 : St σ h₀ ((s.heap.objs.size, .raw ⟨.type "member_descriptor", none, .fields #[.str "obj" s.toks, .ref C, .builtin "proto.slot", .builtin "proto.slot#set", rawInt 0], #[]⟩) :: _) _ := (S.tok (tk := s.toks + 1)).push (tk := s.toks + 1) rfl rfl
  unfold nsSetByValue
  obtain ⟨od, hod, es, ep, rfl, hsp⟩ := S1.at (.tail _ (.tail _ (.head _)))
  refine wpAny_bind (wpAny_bind (wpAny_loadPart hod ?_))
  have hl := hsp.length
  have hz' : ¬ (es.toArray.size > sizeLine) := by rw [List.size_toArray]; unfold sizeLine; omega
  refine ite_f (by rw [decide_eq_false hz']; rfl) ?_
  refine set_d S1 (.tail (.tail .head)) ?_
  intro s2 S2
  refine wpAny_pure (forn ?_)
  refine wpAny_bind (forc (wpAny_bind (wpAny_of_eq (a := false) (by first | rfl | kernel_rfl) ?_)))
  refine ite_n (by decide) (wpAny_pure (forn ?_))
  refine ite_n (by decide +kernel) ?_
  refine updcls S2 (.tail .head) rfl _ rfl rfl ?_
  intro s3 S3
  exact h _ _ _ (S3.sel (by walk_at "sel"))
theorem Spelt.val {es : List DictEntry} {kvs : List (Str × Value)} (h : Spelt es kvs) : ∀ e ∈ es, ∃ k, (k, e.val) ∈ kvs := by
  induction h with
  | nil => intro e he; cases he
  | cons _ ih =>
    intro e he
    rcases List.mem_cons.mp he with rfl | he
    · exact ⟨_, .head _⟩
    · obtain ⟨k, hk⟩ := ih e he
      exact ⟨k, .tail _ hk⟩
/-- a value that has no __set_name__ -/
def PV (s : Shared) (v : Value) : Prop := (∃ T, s.TypeIs v T ∧ typeLookup (.type T) "__set_name__" = pure none) ∧ ∀ k, Builtin.heldUnderItsOwnName k v = false
/-- the class's own namespace -/
def kvsC (m v3 : Value) (sl f1 f2 f3 f4 f5 f6 sa md : Addr) : List (Str × Value) := [("__module__", m), ("__firstlineno__", v3), ("__slots__", .ref sl), ("__init__", .ref f1), ("__lt__", .ref f2), ("__gt__", .ref f3), ("__eq__", .ref f4), ("__le__", .ref f5), ("__ge__", .ref f6), ("__hash__", .none), ("__static_attributes__", .ref sa), ("obj", .ref md), ("__doc__", .none)]
set_option maxHeartbeats 2000000 in
theorem tnew_spec {t t1 t2 t3 t4 : Tok} {bt NS sl f1 f2 f3 f4 f5 f6 sa : Addr} {q : Str} {fl : Int} {Q : Fin → Shared → Prop} (S : St σ h₀ ((NS, dE (kvsB (.str "cpy313.functools" t2) (.str q t3) (.int fl t4) sl f1 f2 f3 f4 f5 f6 sa)) :: (bt, .tup [.type "object"]) :: (sl, .lst [.str "obj" t1]) :: N) s) (hsm : (NS == sysModules) = false) (R : Room A 210) (hcs : Cs h₀)
    (hfn : ∀ f ∈ [f1, f2, f3, f4, f5, f6], ∃ e, (f, e) ∈ N ∧ ∀ o, e.is o → o.cls = .type "function") (hsa : ∃ e, (sa, e) ∈ N ∧ ∀ o, e.is o → o.cls = .type "tuple")
    (h : ∀ s' C ns md t5, St σ h₀ ((C, .raw (kcls C ns bt q t t3)) :: (ns, dE (kvsC (.str "cpy313.functools" t2) (.int fl t4) sl f1 f2 f3 f4 f5 f6 sa md)) :: (md, .raw ⟨.type "member_descriptor", none, .fields #[.str "obj" t5, .ref C, .builtin "proto.slot", .builtin "proto.slot#set", rawInt 0], #[]⟩) ::
      (NS, dE (kvsB (.str "cpy313.functools" t2) (.str q t3) (.int fl t4) sl f1 f2 f3 f4 f5 f6 sa)) :: (bt, .tup [.type "object"]) :: (sl, .lst [.str "obj" t1]) :: N) s' → Q (.done (.ret (.ref C))) s') :
    wpAny (model prog w) A (Builtin.«type.__new__» ⟨[.type "type", .str "K" t, .ref bt, .ref NS], []⟩) Q E s := by
  have hTb : s.TypeIs (.ref bt) "tuple" := by obtain ⟨o, ho, n, rfl⟩ := S.at (.tail _ (.head _)); exact ⟨_, ho, rfl⟩
  obtain ⟨o, ho, es, ep, rfl, hsp⟩ := S.at (.head _)
  have hTd : s.TypeIs (.ref NS) "dict" := ⟨_, ho, rfl⟩
  obtain ⟨ob, hob', nb, rfl⟩ := S.at (.tail _ (.head _))
  unfold Builtin.«type.__new__»
  refine wpAny_bind (wpAny_of_eq (a := some ("K" : Str)) rfl ?_)
  refine wpAny_bind (wpAny_isInstance hTb (b := true) (by rw [isSubtype_type]; kernel_rfl) ?_)
  refine ite_n (by decide) ?_
  refine wpAny_bind (wpAny_isInstance hTd (b := true) (by rw [isSubtype_type]; kernel_rfl) ?_)
  refine ite_n (by decide) ?_
  refine wpAny_bind (wpAny_seqItems hob' rfl ?_)
  refine ite_n (by simp) ?_
  refine wpAny_bind (wpAny_of_eq (a := PUnit.unit) (by first | rfl | kernel_rfl) ?_)
  refine wpAny_bind (wpAny_of_eq (a := Value.type "type") (by first | rfl | kernel_rfl) ?_)
  refine ite_n (by decide) ?_
  refine wpAny_bind (wpAny_of_eq (a := ()) (by first | rfl | kernel_rfl) ?_)
  refine wpAny_bind (wpAny_of_eq (a := Value.type "object") (by first | rfl | kernel_rfl) ?_)
  refine ite_n (by rw [hsm]; decide) ?_
  refine wpAny_bind (wpAny_bind (wpAny_loadPart ho (wpAny_pure ?_)))
  refine wpAny_bind (wpAny_specialOf hTd PySem.F.slot_dict_iter.lookup ?_)
  refine ite_p (by simp) ?_
  refine wpAny_bind (wpAny_pure ?_)
  refine wpAny_bind (wpAny_holding (read_spec S (sl := sl) (t1 := t1) (by walk_at "mem") (R.le (by decide)) hsp rfl rfl ?_))
  intro s2 S2
  refine wpAny_bind (newdict S2 hsp (by simp [kvsB]) ?_)
  intro s3 ns S3
  have hmod : es.toArray.any (fun x => x.key.isStr "__module__") = true := (hsp.has _).trans rfl
  refine ite_n (by show ¬ ((!es.toArray.any (fun x => x.key.isStr "__module__")) = true); rw [hmod]; decide) ?_
  refine wpAny_bind (ite_n (by decide +kernel) (wpAny_pure ?_))
  refine ite_n (by decide +kernel) ?_
  refine wpAny_bind (get_v S3 (.head _) rfl ?_)
  refine wpAny_bind (get_v S3 (.head _) rfl ?_)
  refine wpAny_bind (wpAny_of_eq (a := some q) rfl ?_)
  refine wpAny_bind (wpAny_pure ?_)
  refine wpAny_bind (get_v S3 (.head _) (r := none) rfl ?_)
  refine wpAny_bind (allocr S3 (o' := ⟨.type "type", none, .cls { name := "K", bases := [.type "object"], mro := [], ns := ns, qualname := q }, #[]⟩) rfl rfl ?_)
  intro s4 C S4
  refine ite_p (by simp) ?_
  refine wpAny_bind (setslot S4 Put.head (by decide) #[some (.ref bt)] rfl ?_)
  intro s5 S5
  refine wpAny_bind (setslot S5 Put.head (by decide) #[some (.ref bt), none, some (.str "K" t)] rfl ?_)
  intro s6 S6
  refine wpAny_bind (setslot S6 Put.head (by decide) #[some (.ref bt), none, some (.str "K" t), some (.str q t3)] rfl ?_)
  intro s7 S7
  clear S6 S5 S4 S3 S2
  refine wpAny_bind (del_d S7 (.tail .head) ?_)
  intro s8 S8
  refine wpAny_bind (get_v S8 (.tail _ (.head _)) (r := none) rfl ?_)
  refine wpAny_bind ?_
  refine forc ?_
  refine wpAny_bind (get_v S8 (.tail _ (.head _)) (r := none) rfl (wpAny_pure ?_))
  refine forc ?_
  refine wpAny_bind (get_v S8 (.tail _ (.head _)) (r := none) rfl (wpAny_pure ?_))
  refine forn ?_
  refine wpAny_bind (get_v S8 (.tail _ (.head _)) (r := none) rfl ?_)
  refine wpAny_bind (get_v S8 (.tail _ (.head _)) (r := none) rfl ?_)
  refine wpAny_bind (wpAny_of_eq (a := none) (by first | rfl | kernel_rfl) ?_)
  refine wpAny_bind (wpAny_of_eq (a := [.type "object"]) (by first | rfl | kernel_rfl) ?_)
  refine wpAny_bind (wpAny_pure ?_)
  have hfi : List.filter (fun x => x != Value.ref C) [Value.ref C, Value.type "object"] = [Value.type "object"] := by simp
  refine wpAny_bind (wpAny_of_eq (a := false) (by show List.anyM _ (List.filter (fun x => x != Value.ref C) [Value.ref C, Value.type "object"]) = _; rw [hfi]; first | rfl | kernel_rfl) ?_)
  have hdel : es.toArray.any (fun x => x.key.isStr "__del__") = false := (hsp.has _).trans rfl
  refine wpAny_bind (updcls S8 Put.head rfl { name := "K", bases := [.type "object"], mro := [.ref C, .type "object"], ns := ns, qualname := q } (by show ClassData.mk _ _ _ _ _ _ _ _ _ _ ((es.toArray.any fun x => x.key.isStr "__del__") || false) = _; rw [hdel]; rfl) rfl ?_)
  intro s9 S9
  refine wpAny_bind (wpAny_of_eq (a := some "object.__new__") (by first | rfl | kernel_rfl) ?_)
  refine wpAny_bind (setslot S9 Put.head (by decide) #[some (.ref bt), none, some (.str "K" t), some (.str q t3), some (.builtin "object.__new__")] rfl ?_)
  intro s10 S10
  refine wpAny_bind (refresh_k S10 (.head _) rfl rfl rfl (.tail _ (.head _)) rfl rfl ?_)
  refine wpAny_bind (install_k S10 rfl (by show (11 : Nat) < 1000; decide) ?_)
  intro s11 md t5 S11
  refine wpAny_bind (wpAny_of_eq (a := false) (by first | rfl | kernel_rfl) ?_)
  refine wpAny_bind (setslot S11 Put.head (by decide) #[some (.ref bt), none, some (.str "K" t), some (.str q t3), some (.builtin "object.__new__"), some (.bool false)] rfl ?_)
  intro s12 S12
  clear S11 S10 S9 S8 S7
  refine ite_n (by decide) ?_
  refine ite_n (by decide) ?_
  refine wpAny_bind (get_v S12 (.tail _ (.head _)) (r := none) rfl ?_)
  refine ite_p (by decide) ?_
  refine wpAny_bind (set_d S12 (.tail .head) ?_)
  intro s13 S13
  refine wpAny_bind (get_v S13 (.tail _ (.head _)) (r := some (.ref f4)) rfl ?_)
  refine ite_p (by simp) ?_
  refine wpAny_bind (get_v S13 (.tail _ (.head _)) (r := some .none) rfl ?_)
  refine ite_n (by decide) ?_
  refine wpAny_bind (forc (wpAny_bind (wpAny_of_eq (a := ()) (by first | rfl | kernel_rfl) (wpAny_pure (forn ?_)))))
  have S14 : St σ h₀ ((C, .raw (kcls C ns bt q t t3)) :: (ns, dE (kvsC (.str "cpy313.functools" t2) (.int fl t4) sl f1 f2 f3 f4 f5 f6 sa md)) :: (md, .raw ⟨.type "member_descriptor", none, .fields #[.str "obj" t5, .ref C, .builtin "proto.slot", .builtin "proto.slot#set", rawInt 0], #[]⟩) :: (NS, dE (kvsB (.str "cpy313.functools" t2) (.str q t3) (.int fl t4) sl f1 f2 f3 f4 f5 f6 sa)) :: (bt, .tup [.type "object"]) :: (sl, .lst [.str "obj" t1]) :: N) s13 := S13
  clear S13 S12
  refine wpAny_bind (wpAny_tryCatch (wpAny_holding ?_))
  have hv : ∀ kv ∈ kvsC (.str "cpy313.functools" t2) (.int fl t4) sl f1 f2 f3 f4 f5 f6 sa md, PV s13 kv.2 := by
    intro kv hkv
    have fn : ∀ f ∈ [f1, f2, f3, f4, f5, f6], PV s13 (.ref f) := fun f hf => by
      obtain ⟨e, he, hc⟩ := hfn f hf
      obtain ⟨o, ho, hi⟩ := S14.at (.tail _ (.tail _ (.tail _ (.tail _ (.tail _ (.tail _ he))))))
      exact ⟨⟨"function", ⟨o, ho, hc o hi⟩, by rw [typeLookup_type, builtinLookup_eq_fast]; kernel_rfl⟩, fun _ => rfl⟩
    have ho : ∀ (a : Addr) (T : String) (o : Obj), s13.heap.get? a = some o → o.cls = .type T → typeLookup (.type T) "__set_name__" = pure none → PV s13 (.ref a) := fun a T o h1 h2 h3 => ⟨⟨T, ⟨o, h1, h2⟩, h3⟩, fun _ => rfl⟩
    simp only [kvsC, List.mem_cons, List.not_mem_nil, or_false] at hkv
    rcases hkv with rfl | rfl | rfl | rfl | rfl | rfl | rfl | rfl | rfl | rfl | rfl | rfl | rfl
    · exact ⟨⟨"str", rfl, by rw [typeLookup_type, builtinLookup_eq_fast]; kernel_rfl⟩, fun _ => rfl⟩
    · exact ⟨⟨"int", rfl, by rw [typeLookup_type, builtinLookup_eq_fast]; kernel_rfl⟩, fun _ => rfl⟩
    · obtain ⟨n, h1⟩ := S14.lst (a := sl) (by walk_at "mem")
      exact ho _ "list" _ h1 rfl (by rw [typeLookup_type, builtinLookup_eq_fast]; kernel_rfl)
    · exact fn _ (by simp)
    · exact fn _ (by simp)
    · exact fn _ (by simp)
    · exact fn _ (by simp)
    · exact fn _ (by simp)
    · exact fn _ (by simp)
    · exact ⟨⟨"NoneType", rfl, by rw [typeLookup_type, builtinLookup_eq_fast]; kernel_rfl⟩, fun _ => rfl⟩
    · obtain ⟨e, he, hc⟩ := hsa
      obtain ⟨o, h1, hi⟩ := S14.at (.tail _ (.tail _ (.tail _ (.tail _ (.tail _ (.tail _ he))))))
      exact ho _ "tuple" _ h1 (hc o hi) (by rw [typeLookup_type, builtinLookup_eq_fast]; kernel_rfl)
    · exact ho _ "member_descriptor" _ (S14.raw (a := md) (by walk_at "mem")) rfl (by rw [typeLookup_type, builtinLookup_eq_fast]; kernel_rfl)
    · exact ⟨⟨"NoneType", rfl, by rw [typeLookup_type, builtinLookup_eq_fast]; kernel_rfl⟩, fun _ => rfl⟩
  obtain ⟨o2, ho2, es2, ep2, rfl, hsp2⟩ := S14.at (.tail _ (.head _))
  refine wpAny_bind (wpAny_bind (wpAny_loadPart ho2 (wpAny_pure ?_)))
  refine wpAny_bind (MeetsSeq2.wpAny_forIn_array _ (fun l b s' => b = false ∧ s' = s13 ∧ ∀ e ∈ l, e ∈ es2) _ ?_ ?_ _ _ ⟨rfl, rfl, fun e h => by simpa using h⟩)
  · rintro x rest b s' ⟨rfl, rfl, hm⟩
    obtain ⟨n, t, hk⟩ := hsp2.keys x (by simpa using hm x (.head _))
    refine wpAny_bind (wpAny_of_eq (a := some n) (by rw [hk]; rfl) ?_)
    exact ite_n (by simp) (wpAny_pure ⟨rfl, rfl, fun e h => hm e (.tail _ h)⟩)
  rintro b s' ⟨rfl, rfl, -⟩
  refine ite_n (by decide) ?_
  refine wpAny_bind (wpAny_bind (wpAny_loadPart ho2 (wpAny_pure ?_)))
  refine wpAny_bind (MeetsSeq2.wpAny_forIn_array _ (fun l b s'' => s'' = s' ∧ ∀ e ∈ l, e ∈ es2) _ ?_ ?_ _ _ ⟨rfl, fun e h => by simpa using h⟩)
  · rintro x rest b s2 ⟨rfl, hm⟩
    obtain ⟨n, t, hk⟩ := hsp2.keys x (by simpa using hm x (.head _))
    obtain ⟨k, hkv⟩ := hsp2.val x (hm x (.head _))
    obtain ⟨⟨T, hT, hl⟩, hu⟩ := hv _ hkv
    refine ite_f (by rw [hk]; exact hu n) ?_
    refine wpAny_bind (wpAny_specialOf hT hl ?_)
    exact wpAny_pure ⟨rfl, fun e h => hm e (.tail _ h)⟩
  rintro b s2 ⟨rfl, -⟩
  refine wpAny_bind (Room.star (R.le (by decide)) (super_x (S14.raw (.head _)) ?_))
  intro hh sup D
  have S2 := S14.mem (tk := s2.toks) D
  refine wpAny_bind (wpAny_holding (super_attr S2 (.head _) (.tail _ (.head _)) hcs R ?_))
  intro s3 f S3
  refine wpAny_bind (isub S3 (.tail _ (.tail _ (.head _))) rfl rfl (.head _) (wpAny_pure ?_))
  exact wpAny_pure (h _ _ _ _ _ (S3.sub (.cons _ (.cons _ (.refl _)))))
end
section
variable {prog : Program} {w : World} {A : Around} {σ : Shared} {h₀ : Heap} {N : Led} {s : Shared} {env : Env} {E : Value → Shared → Prop} {mg mb : Str → Option Value} {n : Nat} {ad : Ads}
theorem kname_load {NS : Addr} {kvs : List (Str × Value)} {Q : Value → Shared → Prop} (S : St σ h₀ N s) (G : Gl mg mb h₀) (hnm : (mg "__name__").isSome = true) (hm : (NS, dE kvs) ∈ N) (hL : env.locals = NS) (hg : env.globals = mainGlobals)
    (hb : env.scope.kind = .class) (hk : env.kindOf "__name__" = none) (hno : kvs.lookup ("__name__" : Str) = none) (h : Q ((mg "__name__").getD .none) s) : wpAny (model prog w) A (loadName env "__name__") Q E s := by
  have hb' : env.blockKind = .class := by unfold Env.blockKind; rw [hb]; rfl
  unfold loadName
  rw [hb, hb', hk]
  dsimp only
  rw [if_neg (by rw [show ScopeKind.isAnnotationScope ScopeKind.class = false from rfl]; simp)]
  rw [if_neg (by decide)]
  unfold localGet
  rw [hL]
  obtain ⟨o, ho, es, ep, rfl, hsp⟩ := S.at hm
  refine wpAny_bind (wpAny_bind (wpAny_load ho ?_))
  refine wpAny_mono (get_d S hm (Q := fun v s' => v = none ∧ s' = s) ⟨hno, rfl⟩) ?_ fun _ _ e => e
  rintro v s' ⟨rfl, rfl⟩
  obtain ⟨v, hv⟩ := Option.isSome_iff_exists.mp hnm
  rw [hv] at h
  exact loadGlobal_global (by rw [hg]; exact G.g.keeps S.keep) hv h
/-- all that cmp_to_key(lam) leaves that counts -/
def kled (mg : Str → Option Value) (C ns md bt : Addr) (q : Str) (t t2 t3 t4 t5 : Tok) (sl f1 f2 f3 f4 f5 f6 c1 c2 c4 P1 P2 P4 sa mc lam : Addr) : Led :=
  [(C, .raw (kcls C ns bt q t t3)), (ns, dE (kvsC (.str "cpy313.functools" t2) (.int kst.2.2.2.2.line t4) sl f1 f2 f3 f4 f5 f6 sa md)), (md, .raw ⟨.type "member_descriptor", none, .fields #[.str "obj" t5, .ref C, .builtin "proto.slot", .builtin "proto.slot#set", rawInt 0], #[]⟩),
   (f4, kfE 5 [("mycmp", mc)] ((mg "__name__").getD .none) c4), (f2, kfE 3 [("mycmp", mc)] ((mg "__name__").getD .none) c2), (f1, kfE 2 [] ((mg "__name__").getD .none) c1), (c4, cdE c4 P4 (kq 5)), (c2, cdE c2 P2 (kq 3)), (c1, cdE c1 P1 (kq 2)), (mc, .cel (some (.ref lam)))]
theorem ck_spec {c P lam : Addr} {Q : Value → Shared → Prop} (S : St σ h₀ ((P, tbE 0) :: N) s) (W : Wd ad mg mb h₀) (B : Bm mg h₀) (hnm : (mg "__name__").isSome = true) (hsm : (h₀.get? sysModules).isSome = true) (hcs : Cs h₀) (F : FnC h₀ ad.ck 3 c P) (R : Room A 300)
    (h : ∀ s' C ns md bt q t t2 t3 t4 t5 sl f1 f2 f3 f4 f5 f6 c1 c2 c4 P1 P2 P4 sa mc, St σ h₀ (kled mg C ns md bt q t t2 t3 t4 t5 sl f1 f2 f3 f4 f5 f6 c1 c2 c4 P1 P2 P4 sa mc lam ++ (P, tbE kst.2.2.2.2.line) :: N) s' → Q (.ref C) s') :
    wpAny (model prog w) A (call (.ref ad.ck) [.ref lam]) Q E s := by
  refine call_at_c S W.G R F (fun _ _ _ => rfl) ?_ ?_ ?_
  · intro L x hx
    rcases List.mem_singleton.mp hx with rfl
    exact .inr ⟨rfl, rfl⟩
  · intro L p hp
    rcases List.mem_singleton.mp hp with rfl
    rfl
  intro L s1 A1 R1 S1
  have S2 : St σ h₀ ((L, .ns fun _ => none) :: (L + 1, .cel (some (.ref lam))) :: (P, tbE 0) :: N) s1 := S1
  clear S1
  refine wpAny_execs_cons ?_
  refine class_open S2 W.G rfl ?_
  refine args_cons (he := rfl) ?_
  refine name_b S2 W.G (W.nb _ (by decide)) (v := .type "object") (by first | boot_fast | kernel_rfl) ?_
  refine args_nil ?_
  unfold buildClass
  refine wpAny_bind (newtuple S2 (by simp [sizeLine]) ?_)
  intro s3 bt h3 S3
  refine wpAny_bind (wpAny_of_eq (a := ([Value.type "object"], false)) (by first | rfl | kernel_rfl) ?_)
  refine wpAny_bind (wpAny_of_eq (a := Value.type "type") (by first | rfl | kernel_rfl) ?_)
  refine wpAny_bind (wpAny_of_eq (a := true) (by first | rfl | kernel_rfl) ?_)
  dsimp only
  rw [if_pos rfl]
  refine wpAny_bind (wpAny_of_eq (a := Value.type "type") (by first | rfl | kernel_rfl) ?_)
  refine wpAny_bind (wpAny_mkText ?_)
  rw [if_neg Bool.false_ne_true]
  refine wpAny_bind (wpAny_pure (wpAny_holding ?_))
  refine wpAny_bind ?_
  refine prep S3.tok (R1.le (by decide)) ?_
  intro s4 pa S4
  dsimp only
  refine wpAny_bind (prep2 S4 (R1.le (by decide)) (.head _) ?_)
  intro s5 NS S5
  dsimp only
  have hNS : (NS == sysModules) = false := by
    refine beq_false_of_ne fun e => ?_
    have z := (S5.led _ (.head _)).2
    rw [e] at z
    rw [z] at hsm
    cases hsm
  unfold notTheModulesDict
  rw [hNS]
  refine wpAny_bind (wpAny_pure ?_)
  refine wpAny_bind (wpAny_specialOf (v := .ref NS) (T := "dict") (name := Str.ofString "__getitem__") (by obtain ⟨o, ho, es, ep, rfl, _⟩ := S5.at (.head _); exact ⟨_, ho, rfl⟩) PySem.F.slot_dict_getitem.lookup ?_)
  rw [if_neg (by decide)]
  refine wpAny_holding ?_
  rw [if_neg (by decide)]
  refine wpAny_bind (wpAny_pure ?_)
  rw [if_neg (by decide)]
  refine wpAny_bind (wpAny_pure ?_)
  obtain ⟨oF, pmF, docF, hF1, hF2, hF3, hF4⟩ := F
  refine wpAny_bind (ccode S5 rfl (hF4.keeps S5.keep) (by walk_at "put") (by decide) ?_)
  intro cc PK s7 S7
  refine wpAny_bind (bfor S7 W.G B rfl ?_)
  refine wpAny_bind ?_
  unfold newBodyFrame
  refine wpAny_bind (wpAny_nsGet (W.G.g.keeps S7.keep) (wpAny_alloc ?_))
  have S8 := S7.push (tk := s7.toks) (o := { cls := .type "frame", slots := #[some (.ref cc), some (.ref mainGlobals), some (.ref NS), none, some ((mg "__name__").getD .none), none, some (.ref builtinsNs)] }) (e := .sat fun _ => True) rfl trivial
  refine wpAny_bind (wpAny_of_eq (a := [(("mycmp" : Str), L + 1)]) rfl ?_)
  refine wpAny_holding ?_
  refine wpAny_bind (wpAny_enterFrame (W.G.lim.keeps S8.keep) R1.room ?_)
  refine wpAny_bind (wpAny_onRaise ?_)
  refine wpAny_bind ?_
  refine kname_load S8 W.G hnm (by walk_at "mem") rfl rfl rfl rfl rfl ?_
  refine wpAny_bind (set_k S8 (by walk_at "put") ?_ rfl rfl)
  intro s9 S9
  refine wpAny_bind (wpAny_mkText ?_)
  refine wpAny_bind (set_k S9.tok (by walk_at "put") ?_ rfl rfl)
  intro s10 S10
  refine wpAny_bind (wpAny_mkInt ?_)
  refine wpAny_bind (set_k S10.tok (by walk_at "put") ?_ rfl rfl)
  intro s11 S11
  refine wpAny_pure ?_
  have S12 : St σ h₀ ((NS, dE [("__module__", (mg "__name__").getD .none), ("__qualname__", .str (qualnameIn (fenvC 3 L ad.ck (Value.ref c)) "K" "K") s9.toks), ("__firstlineno__", .int kst.2.2.2.2.line s10.toks)]) :: (cc, cdE cc PK (qualnameIn (fenvC 3 L ad.ck (Value.ref c)) "K" "K")) :: (PK, tbE 0) :: (L + 1, .cel (some (.ref lam))) :: (bt, .tup [.type "object"]) :: (P, tbE kst.2.2.2.2.line) :: (L, .ns fun _ => none) :: N) s11 := S11.sel (by walk_at "sel")
  clear S11 S10 S9
  dsimp only
  refine wpAny_bind (wpAny_run (codeAny_body rfl rfl ?_))
  refine kbody_spec S12 W.G B ?_
  intro t1 t2 sl f1 c1 P1 f2 c2 P2 f3 c3 P3 f4 c4 P4 f5 c5 P5 f6 c6 P6 s13 S13
  dsimp only
  refine wpAny_bind (wpAny_onRaise ?_)
  refine wpAny_bind ?_
  rw [List.mapM_cons, List.mapM_nil]
  refine wpAny_bind (wpAny_mkText (wpAny_bind (wpAny_pure (wpAny_pure ?_))))
  refine wpAny_bind (wpAny_newTextTuple ?_)
  have S14 := (S13.tok (tk := s13.toks + 1)).push (tk := s13.toks + 1) (o := { cls := .type "tuple", data := .seq [Value.str "obj" s13.toks].toArray }) (e := .sat fun o => o.cls = .type "tuple") rfl rfl
  refine wpAny_bind (set_k S14 (by walk_at "put") ?_ rfl rfl)
  intro s15 S15
  refine wpAny_pure ?_
  rw [if_neg Bool.false_ne_true]
  refine wpAny_bind ?_
  refine type_call ?_
  have S16 : St σ h₀ ((NS, dE (kvsB (.str "cpy313.functools" t2) (.str (qualnameIn (fenvC 3 L ad.ck (Value.ref c)) "K" "K") s9.toks) (.int kst.2.2.2.2.line s10.toks) sl f1 f2 f3 f4 f5 f6 s13.heap.objs.size)) :: (bt, .tup [.type "object"]) :: (sl, .lst [.str "obj" t1]) ::
    (s13.heap.objs.size, .sat fun o => o.cls = .type "tuple") :: (f6, kfE 7 [("mycmp", L + 1)] ((mg "__name__").getD .none) c6) :: (f5, kfE 6 [("mycmp", L + 1)] ((mg "__name__").getD .none) c5) :: (f4, kfE 5 [("mycmp", L + 1)] ((mg "__name__").getD .none) c4) ::
    (f3, kfE 4 [("mycmp", L + 1)] ((mg "__name__").getD .none) c3) :: (f2, kfE 3 [("mycmp", L + 1)] ((mg "__name__").getD .none) c2) :: (f1, kfE 2 [] ((mg "__name__").getD .none) c1) ::
    (c4, cdE c4 P4 (kq 5)) :: (c2, cdE c2 P2 (kq 3)) :: (c1, cdE c1 P1 (kq 2)) :: (L + 1, .cel (some (.ref lam))) :: (P, tbE kst.2.2.2.2.line) :: (L, .ns fun _ => none) :: N) s15 := S15.sel (by walk_at "sel")
  clear S15 S14 S13 S12
  refine tnew_spec S16 hNS (R1.in1.in1.le (by decide)) hcs ?_ ?_ ?_
  · intro f hf
    simp only [List.mem_cons, List.not_mem_nil, or_false] at hf
    rcases hf with rfl | rfl | rfl | rfl | rfl | rfl
    all_goals (refine ⟨_, by walk_at "mem", ?_⟩; rintro o ⟨ctv, rfl⟩; rfl)
  · exact ⟨_, .head _, fun o h => h⟩
  intro s17 C ns md t5 S17
  refine ⟨C, _, rfl, S17.raw (.head _), rfl, wpAny_pure ?_⟩
  refine store_l S17 (by walk_at "put") ?_
  intro s18 S18
  refine wpAny_execs_cons (wpAny_Return_some ?_)
  refine name_l S18 (by walk_at "mem") rfl ?_
  exact h _ C ns md bt _ _ t2 _ _ t5 sl f1 f2 f3 f4 f5 f6 c1 c2 c4 P1 P2 P4 _ _ (S18.sel (by show Sel (_ :: _ :: _ :: _ :: _ :: _ :: _ :: _ :: _ :: _ :: _ :: N) _; walk_at "sel"))
end
section
variable {prog : Program} {w : World} {A : Around} {σ : Shared} {h₀ : Heap} {N : Led} {s : Shared} {env : Env} {E : Value → Shared → Prop} {mg mb : Str → Option Value} {n : Nat} {ad : Ads}
theorem nsIn_spelt {K : Frag} {ns : Addr} {es : List DictEntry} {ep : Nat} {kvs : List (Str × Value)} {name : Str} (e : K.lookup ns = some ⟨.type "dict", none, .dict es.toArray ep, #[]⟩) (h : Spelt es kvs) : nsIn K ns name = some (kvs.lookup name) := by
  unfold nsIn
  rw [e]
  dsimp only
  have hf := h.find name
  unfold nsFind findBy at hf
  rw [List.find?_toArray] at hf
  cases q : es.find? fun e => e.key.isStr name with
  | some x => rw [q] at hf; exact congrArg some hf
  | none =>
    rw [q] at hf
    have hany : es.any (·.refKey) = false := by
      rw [List.any_eq_false]; intro e he; obtain ⟨n, t, hk⟩ := h.keys e (by simpa using he); simp [DictEntry.refKey, hk]
    simp only [hany]
    exact congrArg some hf
theorem lk_eq {a : Addr} {o : Obj} {r : Frag} : List.lookup a ((a, o) :: r) = some o := by rw [List.lookup_cons, beq_self_eq_true]
theorem lk_ne {a b : Addr} {o : Obj} {r : Frag} (h : ¬ a = b) : List.lookup b ((a, o) :: r) = List.lookup b r := by rw [List.lookup_cons, beq_false_of_ne (fun e => h e.symm)]
/-- what the lookups in the class K answer -/
structure KK (h : Heap) (C md f1 f2 f4 : Addr) : Prop where
  ex : ∃ K : Frag, K.In h ∧ makesIn K C = true ∧ plainOver K C = true ∧ isClsIn K C = true ∧ plainGet K C "obj" = true ∧ findIn K (.ref C) "__setattr__" = some (some (.builtin "object.__setattr__")) ∧ takerIn K C "obj" = some (some (.ref md)) ∧
    findIn K (.ref C) "obj" = some (some (.ref md)) ∧ specialIn K (.ref md) "__get__" = some (some (.builtin "member_descriptor.__get__")) ∧ takesIn K (.ref md) = some true ∧ typeIn K (.ref md) = some (.type "member_descriptor") ∧ slotIn K md C = some 0 ∧
    findIn K (.ref C) "__init__" = some (some (.ref f1)) ∧ typeIn K (.ref f1) = some (.type "function") ∧ findIn K (.ref C) "__eq__" = some (some (.ref f4)) ∧ typeIn K (.ref f4) = some (.type "function") ∧
    findIn K (.ref C) "__lt__" = some (some (.ref f2)) ∧ typeIn K (.ref f2) = some (.type "function")
theorem kk_of {H : Heap} {C ns md bt : Addr} {q : Str} {t t2 t3 t4 t5 : Tok} {sl f1 f2 f3 f4 f5 f6 c1 c2 c4 P1 P2 P4 sa mc lam : Addr}
    (hA : ∀ p ∈ kled mg C ns md bt q t t2 t3 t4 t5 sl f1 f2 f3 f4 f5 f6 c1 c2 c4 P1 P2 P4 sa mc lam, At H p.1 p.2) (nd : [C, ns, md, f4, f2, f1].Nodup) : KK H C md f1 f2 f4 := by
  obtain ⟨oc', hC, rfl⟩ := hA _ (.head _)
  obtain ⟨oN, hN, es, ep, rfl, hsp⟩ := hA _ (.tail _ (.head _))
  obtain ⟨om', hM, rfl⟩ := hA _ (.tail _ (.tail _ (.head _)))
  obtain ⟨o4, h4, ct4, rfl⟩ := hA _ (.tail _ (.tail _ (.tail _ (.head _))))
  obtain ⟨o2, h2, ct2, rfl⟩ := hA _ (.tail _ (.tail _ (.tail _ (.tail _ (.head _)))))
  obtain ⟨o1, h1, ct1, rfl⟩ := hA _ (.tail _ (.tail _ (.tail _ (.tail _ (.tail _ (.head _))))))
  dsimp only at hC hN hM h4 h2 h1
  simp only [List.nodup_cons, List.mem_cons, List.not_mem_nil, or_false, not_or, not_false_eq_true, List.nodup_nil, and_true] at nd
  obtain ⟨⟨n1, n2, n3, n4, n5⟩, ⟨n6, n7, n8, n9⟩, ⟨n10, n11, n12⟩, ⟨n13, n14⟩, n15⟩ := nd
  generalize hoC : kcls C ns bt q t t3 = oC at hC
  generalize hoN : (⟨.type "dict", none, .dict es.toArray ep, #[]⟩ : Obj) = oN at hN
  generalize hoM : (⟨.type "member_descriptor", none, .fields #[.str "obj" t5, .ref C, .builtin "proto.slot", .builtin "proto.slot#set", rawInt 0], #[]⟩ : Obj) = oM at hM
  generalize ho4 : kdv_obj _ _ _ _ _ _ _ _ _ _ ct4 = o4 at h4
  generalize ho2 : kdv_obj _ _ _ _ _ _ _ _ _ _ ct2 = o2 at h2
  generalize ho1 : kdv_obj _ _ _ _ _ _ _ _ _ _ ct1 = o1 at h1
  obtain ⟨K, hK⟩ : ∃ K : Frag, K = [(C, oC), (ns, oN), (md, oM), (f4, o4), (f2, o2), (f1, o1)] := ⟨_, rfl⟩
  have e1 : K.lookup C = some oC := by rw [hK]; exact lk_eq
  have e2 : K.lookup ns = some oN := by rw [hK, lk_ne n1]; exact lk_eq
  have e3 : K.lookup md = some oM := by rw [hK, lk_ne n2, lk_ne n6]; exact lk_eq
  have e4 : K.lookup f4 = some o4 := by rw [hK, lk_ne n3, lk_ne n7, lk_ne n10]; exact lk_eq
  have e5 : K.lookup f2 = some o2 := by rw [hK, lk_ne n4, lk_ne n8, lk_ne n11, lk_ne n13]; exact lk_eq
  have e6 : K.lookup f1 = some o1 := by rw [hK, lk_ne n5, lk_ne n9, lk_ne n12, lk_ne n14, lk_ne n15]; exact lk_eq
  have X : K.In H := by
    intro a o e
    rw [hK] at e
    simp only [List.lookup_cons, List.lookup_nil] at e
    repeat' split at e
    all_goals (try (rename_i q; rw [beq_iff_eq] at q; subst q; cases e; assumption))
    cases e
  clear hK
  subst hoC hoN hoM ho4 ho2 ho1
  have hns : ∀ name, nsIn K ns name = some ((kvsC (.str "cpy313.functools" t2) (.int kst.2.2.2.2.line t4) sl f1 f2 f3 f4 f5 f6 sa md).lookup name) := fun name => nsIn_spelt e2 hsp
  have hfind : ∀ name v, (kvsC (.str "cpy313.functools" t2) (.int kst.2.2.2.2.line t4) sl f1 f2 f3 f4 f5 f6 sa md).lookup name = some v → findIn K (.ref C) name = some (some v) := fun name v e => by
    unfold findIn; dsimp only; rw [e1]; show alongIn K name [.ref C, .type "object"] = _; unfold alongIn ownIn; dsimp only; rw [e1]; show (match nsIn K ns name with | some (some v) => _ | some none => _ | none => _) = _; rw [hns, e]
  have hfind0 : ∀ name r, (kvsC (.str "cpy313.functools" t2) (.int kst.2.2.2.2.line t4) sl f1 f2 f3 f4 f5 f6 sa md).lookup name = none → alongIn K name [.type "object"] = r → findIn K (.ref C) name = r := fun name r e er => by
    unfold findIn; dsimp only; rw [e1]; show alongIn K name [.ref C, .type "object"] = _; unfold alongIn ownIn; dsimp only; rw [e1]; show (match nsIn K ns name with | some (some v) => _ | some none => _ | none => _) = _; rw [hns, e]; exact er
  have hcls : clsIn K C = some { name := "K", bases := [.type "object"], mro := [.ref C, .type "object"], ns := ns, qualname := q, hasDict := false, slotNames := ["obj"] } := by unfold clsIn; rw [e1]; rfl
  have hobj := hfind "obj" (.ref md) rfl
  have hmt : typeIn K (.ref md) = some (.type "member_descriptor") := by unfold typeIn; dsimp only; rw [e3]; rfl
  have hmr : recIn K md "member_descriptor" = some [.str "obj" t5, .ref C, .builtin "proto.slot", .builtin "proto.slot#set", rawInt 0] := by unfold recIn; rw [e3]; rfl
  have htk : takesIn K (.ref md) = some true := by unfold takesIn specialIn; rw [hmt]; kernel_rfl
  refine ⟨K, X, ?_, ?_, ?_, ?_, ?_, ?_, hobj, ?_, htk, hmt, ?_, hfind "__init__" (.ref f1) rfl, ?_, hfind "__eq__" (.ref f4) rfl, ?_, hfind "__lt__" (.ref f2) rfl, ?_⟩
  · unfold makesIn
    rw [e1]
    show (_ && _ && _ && _ && _ && _ && _ && _) = true
    have s1 : specialIn K (.ref C) "__call__" = some (some (.builtin "type.__call__")) := by
      unfold specialIn typeIn; dsimp only; rw [e1]; show findIn K (.type "type") "__call__" = _; kernel_rfl
    have s2 : instIn K (.ref C) (.type "type") = some true := by
      unfold instIn typeIn; dsimp only; rw [e1]; show subIn K (.type "type") (.type "type") = _; kernel_rfl
    rw [s1, s2]
    simp
  · unfold plainOver; rw [hcls]; rfl
  · unfold isClsIn; rw [hcls]; rfl
  · unfold plainGet
    rw [hfind0 "__getattribute__" (some (some (.builtin "object.__getattribute__"))) rfl (by kernel_rfl), hfind0 "__getattr__" (some none) rfl (by kernel_rfl)]
    decide
  · exact hfind0 "__setattr__" _ rfl (by kernel_rfl)
  · unfold takerIn
    rw [hobj]
    show Option.map _ (takesIn K (.ref md)) = _
    rw [htk]; rfl
  · unfold specialIn; rw [hmt]; kernel_rfl
  · unfold slotIn
    rw [hmr, hcls]
    show (if (true && true && true && _ && true) = true then _ else _) = _
    simp
  · unfold typeIn; dsimp only; rw [e6]; rfl
  · unfold typeIn; dsimp only; rw [e4]; rfl
  · unfold typeIn; dsimp only; rw [e5]; rfl
theorem St.kk {C ns md bt : Addr} {q : Str} {t t2 t3 t4 t5 : Tok} {sl f1 f2 f3 f4 f5 f6 c1 c2 c4 P1 P2 P4 sa mc lam : Addr}
    (S : St σ h₀ (kled mg C ns md bt q t t2 t3 t4 t5 sl f1 f2 f3 f4 f5 f6 c1 c2 c4 P1 P2 P4 sa mc lam ++ N) s) : KK s.heap C md f1 f2 f4 := by
  refine kk_of (fun p hp => (S.led p (List.mem_append.mpr (.inl hp))).1) ?_
  have nd := (S.sub (N' := [(C, _), (ns, _), (md, _), (f4, _), (f2, _), (f1, _)]) (List.Sublist.trans (List.sublist_append_left _ [_, _, _, _]) (List.sublist_append_left _ N))).nd
  exact nd
end
section
variable {prog : Program} {w : World} {A : Around} {σ : Shared} {h₀ : Heap} {N : Led} {s : Shared} {env : Env} {E : Value → Shared → Prop} {mg mb : Str → Option Value} {n : Nat} {ad : Ads}
abbrev kfd (j : Nat) (clos : List (Str × Addr)) (pm : Value) (c : Addr) (ctv : Value) : FuncData := kdv_fn (kfn j).1 (kq j) (kfn j).2.1 (.stmts (kfn j).2.2.1) (kfn j).2.2.2 clos .none .none pm (.ref c) ctv
/-- calling a function of the class body -/
theorem call_kf {j : Nat} {f c P : Addr} {clos : List (Str × Addr)} {pm : Value} {args : List Value} {binds : List (Str × Value)} {R : Result → Shared → Prop} (S : St σ h₀ N s) (G : Gl mg mb h₀) (Rm : Room A (n + 1)) (hf : (f, kfE j clos pm c) ∈ N) (hc : (c, cdE c P (kq j)) ∈ N)
    (hb : ∀ ctv, bindArgs (kfd j clos pm c ctv) ⟨args, []⟩ = pure binds) (hloc : ∀ x ∈ binds, (kfn j).2.2.2.names.lookup x.1 = some .local)
    (h : ∀ ctv L s' A', Room A' n → (∀ b o, s.heap.get? b = some o → s'.heap.get? b = some o) → St σ h₀ ((L, .ns fun x => binds.reverse.lookup x) :: N) s' → wpAny (model prog w) A' (execs (kfn j).2.2.1 (callEnv (kfd j clos pm c ctv) L f)) (fun fl s'' => R (.ok (.ret (match fl with | .ret v => v | _ => .none))) s'') NoE s')
    (hcell : ∀ x ∈ (kfn j).2.2.2.names, x.2 ≠ .cell := by decide) (hco : (kfn j).2.2.2.isCoroutine = false := by rfl) (hgen : (kfn j).2.2.2.isGenerator = false := by rfl) (hk : (kfn j).2.2.2.kind = .function := by rfl) :
    codeAny (model prog w) A (.call (.ref f) ⟨args, []⟩) R s := by
  obtain ⟨o, ho, ctv, rfl⟩ := S.at hf
  refine codeAny_call_def (fd := kfd j clos pm c ctv) Rm.room ho rfl (G.lim.keeps S.keep) (S.codeRec hc) rfl (.of_eq (hb ctv)) hcell hloc (fun h₁ hns hkeep => ?_) hco hgen hk
  refine wpAny_mono (h ctv _ _ _ Rm.deeper hkeep (S.new (a := s.heap.objs.size) hkeep (get?_size _) ?_)) (fun _ _ x => x) (fun _ _ x => x.elim)
  obtain ⟨o', es, ep, e1, e2, e3, e4⟩ := hns
  exact ⟨o', e1, es, ep, e2, e3, e4⟩
/-- an object of the class K: its obj is v -/
def kiE (C d : Addr) (v : Value) : Ent := .raw { cls := .ref C, dict := some d, data := .plain, slots := #[some v] }
theorem mset_k {C md f1 f2 f4 x d : Addr} {v : Value} {g : Ent → Led} {R : Result → Shared → Prop} (S : St σ h₀ N s) (KH : KK s.heap C md f1 f2 f4) (Pu : Put x (.raw { cls := .ref C, dict := some d, data := .plain }) N g)
    (hd : (d, .raw emptyDict) ∈ N) (h : ∀ s', St σ h₀ (g (kiE C d v)) s' → R (.ok (.ret .none)) s') :
    codeAny (model prog w) A (.call (.builtin "member_descriptor.__set__") ⟨[.ref md, .ref x, v], []⟩) R s := by
  obtain ⟨K, X, k1, k2, k3, k4, k5, k6, k7, k8, k9, k10, k11, k12, k13, k14, k15, k16, k17⟩ := KH
  obtain ⟨nm, tn, owner, behind, tb, dd, sl, cd, ho, hc, hm, hb, hi⟩ := slot_of X k11
  have I : InstAt s.heap x _ C (some emptyDict) := ⟨S.raw Pu.mem, rfl, rfl, S.raw hd⟩
  have L1 : Looks (model prog w) s.heap (isInstance (.ref x) owner) true := (I.type (M := model prog w)).andThen (looks_mroIn X hm)
  have L2 : Looks (model prog w) s.heap (Builtin.Slots.slotNamesOf (.ref C)) cd.slotNames := (looks_clsIn X hc).andThen .now
  have fs := fun i v e => looks_field (M := model prog w) ho i (v := v) e
  refine codeAny_call_builtin KF.slot_mset.plain KF.entry_mset (KF.slot_mset.check _ _ _ _ _ _ _ _ ⟨_, ho, rfl⟩ (KF.args_mset _ _ _) ?_)
  unfold Builtin.«member_descriptor.__set__» Builtin.Getset_descriptor.descrSet Builtin.Getset_descriptor.descrStoreThrough Builtin.Getset_descriptor.descrCheckInstance Builtin.Getset_descriptor.descrNameAndClass Builtin.Getset_descriptor.descrItself
  refine wpAny_bind (wpAny_bind (wpAny_bind ((fs 0 _ rfl).here (wpAny_bind ((fs 1 _ rfl).here (wpAny_pure ?_))))))
  refine wpAny_bind (L1.here (ite_f rfl (wpAny_pure ?_)))
  refine wpAny_bind (wpAny_bind (wpAny_fieldsOf ho rfl (wpAny_pure ?_)))
  refine wpAny_bind ((fs 3 _ rfl).here (wpAny_bind (wpAny_rule (wpAny_pure ⟨Code.quiet_builtin _ (by decide +kernel), codeAny_builtin KF.entry_slotset ?_⟩))))
  rw [Around.under_plainId (by decide +kernel) _]
  unfold Builtin.«proto.slot#set» Builtin.Slots.target
  refine wpAny_bind (wpAny_bind ((fs 4 _ rfl).here (wpAny_bind ((fs 0 _ rfl).here (wpAny_bind (I.type.here (wpAny_bind (L2.here ?_))))))))
  rw [if_neg hb]
  refine wpAny_pure (wpAny_bind ?_)
  rw [← hi]
  refine setslot S Pu (by decide) #[some v] rfl ?_
  intro s' S'
  exact wpAny_pure (h _ S')
theorem set_k2 {C md f1 f2 f4 x d : Addr} {v : Value} {g : Ent → Led} {Q : Unit → Shared → Prop} (S : St σ h₀ N s) (KH : KK s.heap C md f1 f2 f4) (Pu : Put x (.raw { cls := .ref C, dict := some d, data := .plain }) N g)
    (hd : (d, .raw emptyDict) ∈ N) (h : ∀ s', St σ h₀ (g (kiE C d v)) s' → Q () s') : wpAny (model prog w) A (setAttr (.ref x) "obj" v) Q E s := by
  have KH' := KH
  obtain ⟨K, X, k1, k2, k3, k4, k5, k6, k7, k8, k9, k10, k11, k12, k13, k14, k15, k16, k17⟩ := KH'
  have I : InstAt s.heap x _ C (some emptyDict) := ⟨S.raw Pu.mem, rfl, rfl, S.raw hd⟩
  refine set_plain X I k5 ?_
  refine osa_descr (s := { s with toks := s.toks + 1 }) KF.slot_mset X I k2 k6 k10 ?_
  refine mset_k (S.tok (tk := s.toks + 1)) KH Pu hd ?_
  intro s' S'
  exact h _ S'
theorem KK.keeps {h h' : Heap} {C md f1 f2 f4 : Addr} (KH : KK h C md f1 f2 f4) (k : ∀ b o, h.get? b = some o → h'.get? b = some o) : KK h' C md f1 f2 f4 := by
  obtain ⟨K, X, r⟩ := KH
  exact ⟨K, X.keeps k, r⟩
theorem Room.made {C : Addr} {rest : List Value} (R : Room A (n + 1)) : Room (A.under (.builtin "type.__call__" ⟨.ref C :: rest, []⟩)) n := by
  refine ⟨R.h, ?_, ?_⟩
  · have := R.d
    show A.depth + (Code.builtin "type.__call__" ⟨.ref C :: rest, []⟩).weight + n < _
    have : (Code.builtin "type.__call__" ⟨.ref C :: rest, []⟩).weight ≤ 1 := Nat.le_of_ble_eq_true rfl
    omega
  · have := R.u
    show A.units + (Code.builtin "type.__call__" ⟨.ref C :: rest, []⟩).cUnits + 4 * n + 40 < _
    have : (Code.builtin "type.__call__" ⟨.ref C :: rest, []⟩).cUnits ≤ 4 := Nat.le_of_ble_eq_true rfl
    omega
theorem make_k {C md f1 f2 f4 c1 P1 : Addr} {pm v : Value} {Q : Value → Shared → Prop} (S : St σ h₀ N s) (G : Gl mg mb h₀) (Rm : Room A 10) (KH : KK s.heap C md f1 f2 f4) (hf : (f1, kfE 2 [] pm c1) ∈ N) (hc : (c1, cdE c1 P1 (kq 2)) ∈ N)
    (h : ∀ s' x d, St σ h₀ ((x, kiE C d v) :: (d, .raw emptyDict) :: N) s' → Q (.ref x) s') : wpAny (model prog w) A (call (.ref C) [v]) Q E s := by
  have KH' := KH
  obtain ⟨K, X, k1, k2, k3, k4, k5, k6, k7, k8, k9, k10, k11, k12, k13, k14, k15, k16, k17⟩ := KH'
  obtain ⟨hp, ge, dr, tk, os⟩ := s
  have S1 : St σ h₀ ((hp.objs.size + 1, .raw (instObj C hp.objs.size)) :: (hp.objs.size, .raw emptyDict) :: N) ⟨(hp.push emptyDict).push (instObj C hp.objs.size), ge, dr, tk, os⟩ := by
    have S0 := S.push (tk := tk) (o := emptyDict) (e := .raw emptyDict) rfl rfl
    have := S0.push (tk := tk) (o := instObj C hp.objs.size) (e := .raw (instObj C hp.objs.size)) rfl rfl
    rw [Heap.size_push] at this
    exact this
  refine wpAny_call (make_core (init := .ref f1) (makes_of X k1) (looks_findIn X k12) (fun self => bind_fn X self k13) (.inl rfl) ?_)
  have KH1 := KH.keeps (h' := (hp.push emptyDict).push (instObj C hp.objs.size)) fun b o e => Heap.get?_push_of_some _ (Heap.get?_push_of_some _ e)
  refine call_kf S1 G (Rm.made (n := 9)) (.tail _ (.tail _ hf)) (.tail _ (.tail _ hc)) (binds := [("self", .ref (hp.objs.size + 1)), ("obj", v)]) (fun _ => rfl) ?_ ?_
  · intro x hx
    rcases List.mem_cons.mp hx with rfl | hx
    · rfl
    · rcases List.mem_singleton.mp hx with rfl; rfl
  intro ctv L s2 A2 R2 kp S2
  refine wpAny_execs_cons (plainObj_wpAny_Assign_Attribute ?_)
  refine name_l S2 (.head _) rfl ?_
  refine name_l S2 (.head _) rfl ?_
  refine set_k2 S2 (KH1.keeps kp) (.tail .head) (.tail _ (.tail _ (.head _))) ?_
  intro s3 S3
  refine wpAny_execs_nil ⟨rfl, ?_⟩
  exact h _ _ _ (S3.sub (.cons _ (.refl _)))
end
/-- the law's lambda: parameters, body, scope, place -/
def lamst : Arguments × Expr × Scope × Pos := match ((fdef 15).2.2.1[8]? : Option Stmt) with
  | some (Stmt.Assign _ (Expr.Call _ [Expr.Lambda a b s p] _ _) _) => (a, b, s, p)
  | _ => (⟨[], [], none, [], [], none, []⟩, .Name "" ⟨0, 0, 0, 0⟩, ⟨.function, [], false, false, []⟩, ⟨0, 0, 0, 0⟩)
section
variable {prog : Program} {w : World} {A : Around} {σ : Shared} {h₀ : Heap} {N : Led} {s : Shared} {env : Env} {E : Value → Shared → Prop} {mg mb : Str → Option Value} {n : Nat} {ad : Ads}
abbrev lamfd (qual : Str) (pm : Value) (c : Addr) (ctv : Value) : FuncData := kdv_fn "<lambda>" qual lamst.1 (.expr lamst.2.1) lamst.2.2.1 [] .none .none pm (.ref c) ctv
def lamE (qual : Str) (pm : Value) (c : Addr) : Ent := fnE "<lambda>" qual lamst.1 (.expr lamst.2.1) lamst.2.2.1 [] pm c
theorem call_lam {f c : Addr} {qual : Str} {pm l r : Value} {Q : Value → Shared → Prop} (S : St σ h₀ N s) (G : Gl mg mb h₀) (Rm : Room A (n + 1)) (hf : At s.heap f (lamE qual pm c)) (hc : s.heap.CodeRec (.ref c) qual)
    (h : ∀ ctv L s' A', Room A' n → (∀ b o, s.heap.get? b = some o → s'.heap.get? b = some o) → St σ h₀ ((L, .ns fun x => ([("left", l), ("right", r)] : List (Str × Value)).reverse.lookup x) :: N) s' → wpAny (model prog w) A' (eval lamst.2.1 (callEnv (lamfd qual pm c ctv) L f)) Q NoE s') :
    wpAny (model prog w) A (call (.ref f) [l, r]) Q E s := by
  obtain ⟨o, ho, ctv, rfl⟩ := hf
  refine wpAny_call (codeAny_of_tree ?_)
  show wpAny _ A.in1 (callAny (.ref f) _) _ _ s
  refine wpAny_bind (wpAny_load ho ?_)
  obtain ⟨c', oc, vs, tq, hce, hoc, hdc, hq⟩ := hc
  cases hce
  show wpAny _ A.in1 (callFunction f (lamfd qual pm c ctv) _) _ _ _
  simp only [callFunction]
  refine wpAny_bind (m := field (.ref c) 1) (wpAny_field hoc hdc hq (wpAny_bind (wpAny_pure ?_)))
  have hb : bindArgs (lamfd qual pm c ctv) ⟨[l, r], []⟩ = pure ([("left", l), ("right", r)] : List (Str × Value)) := rfl
  rw [hb]
  refine wpAny_bind (wpAny_pure (wpAny_bind (wpAny_newFunctionEnv (by decide) ?_ (fun h₁ hns hsb => ?_))))
  · intro x hx
    rcases List.mem_cons.mp hx with rfl | hx
    · rfl
    · rcases List.mem_singleton.mp hx with rfl; rfl
  have hkeep : ∀ b o, s.heap.get? b = some o → h₁.get? b = some o := fun b o e => hsb.extBut b o (Nat.ne_of_lt (Heap.lt_size e)) (Heap.get?_push_of_some _ e)
  refine wpAny_bind (wpAny_enterFrame ((G.lim.keeps S.keep).keeps hkeep) Rm.room ?_)
  refine wpAny_pure ⟨rfl, codeAny_of_tree ?_⟩
  show wpAny _ (A.deeper (callEnv (lamfd qual pm c ctv) s.heap.objs.size f)) (do point; ret (← (eval lamst.2.1 (callEnv (lamfd qual pm c ctv) s.heap.objs.size f)).onRaise (leaving (callEnv (lamfd qual pm c ctv) s.heap.objs.size f)))) _ _ _
  refine wpAny_bind (wpAny_point (wpAny_bind (wpAny_onRaise ?_)))
  refine wpAny_mono (h ctv _ _ _ Rm.deeper hkeep (S.new (a := s.heap.objs.size) hkeep (get?_size _) ?_)) (fun v s' q => wpAny_pure q) (fun _ _ x => x.elim)
  obtain ⟨o', es, ep, e1, e2, e3, e4⟩ := hns
  exact ⟨o', e1, es, ep, e2, e3, e4⟩
end
theorem At.keeps {h h' : Heap} {a : Addr} {e : Ent} (x : At h a e) (k : ∀ b o, h.get? b = some o → h'.get? b = some o) : At h' a e := by
  obtain ⟨o, ho, hi⟩ := x
  exact ⟨o, k _ _ ho, hi⟩
theorem Gl.keeps {mg mb : Str → Option Value} {h h' : Heap} (G : Gl mg mb h) (k : ∀ b o, h.get? b = some o → h'.get? b = some o) : Gl mg mb h' := ⟨G.g.keeps k, G.b.keeps k, G.bl, G.lim.keeps k⟩
section
variable {prog : Program} {w : World} {A : Around} {σ : Shared} {h₀ : Heap} {N : Led} {s : Shared} {env : Env} {E : Value → Shared → Prop} {mg mb : Str → Option Value} {n : Nat} {ad : Ads}
theorem len_b {l : Addr} {vs : List Value} {Q : Value → Shared → Prop} (S : St σ h₀ N s) (hm : At h₀ l (.lst vs)) (hfit : vs.length < 2 ^ 20) (h : ∀ s' t, St σ h₀ N s' → Q (.int vs.length t) s') :
    wpAny (model prog w) A (call (.builtin "len") [.ref l]) Q E s := by
  have := h { s with toks := s.toks + 1 + 1 } (s.toks + 1) S.tok
  obtain ⟨o, ho, n, rfl⟩ := hm.keeps S.keep
  exact len_list (PySem.IsL.isList (n := n) ho) (by simp; omega) (by simpa using this)
end
local macro_rules | `(tactic| walk_at "la") => `(tactic| first
  | ((with_reducible refine' len_b ?S ?hm ?hf ?_); (case S => walk_at "st"); (case hm | hf => assumption); intro s' t' S')
  | walk_at "m2")
section
variable {prog : Program} {w : World} {A : Around} {σ : Shared} {h₀ : Heap} {N : Led} {s : Shared} {env : Env} {E : Value → Shared → Prop} {mg mb : Str → Option Value} {n : Nat} {ad : Ads}
theorem lam_len {f c l r : Addr} {qual : Str} {pm : Value} {vs us : List Value} {Q : Value → Shared → Prop} (S : St σ h₀ N s) (G : Gl mg mb h₀) (hlen : mg "len" = none) (Rm : Room A (n + 1)) (hf : At h₀ f (lamE qual pm c)) (hc : h₀.CodeRec (.ref c) qual)
    (hl : At h₀ l (.lst vs)) (hr : At h₀ r (.lst us)) (zl : vs.length < 2 ^ 20) (zr : us.length < 2 ^ 20) (h : ∀ s' t, St σ h₀ N s' → Q (.int ((vs.length : Int) - us.length) t) s') : wpAny (model prog w) A (call (.ref f) [.ref l, .ref r]) Q E s := by
  refine call_lam S G Rm (hf.keeps S.keep) (hc.keeps S.keep) ?_
  intro ctv L s1 A1 R1 kp S1
  show wpAny _ _ (eval (.BinOp _ _ _ _) _) _ _ _
  repeat walk_at "la"
  rename_i S'
  exact h _ _ (S'.sub (.cons _ (.refl _)))
theorem call_kfb {j : Nat} {f c : Addr} {clos : List (Str × Addr)} {pm : Value} {args : List Value} {binds : List (Str × Value)} {Q : Value → Shared → Prop} (S : St σ h₀ N s) (G : Gl mg mb h₀) (Rm : Room A (n + 1)) (hf : At h₀ f (kfE j clos pm c)) (hc : h₀.CodeRec (.ref c) (kq j))
    (hb : ∀ ctv, bindArgs (kfd j clos pm c ctv) ⟨args, []⟩ = pure binds) (hloc : ∀ x ∈ binds, (kfn j).2.2.2.names.lookup x.1 = some .local)
    (h : ∀ ctv L s' A', Room A' n → St σ h₀ ((L, .ns fun x => binds.reverse.lookup x) :: N) s' → wpAny (model prog w) A' (execs (kfn j).2.2.1 (callEnv (kfd j clos pm c ctv) L f)) (fun fl s'' => Q (match fl with | .ret v => v | _ => .none) s'') NoE s')
    (hcell : ∀ x ∈ (kfn j).2.2.2.names, x.2 ≠ .cell := by decide) (hco : (kfn j).2.2.2.isCoroutine = false := by rfl) (hgen : (kfn j).2.2.2.isGenerator = false := by rfl) (hk : (kfn j).2.2.2.kind = .function := by rfl) :
    wpAny (model prog w) A (call (.ref f) args) Q E s := by
  obtain ⟨o, ho, ctv, rfl⟩ := hf.keeps S.keep
  refine wpAny_call (codeAny_call_def (fd := kfd j clos pm c ctv) Rm.room ho rfl (G.lim.keeps S.keep) (hc.keeps S.keep) rfl (.of_eq (hb ctv)) hcell hloc (fun h₁ hns hkeep => ?_) hco hgen hk)
  refine wpAny_mono (h ctv _ _ _ Rm.deeper (S.new (a := s.heap.objs.size) hkeep (get?_size _) ?_)) (fun _ _ x => x) (fun _ _ x => x.elim)
  obtain ⟨o', es, ep, e1, e2, e3, e4⟩ := hns
  exact ⟨o', e1, es, ep, e2, e3, e4⟩
theorem attr_kb {C md f1 f2 f4 x d r : Addr} {y : Str} {px pos : Pos} {Q : Value → Shared → Prop} (S : St σ h₀ N s) (KH : KK h₀ C md f1 f2 f4) (hx : At h₀ x (kiE C d (.ref r))) (hd : At h₀ d (.raw emptyDict))
    (hv : ∀ {Q' : Value → Shared → Prop}, Q' (.ref x) s → wpAny (model prog w) A (eval (.Name y px) env) Q' E s) (h : ∀ s', St σ h₀ N s' → Q (.ref r) s') : wpAny (model prog w) A (eval (.Attribute (.Name y px) "obj" pos) env) Q E s := by
  obtain ⟨K, X, k1, k2, k3, k4, k5, k6, k7, k8, k9, k10, k11, k12, k13, k14, k15, k16, k17⟩ := KH
  obtain ⟨ox, hox, rfl⟩ := hx.keeps S.keep
  obtain ⟨od, hod, rfl⟩ := hd.keeps S.keep
  have I : InstAt s.heap x _ C (some emptyDict) := ⟨hox, rfl, rfl, hod⟩
  rw [arm_eval_Attribute]
  refine wpAny_bind ?_
  refine hv ?_
  refine wpAny_bind (wpAny_standAt (wpAny_bind (wpAny_holding ?_)))
  refine get_bind (X.keeps S.keep) I (plainGet_of k4).1 (findObj_data k3 k7 k8 k9) (plainGet_of k4).2 (wpAny_call (slot_get (s := { s with toks := s.toks + 1 }) (X.keeps S.keep) I k11 rfl (handed_on rfl ?_)))
  exact wpAny_bind (wpAny_pure (wpAny_pure (h _ S.tok)))
/-- the class K and its lambda, in the base -/
structure KB (mg : Str → Option Value) (H : Heap) (C md f1 f2 f4 c2 c4 mc lam cl : Addr) (ql : Str) : Prop where
  kk : KK H C md f1 f2 f4
  f2 : At H f2 (kfE 3 [("mycmp", mc)] ((mg "__name__").getD .none) c2)
  c2 : H.CodeRec (.ref c2) (kq 3)
  f4 : At H f4 (kfE 5 [("mycmp", mc)] ((mg "__name__").getD .none) c4)
  c4 : H.CodeRec (.ref c4) (kq 5)
  mc : At H mc (.cel (some (.ref lam)))
  lam : At H lam (lamE ql ((mg "__name__").getD .none) cl)
  cl : H.CodeRec (.ref cl) ql
theorem kmy {C md f1 f2 f4 c2 c4 mc lam cl x d r x' d' r' L : Addr} {ql : Str} {vs us : List Value} {m : Str → Option Value} {p1 p2 p3 p4 p5 p6 : Pos} {Q : Value → Shared → Prop} (S : St σ h₀ ((L, .ns m) :: N) s) (G : Gl mg mb h₀) (hlen : mg "len" = none) (Rm : Room A (n + 1)) (B : KB mg h₀ C md f1 f2 f4 c2 c4 mc lam cl ql)
    (hx : At h₀ x (kiE C d (.ref r))) (hd : At h₀ d (.raw emptyDict)) (hr : At h₀ r (.lst vs)) (zr : vs.length < 2 ^ 20) (hx' : At h₀ x' (kiE C d' (.ref r'))) (hd' : At h₀ d' (.raw emptyDict)) (hr' : At h₀ r' (.lst us)) (zr' : us.length < 2 ^ 20)
    (m1 : m "self" = some (.ref x)) (m2 : m "other" = some (.ref x')) (e1 : env.scope.kind = .function) (e2 : env.kindOf "mycmp" = some .free) (e3 : env.cells.lookup ("mycmp" : Str) = some mc) (e4 : env.kindOf "self" = some .local) (e5 : env.kindOf "other" = some .local) (e6 : env.locals = L)
    (h : ∀ s' t, St σ h₀ ((L, .ns m) :: N) s' → Q (.int ((vs.length : Int) - us.length) t) s') :
    wpAny (model prog w) A (eval (.Call (.Name "mycmp" p1) [.Attribute (.Name "self" p2) "obj" p3, .Attribute (.Name "other" p4) "obj" p5] [] p6) env) Q NoE s := by
  refine Call_ ?_
  obtain ⟨oc, hoc, hcd⟩ := B.mc.keeps S.keep
  refine wpAny_Name (wpAny_loadName_free e1 e2 e3 ⟨oc, hoc, hcd⟩ ?_) (by decide)
  obtain ⟨ol, hol, ctl, rfl⟩ := B.lam
  refine callWith_def (fd := lamfd ql ((mg "__name__").getD .none) cl ctl) (o := ⟨.type "function", none, .func (lamfd ql ((mg "__name__").getD .none) cl ctl), #[]⟩) rfl ?_
  refine args_cons (he := rfl) ?_
  refine attr_kb S B.kk hx hd (fun q => name_l S (.head _) m1 q e1 e4 e6) ?_
  intro s1 S1
  refine args_cons (he := rfl) ?_
  refine attr_kb S1 B.kk hx' hd' (fun q => name_l S1 (.head _) m2 q e1 e5 e6) ?_
  intro s2 S2
  refine args_nil ?_
  refine ⟨S2.keep _ _ hol, ?_⟩
  exact lam_len S2 G hlen Rm ⟨_, hol, ctl, rfl⟩ B.cl hr hr' zr zr' h
theorem keq {C md f1 f2 f4 c2 c4 mc lam cl x d r x' d' r' : Addr} {ql : Str} {vs us : List Value} {Q : Value → Shared → Prop} (S : St σ h₀ N s) (G : Gl mg mb h₀) (hlen : mg "len" = none) (Rm : Room A (n + 2)) (B : KB mg h₀ C md f1 f2 f4 c2 c4 mc lam cl ql)
    (hx : At h₀ x (kiE C d (.ref r))) (hd : At h₀ d (.raw emptyDict)) (hr : At h₀ r (.lst vs)) (zr : vs.length < 2 ^ 20) (hx' : At h₀ x' (kiE C d' (.ref r'))) (hd' : At h₀ d' (.raw emptyDict)) (hr' : At h₀ r' (.lst us)) (zr' : us.length < 2 ^ 20)
    (h : ∀ s', St σ h₀ N s' → Q (.bool (((vs.length : Int) - us.length) == 0)) s') : wpAny (model prog w) A (call (.ref f4) [.ref x, .ref x']) Q E s := by
  refine call_kfb (n := n + 1) S G Rm B.f4 B.c4 (binds := [("self", .ref x), ("other", .ref x')]) (fun _ => rfl) ?_ ?_
  · intro x hx
    rcases List.mem_cons.mp hx with rfl | hx
    · rfl
    · rcases List.mem_singleton.mp hx with rfl; rfl
  intro ctv L s1 A1 R1 S1
  refine wpAny_execs_cons (wpAny_Return_some (wpAny_Compare1 ?_))
  refine kmy S1 G hlen R1 B hx hd hr zr hx' hd' hr' zr' rfl rfl rfl rfl rfl rfl rfl rfl ?_
  intro s2 t2 S2
  refine const_i S2 ?_
  intro s3 t3 S3
  refine P.eq_int ?_
  exact h _ (S3.sub (.cons _ (.refl _)))
theorem klt {C md f1 f2 f4 c2 c4 mc lam cl x d r x' d' r' : Addr} {ql : Str} {vs us : List Value} {Q : Value → Shared → Prop} (S : St σ h₀ N s) (G : Gl mg mb h₀) (hlen : mg "len" = none) (Rm : Room A (n + 2)) (B : KB mg h₀ C md f1 f2 f4 c2 c4 mc lam cl ql)
    (hx : At h₀ x (kiE C d (.ref r))) (hd : At h₀ d (.raw emptyDict)) (hr : At h₀ r (.lst vs)) (zr : vs.length < 2 ^ 20) (hx' : At h₀ x' (kiE C d' (.ref r'))) (hd' : At h₀ d' (.raw emptyDict)) (hr' : At h₀ r' (.lst us)) (zr' : us.length < 2 ^ 20)
    (h : ∀ s', St σ h₀ N s' → Q (.bool (decide (((vs.length : Int) - us.length) < 0))) s') : wpAny (model prog w) A (call (.ref f2) [.ref x, .ref x']) Q E s := by
  refine call_kfb (n := n + 1) S G Rm B.f2 B.c2 (binds := [("self", .ref x), ("other", .ref x')]) (fun _ => rfl) ?_ ?_
  · intro x hx
    rcases List.mem_cons.mp hx with rfl | hx
    · rfl
    · rcases List.mem_singleton.mp hx with rfl; rfl
  intro ctv L s1 A1 R1 S1
  refine wpAny_execs_cons (wpAny_Return_some (wpAny_Compare1 ?_))
  refine kmy S1 G hlen R1 B hx hd hr zr hx' hd' hr' zr' rfl rfl rfl rfl rfl rfl rfl rfl ?_
  intro s2 t2 S2
  refine const_i S2 ?_
  intro s3 t3 S3
  refine P.lt_int ?_
  exact h _ (S3.sub (.cons _ (.refl _)))
end
section
variable {prog : Program} {w : World} {A : Around} {σ : Shared} {h₀ : Heap} {N : Led} {s : Shared} {env : Env} {E : Value → Shared → Prop} {mg mb : Str → Option Value} {n : Nat} {ad : Ads}
theorem tup2 {p q : Addr} {a b : Value} {i j : Int} {ti tj : Tok} {b1 l1 : Bool} {m : Nat} {Q : Value → Shared → Prop} (S : St σ h₀ N s) (T1 : At h₀ p (.tup [a, .int i ti])) (T2 : At h₀ q (.tup [b, .int j tj])) (Rm : Room A (m + 2))
    (e1 : ∀ A' s' (Q' : Bool → Shared → Prop), Room A' m → St σ h₀ N s' → (∀ s'', St σ h₀ N s'' → Q' b1 s'') → wpAny (model prog w) A' (eqBool a b) Q' NoE s')
    (e2 : b1 = false → ∀ A' s' (Q' : Value → Shared → Prop), Room A' m → St σ h₀ N s' → (∀ s'', St σ h₀ N s'' → Q' (.bool l1) s'') → wpAny (model prog w) A' (richCompare .Lt a b) Q' NoE s')
    (h : ∀ s', St σ h₀ N s' → Q (.bool (if b1 then decide (i < j) else l1)) s') : wpAny (model prog w) A (compareOp .Lt (.ref p) (.ref q)) Q NoE s := by
  obtain ⟨o1, h1, n1, rfl⟩ := T1.keeps S.keep
  obtain ⟨o2, h2, n2, rfl⟩ := T2.keeps S.keep
  have ty1 : s.TypeIs (.ref p) "tuple" := ⟨_, h1, rfl⟩
  have ty2 : s.TypeIs (.ref q) "tuple" := ⟨_, h2, rfl⟩
  show wpAny _ _ (richCompare .Lt _ _) _ _ _
  refine wpAny_richCompare_same_room ty1 ty2 PySem.F.slot_tuple_lt ?_ (by have := Rm.u; omega)
  refine wpAny_call (codeAny_call_builtin PySem.F.slot_tuple_lt.plain PySem.F.entry_tuple_lt (PySem.F.slot_tuple_lt.check _ _ _ _ _ _ _ _ ty1 (PySem.F.args_tuple_lt_2 _ _) ?_))
  unfold Builtin.«tuple.__lt__»
  refine wpAny_bind (wpAny_of_eq (a := (.ref p, [.ref q])) rfl ?_)
  refine wpAny_bind (wpAny_isInstance ty2 (b := true) (by rw [isSubtype_type]; kernel_rfl) ?_)
  refine ite_n (by decide) ?_
  refine wpAny_bind (wpAny_tupleItemsOf h1 rfl ?_)
  refine wpAny_bind (wpAny_tupleItemsOf h2 rfl ?_)
  refine wpAny_bind (forc (wpAny_bind ?_))
  refine wpAny_mono (e1 _ _ (fun b s'' => b = b1 ∧ St σ h₀ N s'') (Rm.in1.le (by omega)) S fun s'' S'' => ⟨rfl, S''⟩) ?_ (fun _ _ x => x.elim)
  rintro b s1 ⟨rfl, S1⟩
  cases b with
  | false =>
    refine ite_p rfl (wpAny_bind (wpAny_rule (wpAny_bind ?_)))
    refine wpAny_mono (e2 rfl _ _ (fun v s'' => v = .bool l1 ∧ St σ h₀ N s'') (Rm.in1.le (by omega)) S1 fun s'' S'' => ⟨rfl, S''⟩) ?_ (fun _ _ x => x.elim)
    rintro v s2 ⟨rfl, S2⟩
    refine wpAny_bind (wpAny_pure (wpAny_pure (wpAny_pure ⟨by simp, h _ S2⟩)))
  | true =>
    refine ite_n (by decide) (wpAny_pure (forc (wpAny_bind ?_)))
    refine wpAny_eqBool_int ?_
    by_cases hij : i = j
    · subst hij
      refine ite_n (by simp) (wpAny_pure (forn (wpAny_pure ⟨?_, ?_⟩)))
      · intro q; cases q
      · have := h _ S1
        rw [if_pos rfl, show decide (i < i) = false from by simp] at this
        exact this
    · refine ite_p (by simp [hij]) (wpAny_bind (wpAny_rule (wpAny_bind ?_)))
      refine (show wpAny _ _ (compareOp .Lt _ _) _ _ _ from P.lt_int ?_)
      refine wpAny_bind (wpAny_pure (wpAny_pure (wpAny_pure ⟨by simp, h _ S1⟩)))
end
section
variable {prog : Program} {w : World} {A : Around} {σ : Shared} {h₀ : Heap} {N : Led} {s : Shared} {env : Env} {E : Value → Shared → Prop} {mg mb : Str → Option Value} {n : Nat} {ad : Ads}
/-- pairs in the order of tuples -/
def ltp (a b : Int × Int) : Bool := if a.1 = b.1 then decide (a.2 < b.2) else decide (a.1 < b.1)
theorem St.self (s : Shared) : St s s.heap [] s := ⟨fun _ _ e => e, fun p hp => (by cases hp), List.nodup_nil, rfl, rfl, rfl⟩
theorem St.toGrow {s s' : Shared} (S : St s s.heap [] s') : Grow s s' := ⟨S.keep, S.gens, S.drawn, S.os⟩
/-- v is a pair of numbers that stands in V -/
def PairAt (V : Led) (ky : Value → Int × Int) (v : Value) : Prop := ∃ p a i ta ti, v = .ref p ∧ (p, .tup [.int a ta, .int i ti]) ∈ V ∧ ky v = (a, i)
theorem cmp_pair {V : Led} {ky : Value → Int × Int} : Cmp prog w h₀ 4 V (PairAt V ky) (fun v u => ltp (ky v) (ky u)) := by
  rintro A v u s Q Rm ⟨p, a, i, ta, ti, rfl, hp, kv⟩ ⟨q, b, j, tb, tj, rfl, hq, ku⟩ - hV hQ
  refine tup2 (m := 2) (St.self s) (hV _ hp) (hV _ hq) Rm (b1 := (a == b)) (l1 := decide (a < b)) ?_ ?_ ?_
  · intro A' s' Q' _ S' h'
    exact wpAny_eqBool_int (h' _ S')
  · intro _ A' s' Q' _ S' h'
    exact (show wpAny _ _ (compareOp .Lt _ _) _ _ _ from P.lt_int (h' _ S'))
  · intro s' S'
    have := hQ _ S'.toGrow
    dsimp only at this
    rw [kv, ku] at this
    unfold ltp at this
    by_cases e : a = b
    · subst e; simpa using this
    · simpa [e] using this
/-- own specials of the class K's instances -/
def OwnK (H : Heap) (C f2 f4 : Addr) : Prop := ∀ x d v, At H x (kiE C d v) → H.OwnSpecial x C f4 "object" "__eq__" ∧ H.OwnSpecial x C f2 "object" "__lt__"
theorem own_keeps {h h' : Heap} {x C f : Addr} {B : String} {name : Str} (X : h.OwnSpecial x C f B name) (k : ∀ b o, h.get? b = some o → h'.get? b = some o) : h'.OwnSpecial x C f B name := by
  obtain ⟨o, of, nm, q, N, bs, bm, hdct, sn, sub, ab, col, dd, k0, k1, k2, k3, k5, newId, mN, y, hx, hc, hC, hn, hf, hg, r⟩ := X
  exact ⟨o, of, nm, q, N, bs, bm, hdct, sn, sub, ab, col, dd, k0, k1, k2, k3, k5, newId, mN, y, k _ _ hx, hc, k _ _ hC, hn.keeps k, hf, k _ _ hg, r⟩
def KeyAt (V : Led) (C : Addr) (ky : Value → Int × Int) (v : Value) : Prop := ∃ p x d r vs i ti, v = .ref p ∧ (p, .tup [.ref x, .int i ti]) ∈ V ∧ (x, kiE C d (.ref r)) ∈ V ∧ (d, .raw emptyDict) ∈ V ∧ (r, .lst vs) ∈ V ∧ vs.length < 2 ^ 20 ∧ ky v = ((vs.length : Int), i)
theorem cmp_key {V : Led} {ky : Value → Int × Int} {C md f1 f2 f4 c2 c4 mc lam cl : Addr} {ql : Str} (G : Gl mg mb h₀) (hlen : mg "len" = none)
    (hB : ∀ H, (∀ b o, h₀.get? b = some o → H.get? b = some o) → (∀ p ∈ V, At H p.1 p.2) → KB mg H C md f1 f2 f4 c2 c4 mc lam cl ql ∧ OwnK H C f2 f4) : Cmp prog w h₀ 8 V (KeyAt V C ky) (fun v u => ltp (ky v) (ky u)) := by
  rintro A v u s Q Rm ⟨p, x, d, r, vs, i, ti, rfl, hp, hx, hd, hr, zr, kv⟩ ⟨q, x', d', r', us, j, tj, rfl, hq, hx', hd', hr', zr', ku⟩ hk hV hQ
  obtain ⟨B, O⟩ := hB s.heap hk hV
  have G' := G.keeps hk
  have ax := hV _ hx
  have ax' := hV _ hx'
  have ar := hV _ hr
  have ar' := hV _ hr'
  refine tup2 (m := 6) (St.self s) (hV _ hp) (hV _ hq) Rm (b1 := ((vs.length : Int) - us.length == 0)) (l1 := decide ((vs.length : Int) - us.length < 0)) ?_ ?_ ?_
  · intro A' s' Q' R' S' h'
    unfold eqBool
    refine wpAny_holding ?_
    by_cases e : x = x'
    · subst e
      have er : r = r' := by
        obtain ⟨o, ho, rfl⟩ := ax
        obtain ⟨o', ho', e'⟩ := ax'
        rw [ho] at ho'
        have := Option.some.inj ho'
        subst this
        injection e' with _ _ _ e''
        simpa using e''
      subst er
      have ev : vs = us := by
        obtain ⟨o, ho, n, rfl⟩ := ar
        obtain ⟨o', ho', n', e'⟩ := ar'
        rw [ho] at ho'
        have := Option.some.inj ho'
        subst this
        injection e' with _ _ e'' _
        injection e'' with e'' _
        simpa using e''
      subst ev
      refine ite_p (by simp) (wpAny_bind (wpAny_rule (wpAny_pure ?_)))
      have := h' _ S'
      simpa using this
    · refine ite_n (by simp [e]) ?_
      refine wpAny_bind ?_
      obtain ⟨hp', ge, dr, tk, os⟩ := s'
      obtain ⟨oy, hy, ey⟩ := ax'.keeps S'.keep
      refine richCompare_own_same rfl (own_keeps (O _ _ _ ax).1 S'.keep) hy (by rw [ey]) (by have := R'.u; omega) ?_
      refine keq (n := 4) S' (G'.keeps fun _ _ e => e) hlen R' B ax (hV _ hd) ar zr ax' (hV _ hd') ar' zr' ?_
      intro s2 S2
      refine ⟨_, rfl, ?_⟩
      exact wpAny_truthy_bool (h' _ S2)
  · intro hne A' s' Q' R' S' h'
    obtain ⟨hp', ge, dr, tk, os⟩ := s'
    obtain ⟨oy, hy, ey⟩ := ax'.keeps S'.keep
    refine richCompare_own_same rfl (own_keeps (O _ _ _ ax).2 S'.keep) hy (by rw [ey]) (by have := R'.u; omega) ?_
    refine klt (n := 4) S' G' hlen R' B ax (hV _ hd) ar zr ax' (hV _ hd') ar' zr' ?_
    intro s2 S2
    exact ⟨_, rfl, h' _ S2⟩
  · intro s' S'
    have := hQ _ S'.toGrow
    dsimp only at this
    rw [kv, ku] at this
    unfold ltp at this
    by_cases e : vs.length = us.length
    · rw [e] at this ⊢; simpa using this
    · have e1 : ¬ ((vs.length : Int) = us.length) := by omega
      have e2 : ¬ ((vs.length : Int) - us.length = 0) := by omega
      have e3 : decide ((vs.length : Int) - us.length < 0) = decide ((vs.length : Int) < us.length) := by rw [decide_eq_decide]; omega
      rw [if_neg e1] at this
      rw [show (((vs.length : Int) - us.length) == 0) = false from by simpa using e2, if_neg (by decide), e3]
      exact this
end
section
variable {prog : Program} {w : World} {A : Around} {σ : Shared} {h₀ : Heap} {N : Led} {s : Shared} {env : Env} {E : Value → Shared → Prop} {mg mb : Str → Option Value} {n : Nat} {ad : Ads}
theorem St.putx (S : St σ h₀ N s) {a : Addr} {e e' : Ent} {g : Ent → Led} (P : Put a e N g) {h' : Heap} {tk : Nat} (hs : ∀ b o, b ≠ a → s.heap.get? b = some o → h'.get? b = some o) (ha : At h' a e') :
    St σ h₀ (g e') { s with heap := h', toks := tk } := by
  have hka : h₀.get? a = none := (S.led _ P.mem).2
  refine ⟨fun b o e => ?_, ?_, by rw [P.keys]; exact S.nd, S.gens, S.drawn, S.os⟩
  · have : b ≠ a := by rintro rfl; rw [hka] at e; cases e
    exact hs b o this (S.keep b o e)
  · obtain ⟨pre, post, rfl, rfl⟩ := P
    have nd := S.nd
    rw [List.map_append, List.map_cons] at nd
    have nd1 := (List.nodup_append.mp nd)
    intro p hp
    rcases List.mem_append.mp hp with hp | hp
    · have hne : p.1 ≠ a := fun z => nd1.2.2 p.1 (List.mem_map_of_mem hp) a (.head _) z
      obtain ⟨⟨o, ho, hi⟩, hz⟩ := S.led p (List.mem_append.mpr (.inl hp))
      exact ⟨⟨o, hs _ _ hne ho, hi⟩, hz⟩
    · rcases List.mem_cons.mp hp with rfl | hp
      · exact ⟨ha, hka⟩
      · have hne : p.1 ≠ a := fun z => by
          have q : p.1 ∈ post.map (·.1) := List.mem_map_of_mem hp
          rw [z] at q
          exact (List.nodup_cons.mp nd1.2.1).1 q
        obtain ⟨⟨o, ho, hi⟩, hz⟩ := S.led p (List.mem_append.mpr (.inr (.tail _ hp)))
        exact ⟨⟨o, hs _ _ hne ho, hi⟩, hz⟩
theorem pow_i {a k : Int} {t u : Tok} {Q : Value → Shared → Prop} (S : St σ h₀ N s) (hn : 0 ≤ k) (hsz : (Builtin.Int.intBits a : Int) * k ≤ 2 ^ 27) (h : ∀ s' t', St σ h₀ N s' → Q (.int (a ^ k.toNat) t') s') :
    wpAny (model prog w) A (binaryOp .Pow (.int a t) (.int k u)) Q E s := pow_int hn hsz (h _ _ S.tok)
theorem abs_i {a : Int} {t : Tok} {Q : Value → Shared → Prop} (S : St σ h₀ N s) (h : ∀ s' t', St σ h₀ N s' → Q (.int (a.natAbs : Int) t') s') : wpAny (model prog w) A (call (.builtin "abs") [.int a t]) Q E s := by
  refine call_abs_int fun u tk => ?_
  have e : (if a < 0 then -a else a) = (a.natAbs : Int) := by split <;> omega
  rw [e]
  exact h _ _ S.tok
/-- what sorting answers: the numbers in order -/
def Srt (ns' ns : List Int) : Prop := ns'.Perm ns ∧ ns'.Pairwise (· ≤ ·)
theorem sort_m {l : Addr} {pl : Sem Bool} {vs : List Value} {Q : Value × List Value → Shared → Prop} (S : St σ h₀ N s) (hm : (l, .lst vs) ∈ N) (h : Q (.builtin "list.sort", [.ref l]) s) :
    wpAny (model prog w) A (getMethod (.ref l) "sort" pl) Q E s := method_l S hm slot_list_sort (by kernel_rfl) h
theorem sort_l {l : Addr} {vs : List Value} {ns : List Int} {g : Ent → Led} {Q : Value → Shared → Prop} (S : St σ h₀ N s) (P : Put l (.lst vs) N g) (hi : Ints vs ns) (hz : vs.length < 64)
    (h : ∀ s' vs' ns', Ints vs' ns' → Srt ns' ns → St σ h₀ (g (.lst vs')) s' → Q .none s') : wpAny (model prog w) A (call (.builtin "list.sort") [.ref l]) Q E s := by
  obtain ⟨n, ho⟩ := S.lst P.mem
  have hT : s.TypeIs (.ref l) "list" := ⟨_, ho, rfl⟩
  refine wpAny_call (codeAny_call_builtin slot_list_sort.plain entry_list_sort (slot_list_sort.check _ _ _ _ _ _ _ _ hT (args_list_sort _) ?_))
  refine list_sort_tree ho hi.are hz ?_
  intro out ns' h1 h2 h3
  refine h _ out.toList ns' (.of h1) ⟨h2, h3⟩ (S.putx (tk := s.toks) P ?_ ?_)
  · intro b o hb hbo
    rw [sortedHeap_old hb (Heap.lt_size hbo)]
    exact hbo
  · obtain ⟨e, he⟩ := sortedHeap_at (out := out) ho
    exact ⟨_, he, e, by simp [W.listOf, seqObj]⟩
theorem slice8 {vs : List Value} {ns : List Int} (hi : Ints vs ns) : Ints (slicePick vs.toArray none (some 8) none).toList (ns.take 8) := by
  by_cases h : 8 ≤ ns.length
  · exact .of (slice_ints_upto hi.are (y := 8) (by decide) (by omega))
  · have hl := hi.length
    have e : slicePick vs.toArray none (some 8) none = slicePick vs.toArray none (some (ns.length : Int)) none := by
      unfold slicePick
      have : sliceBounds none (some 8) none vs.toArray.size = sliceBounds none (some (ns.length : Int)) none vs.toArray.size := by
        unfold sliceBounds
        simp
        omega
      rw [this]
    rw [e, List.take_of_length_le (by omega)]
    have := slice_ints_upto hi.are (y := (ns.length : Int)) (by omega) (by omega)
    rw [Int.toNat_natCast, List.take_length] at this
    exact .of this
end
/-- the law's frame -/
abbrev lenv (L a c : Addr) : Env := fenvC 15 L a (.ref c)
/-- a cell's number, its digit, its row -/
def numF (c : Int) : Int := ((c / 8).natAbs : Int) % 1000000
def bitF (p : Nat) (c : Int) : Bool := c / 2 ^ p % 2 == 1
def addF (p : Nat) (R : List Int) (c : Int) : List Int := if bitF p c && !(R.any (· == numF c)) then R ++ [numF c] else R
def cellsF (ns : List Int) : List Int := ns.take 8 ++ [7, 533, 1034, 801, 12]
/-- the law's statement i -/
def lstm (i : Nat) : Stmt := ((fdef 15).2.2.1[i]?).getD (.Pass ⟨0, 0, 0, 0⟩)
/-- one of three -/
def of3 {α : Type} (a b c : α) (p : Nat) : α := match p with | 0 => a | 1 => b | _ => c
inductive J1 (L rl r0 r1 r2 l3 : Addr) (m : Str → Option Value) (vs3 : List Value) (N : Led) (ns : List Int) : Led → Prop
  | mk (m' : Str → Option Value) (y2 y3 : Option Value) (v0 v1 v2 : List Value) (hm : ∀ y : Str, y ≠ "cell" → m' y = m y) (j0 : Ints v0 (ns.foldl (addF 0) [])) (j1 : Ints v1 (ns.foldl (addF 1) [])) (j2 : Ints v2 (ns.foldl (addF 2) [])) :
    J1 L rl r0 r1 r2 l3 m vs3 N ns ((L, .ns m') :: (L + 1, .cel (some (.ref rl))) :: (L + 2, .cel y2) :: (L + 3, .cel y3) :: (rl, .lst [.ref r0, .ref r1, .ref r2]) :: (r0, .lst v0) :: (r1, .lst v1) :: (r2, .lst v2) :: (l3, .lst vs3) :: N)
def upF (b : Bool) (p : Nat) (U : List Int) (k : Int) : List Int := if b then addF p U k else U
inductive J2 (L rl r0 r1 r2 : Addr) (e1 e2 : Addr × Ent) (m : Str → Option Value) (N : Led) (ns : List Int) (k : Int) (tn : Tok) (p : Nat) : Led → Prop
  | mk (y3 : Option Value) (v0 v1 v2 : List Value) (j0 : Ints v0 (upF (0 < p) 0 (ns.foldl (addF 0) []) k)) (j1 : Ints v1 (upF (1 < p) 1 (ns.foldl (addF 1) []) k)) (j2 : Ints v2 (upF (2 < p) 2 (ns.foldl (addF 2) []) k)) :
    J2 L rl r0 r1 r2 e1 e2 m N ns k tn p (e1 :: (L, .ns m) :: (L + 1, .cel (some (.ref rl))) :: (L + 2, .cel (some (.int (numF k) tn))) :: (L + 3, .cel y3) :: (rl, .lst [.ref r0, .ref r1, .ref r2]) :: (r0, .lst v0) :: (r1, .lst v1) :: (r2, .lst v2) :: e2 :: N)
section
variable {prog : Program} {w : World} {A : Around} {σ : Shared} {h₀ : Heap} {N : Led} {s : Shared} {env : Env} {E : Value → Shared → Prop} {mg mb : Str → Option Value} {n : Nat} {ad : Ads}
theorem slice8_e {value : Expr} {pe ps : Pos} {k : Nat} {l : Addr} {vs : List Value} {ns : List Int} {Q : Value → Shared → Prop} (S : St σ h₀ N s) (hm : h₀.IsList l vs.toArray) (hi : Ints vs ns) (hz : vs.length < 64)
    (h : ∀ s' l' vs', Ints vs' (ns.take 8) → St σ h₀ ((l', .lst vs') :: N) s' → Q (.ref l') s') (ht : ∀ r, letTemporaryGo value (.ref l) r = pure ()) :
    wpAny (model prog w) A (eval (.Slice none (some (.Constant (.int 8) k pe)) none ps) env) (fun i s₂ => wpAny (model prog w) A (subscriptTail value (.Slice none (some (.Constant (.int 8) k pe)) none ps) (.ref l) i) Q E s₂) E s := by
  rw [arm_eval_Slice]
  refine wpAny_bind (wpAny_pure (wpAny_bind (wpAny_holding (const_i (k := k) (pos := pe) S ?_))))
  intro s1 t1 S1
  refine wpAny_bind (wpAny_holding (wpAny_pure (wpAny_newObj_type (T := "slice") ?_)))
  have S2 : St σ h₀ N { s1 with heap := s1.heap.push { cls := .type "slice", data := .fields #[.none, .int 8 t1, .none] }, toks := s1.toks } := S1.ext fun _ _ e => Heap.get?_push_of_some _ e
  have hl := hm.at fun o e => S2.keep _ _ e
  refine subscriptTail_ops (T := "list") (hl.typeIs) slot_list_getitem.lookup (wpAny_getItem_list_slice hl (Heap.IsSliceOf.new ..) .none (.int 8 t1) .none (by simp) ?_ (by simp [sizeLine]; omega)) (ops := [.ref s1.heap.objs.size, .ref l]) (by with_unfolding_all rfl) ht
  exact h _ _ _ (slice8 hi) (S2.push (tk := s1.toks) rfl ⟨0, by simp [W.listOf]⟩)
end
local macro_rules | `(tactic| walk_at "n1") => `(tactic| first
  | walk_at "m8"
  | ((with_reducible refine' pow_i ?S ?hn ?hz ?_); (case S => walk_at "st"); (case hn => decide); (case hz => decide); intro s' t' S')
  | ((with_reducible refine' abs_i ?S ?_); (case S => walk_at "st"); intro s' t' S')
  | ((with_reducible refine' sort_m ?S ?hm ?_); (case S => walk_at "st"); (case hm => walk_at "mem")))
local macro_rules | `(tactic| walk_at "na") => `(tactic| first | walk_at "n1" | with_reducible refine wpAny_execs_cons ?_)
section
variable {prog : Program} {w : World} {A : Around} {σ : Shared} {h₀ : Heap} {N : Led} {s : Shared} {env : Env} {E : Value → Shared → Prop} {mg mb : Str → Option Value} {n : Nat} {ad : Ads}
theorem law0 {L a c : Addr} {x1 : Option Value} {Q : Flow → Shared → Prop} (S : St σ h₀ ((L + 1, .cel x1) :: N) s)
    (h : ∀ s' rl r0 r1 r2, St σ h₀ ((rl, .lst [.ref r0, .ref r1, .ref r2]) :: (r0, .lst []) :: (r1, .lst []) :: (r2, .lst []) :: (L + 1, .cel (some (.ref rl))) :: N) s' → Q .next s') :
    wpAny (model prog w) A (exec (lstm 0) (lenv L a c)) Q NoE s := by
  show wpAny _ _ (exec (.Assign [.Name _ _] _ _) _) _ _ _
  repeat walk_at "na"
  rename_i S'
  exact h _ _ _ _ _ (S'.sel (by walk_at "sel"))
theorem foldl_addF_length (p : Nat) : ∀ (l R : List Int), (l.foldl (addF p) R).length ≤ R.length + l.length
  | [], R => by simp
  | x :: l, R => by
    rw [List.foldl_cons]
    refine Nat.le_trans (foldl_addF_length p l (addF p R x)) ?_
    have : (addF p R x).length ≤ R.length + 1 := by unfold addF; split <;> simp
    simp; omega
theorem pow2_i {i : Nat} {t u : Tok} {Q : Value → Shared → Prop} (S : St σ h₀ N s) (hi : i < 3) (h : ∀ s' t', St σ h₀ N s' → Q (.int (2 ^ i) t') s') : wpAny (model prog w) A (binaryOp .Pow (.int 2 t) (.int (i : Int) u)) Q E s := by
  refine pow_i S (by omega) ?_ fun s' t' S' => ?_
  · have : Builtin.Int.intBits 2 = 2 := by decide +kernel
    rw [this]
    omega
  · rw [show ((i : Int)).toNat = i from by omega]
    exact h _ _ S'
theorem fdivp_i {i : Nat} {k : Int} {t u : Tok} {Q : Value → Shared → Prop} (S : St σ h₀ N s) (hi : i < 3) (h : ∀ s' t', St σ h₀ N s' → Q (.int (k / 2 ^ i) t') s') : wpAny (model prog w) A (binaryOp .FloorDiv (.int k t) (.int (2 ^ i) u)) Q E s := by
  have hp3 : i = 0 ∨ i = 1 ∨ i = 2 := by omega
  rcases hp3 with rfl | rfl | rfl <;> exact fdiv_i S (by decide) (PyProof.noPylong_of_log2 (by decide +kernel)) h
theorem getD3 {a b c : Addr} : ∀ {i : Nat}, i < 3 → [Value.ref a, .ref b, .ref c].getD i .none = .ref (of3 a b c i)
  | 0, _ => rfl
  | 1, _ => rfl
  | 2, _ => rfl
/-- the body of law's first loop's own loop -/
def ibody : List Stmt := match lstm 1 with
  | .For _ _ (_ :: .For _ _ b _ _ :: _) _ _ => b
  | _ => []
theorem law1_turn {L a c rl r0 r1 r2 : Addr} {e1 e2 : Addr × Ent} {m : Str → Option Value} {k : Int} {t tn tp : Tok} {p : Nat} {B : Led} {g : Ent → Led} {u : List Value} {U : List Int} {Q : Flow → Shared → Prop}
    (S : St σ h₀ (e1 :: e2 :: (L, .ns m) :: (L + 1, .cel (some (.ref rl))) :: (L + 2, .cel (some (.int (numF k) tn))) :: (L + 3, .cel (some (.int (p : Int) tp))) :: (rl, .lst [.ref r0, .ref r1, .ref r2]) :: B) s) (hp : p < 3) (PP : Put (of3 r0 r1 r2 p) (.lst u) B g)
    (q : Ints u U) (zp : u.length < 1000) (hc2 : m "cell" = some (.int k t))
    (h : ∀ s' u', Ints u' (addF p U k) → St σ h₀ (e1 :: e2 :: (L, .ns m) :: (L + 1, .cel (some (.ref rl))) :: (L + 2, .cel (some (.int (numF k) tn))) :: (L + 3, .cel (some (.int (p : Int) tp))) :: (rl, .lst [.ref r0, .ref r1, .ref r2]) :: g (.lst u')) s' → Q .next s') :
    wpAny (model prog w) A (execs ibody (lenv L a c)) Q NoE s := by
  show wpAny _ _ (execs [_] _) _ _ _
  repeat walk_at "na"
  refine pow2_i (by walk_at "st") hp ?_
  intro sp tq Sp
  refine fdivp_i (by walk_at "st") hp ?_
  intro sq tr Sq
  repeat walk_at "na"
  refine P.eq_int (wpAny_truthy_bool ?_)
  show if (bitF p k) = true then _ else _
  cases hb : bitF p k with
  | false =>
    refine ite_ff ?_
    refine ite_ff ?_
    refine wpAny_execs_nil (wpAny_execs_nil ?_)
    rename_i S'
    exact h _ u (by simp only [addF, hb, Bool.false_and, Bool.false_eq_true, if_false]; exact q) (by rw [PP.self]; exact S')
  | true =>
    refine ite_tt ?_
    repeat walk_at "na"
    refine sub_n p (by walk_at "st") (by walk_at "mem") rfl (by exact hp) (by show (3 : Nat) < _; decide) ?_
    rw [getD3 hp]
    refine notin_l (by walk_at "st") (.tail _ (.tail _ (.tail _ (.tail _ (.tail _ (.tail _ (.tail _ PP.mem))))))) q ?_
    intro s8 S8
    refine wpAny_truthy_bool ?_
    cases ha : U.any (· == numF k) with
    | true =>
      refine ite_ff ?_
      refine ite_ff ?_
      refine wpAny_execs_nil (wpAny_execs_nil ?_)
      exact h _ u (by simp only [addF, hb, ha, Bool.true_and, Bool.not_true, Bool.false_eq_true, if_false]; exact q) (by rw [PP.self]; exact S8)
    | false =>
      refine ite_tt ?_
      repeat walk_at "na"
      refine sub_n p (by walk_at "st") (by walk_at "mem") rfl (by exact hp) (by show (3 : Nat) < _; decide) ?_
      rw [getD3 hp]
      refine method_l (by walk_at "st") (.tail _ (.tail _ (.tail _ (.tail _ (.tail _ (.tail _ (.tail _ PP.mem))))))) PySem.F.slot_list_append rfl ?_
      repeat walk_at "na"
      refine append_l (by walk_at "st") (.tail (.tail (.tail (.tail (.tail (.tail (.tail PP))))))) (by simp [sizeLine]; omega) ?_
      intro s9 S9
      repeat walk_at "na"
      exact h _ _ (by simp only [addF, hb, ha, Bool.true_and, Bool.not_false, if_true]; exact q.snoc) S9
set_option maxHeartbeats 2000000 in
theorem law1 {L a c scr rl r0 r1 r2 : Addr} {m : Str → Option Value} {vs : List Value} {ns : List Int} {x2 x3 : Option Value} {Q : Flow → Shared → Prop}
    (S : St σ h₀ ((L, .ns m) :: (L + 1, .cel (some (.ref rl))) :: (L + 2, .cel x2) :: (L + 3, .cel x3) :: (rl, .lst [.ref r0, .ref r1, .ref r2]) :: (r0, .lst []) :: (r1, .lst []) :: (r2, .lst []) :: N) s)
    (W : Wd ad mg mb h₀) (R : Room A 300) (hm : m "script" = some (.ref scr)) (hs : h₀.IsList scr vs.toArray) (hi : Ints vs ns) (hz : vs.length < 64)
    (h : ∀ s' m' y2 y3 v0 v1 v2, (∀ y : Str, y ≠ "cell" → m' y = m y) → Ints v0 ((cellsF ns).foldl (addF 0) []) → Ints v1 ((cellsF ns).foldl (addF 1) []) → Ints v2 ((cellsF ns).foldl (addF 2) []) →
      St σ h₀ ((L, .ns m') :: (L + 1, .cel (some (.ref rl))) :: (L + 2, .cel y2) :: (L + 3, .cel y3) :: (rl, .lst [.ref r0, .ref r1, .ref r2]) :: (r0, .lst v0) :: (r1, .lst v1) :: (r2, .lst v2) :: N) s' → Q .next s') :
    wpAny (model prog w) A (exec (lstm 1) (lenv L a c)) Q NoE s := by
  show wpAny _ _ (exec (.For _ _ _ _ _) _) _ _ _
  repeat walk_at "na"
  refine slice8_e (by walk_at "st") hs hi hz ?_ (fun _ => rfl)
  intro s1 l1 vs1 i1 S1
  have z1 : vs1.length ≤ 8 := by rw [i1.length, List.length_take]; omega
  repeat walk_at "na"
  refine iter_l (by walk_at "st") (.head _) ?_
  intro s2 I hI S2
  obtain ⟨l3, vs3, i3, S3⟩ : ∃ l3 vs3, Ints vs3 (cellsF ns) ∧ St σ h₀ ((I, liE l3 0) :: (L, .ns m) :: (L + 1, .cel (some (.ref rl))) :: (L + 2, .cel x2) :: (L + 3, .cel x3) :: (rl, .lst [.ref r0, .ref r1, .ref r2]) :: (r0, .lst []) :: (r1, .lst []) :: (r2, .lst []) :: (l3, .lst vs3) :: N) s2 :=
    ⟨_, _, i1.append (.cons (.cons (.cons (.cons (.cons .nil))))), S2.sel (by walk_at "sel")⟩
  clear S2 S1
  have hl3 := i3.length
  refine forloop (draw_list R.h I l3 vs3) (fun i N' => J1 L rl r0 r1 r2 l3 m vs3 N ((cellsF ns).take i) N') S3 ⟨m, x2, x3, [], [], [], fun _ _ => rfl, .nil, .nil, .nil⟩ (by rintro i N' ⟨⟩; walk_at "mem") ?_ ?_
  · intro i N' v s4 hi' hI9 hv S4
    refine hideQ fun QA hA => ?_
    obtain ⟨m', y2, y3, v0, v1, v2, hm', j0, j1, j2⟩ := hI9
    obtain ⟨k, t, hk, rfl⟩ := i3.look hv
    walk_at "na"
    refine hA _ _ ?_
    refine hideQ fun Q2 hQ2 => ?_
    clear hA
    repeat walk_at "na"
    refine iter_r (k := 3) (by walk_at "st") (.head _) (by decide) (by decide) (by decide) ?_
    intro s5 J hJ S5
    obtain ⟨tn, m2, hm2, hc2, S6⟩ : ∃ tn m2, (∀ y : Str, y ≠ "cell" → m2 y = m y) ∧ m2 "cell" = some (.int k t) ∧ St σ h₀ ((J, rgE 0 1 3 0) :: (I, liE l3 (i + 1)) :: (L, .ns m2) :: (L + 1, .cel (some (.ref rl))) :: (L + 2, .cel (some (.int (numF k) tn))) :: (L + 3, .cel y3) :: (rl, .lst [.ref r0, .ref r1, .ref r2]) :: (r0, .lst v0) :: (r1, .lst v1) :: (r2, .lst v2) :: (l3, .lst vs3) :: N) s5 :=
      ⟨_, fun y => if y = "cell" then some (.int k t) else m' y, fun y hy => by dsimp only; rw [if_neg hy]; exact hm' y hy, rfl, S5.sel (by walk_at "sel")⟩
    clear S5
    refine forloop (draw_range R.h J 0 1 3) (fun p N' => J2 L rl r0 r1 r2 (I, liE l3 (i + 1)) (l3, .lst vs3) m2 N ((cellsF ns).take i) k tn p N') S6 ⟨_, _, _, _, j0, j1, j2⟩ (fun _ _ _ => trivial) ?_ ?_
    · rintro p N' v s6 hp hI8 ⟨tp, rfl⟩ S7
      refine hideQ fun QB hB => ?_
      obtain ⟨z3, u0, u1, u2, q0, q1, q2⟩ := hI8
      have zl : ∀ r, (((cellsF ns).take i).foldl (addF r) []).length < 1000 := fun r => by
        have := foldl_addF_length r ((cellsF ns).take i) []
        have h13 : (cellsF ns).length ≤ 13 := by unfold cellsF; rw [List.length_append, List.length_take]; simp; omega
        rw [List.length_take] at this
        simp at this
        omega
      rw [show (0 : Int) + (p : Int) * 1 = (p : Int) from by omega]
      walk_at "na"
      rename_i s8 S8
      refine hB _ _ ?_
      refine hideQ fun QC hC => ?_
      clear hB
      have hp3 : p = 0 ∨ p = 1 ∨ p = 2 := by omega
      rcases hp3 with rfl | rfl | rfl
      · refine law1_turn S8 (by decide) .head q0 (by rw [q0.length]; exact zl 0) hc2 ?_
        intro s9 u' j' S9
        exact hC _ _ ⟨_, ⟨_, _, _, _, j', q1, q2⟩, S9⟩
      · refine law1_turn S8 (by decide) (.tail .head) q1 (by rw [q1.length]; exact zl 1) hc2 ?_
        intro s9 u' j' S9
        exact hC _ _ ⟨_, ⟨_, _, _, _, q0, j', q2⟩, S9⟩
      · refine law1_turn S8 (by decide) (.tail (.tail .head)) q2 (by rw [q2.length]; exact zl 2) hc2 ?_
        intro s9 u' j' S9
        exact hC _ _ ⟨_, ⟨_, _, _, _, q0, q1, j'⟩, S9⟩
    · rintro N' s7 ⟨z3, u0, u1, u2, q0, q1, q2⟩ S7
      have ef : ∀ p, ((cellsF ns).take (i + 1)).foldl (addF p) [] = addF p (((cellsF ns).take i).foldl (addF p) []) k := fun p => by
        rw [take_succ_get hk, List.foldl_append]; rfl
      dsimp only
      refine wpAny_execs_nil ?_
      exact hQ2 _ _ ⟨_, ⟨m2, _, _, u0, u1, u2, hm2, by rw [ef]; exact q0, by rw [ef]; exact q1, by rw [ef]; exact q2⟩, S7⟩
  · rintro N' s7 ⟨m', y2, y3, v0, v1, v2, hm', j0, j1, j2⟩ S7
    rw [hl3, List.take_length] at j0 j1 j2
    exact h _ _ _ _ _ _ _ hm' j0 j1 j2 (S7.sel (by walk_at "sel"))
end
/-- the octets of the gaps -/
def gapsN : Nat → List Nat → List Nat
  | _, [] => []
  | l, x :: r => octN (x - l) ++ gapsN x r
def rowTape (T : List Nat) : List Nat := octN T.length ++ gapsN 0 T
theorem gapsN_snoc (x : Nat) : ∀ (A : List Nat) (l : Nat), gapsN l (A ++ [x]) = gapsN l A ++ octN (x - A.getLastD l)
  | [], l => by simp [gapsN]
  | a :: A, l => by
    rw [List.cons_append, gapsN, gapsN, gapsN_snoc x A a, List.append_assoc]
    congr 2
    cases A with
    | nil => rfl
    | cons b B => rfl
theorem hiO_len : ∀ (n f j : Nat), j < 64 ^ n → (hiO f j).length ≤ n
  | 0, f, j, h => by
    have : j = 0 := by simpa using h
    subst this
    cases f <;> simp [hiO]
  | n + 1, 0, j, h => by simp [hiO]
  | n + 1, f + 1, j, h => by
    unfold hiO
    split
    · simp
    · have : j / 64 < 64 ^ n := by rw [Nat.pow_succ] at h; omega
      have := hiO_len n f (j / 64) this
      simp; omega
theorem octN_len {k : Nat} (h : k < 2 ^ 24) : (octN k).length ≤ 4 := by
  unfold octN
  have := hiO_len 3 k (k / 64) (by omega)
  simp; omega
/-- numbers without sign, below a million, each once -/
structure Row (R : List Int) : Prop where
  nn : ∀ x ∈ R, 0 ≤ x ∧ x < 1000000
  nd : R.Nodup
  len : R.length ≤ 13
theorem Row.srt {R S : List Int} (h : Row R) (p : Srt S R) : Row S := ⟨fun x hx => h.nn x (p.1.mem_iff.mp hx), p.1.nodup_iff.mpr h.nd, by rw [p.1.length_eq]; exact h.len⟩
theorem addF_row (p : Nat) (k : Nat) : ∀ (l R : List Int), (∀ x ∈ R, 0 ≤ x ∧ x < 1000000) → R.Nodup → (∀ x ∈ l.foldl (addF p) R, 0 ≤ x ∧ x < 1000000) ∧ (l.foldl (addF p) R).Nodup
  | [], R, h1, h2 => ⟨h1, h2⟩
  | c :: l, R, h1, h2 => by
    rw [List.foldl_cons]
    have : (∀ x ∈ addF p R c, 0 ≤ x ∧ x < 1000000) ∧ (addF p R c).Nodup := by
      unfold addF
      split
      · rename_i h
        simp only [Bool.and_eq_true, Bool.not_eq_true', List.any_eq_false] at h
        refine ⟨fun x hx => ?_, ?_⟩
        · rcases List.mem_append.mp hx with hx | hx
          · exact h1 x hx
          · rcases List.mem_singleton.mp hx with rfl
            unfold numF
            omega
        · rw [List.nodup_append]
          refine ⟨h2, by simp, ?_⟩
          intro a ha b hb e
          rcases List.mem_singleton.mp hb with rfl
          subst e
          have := h.2 _ ha
          simp at this
      · exact ⟨h1, h2⟩
    exact addF_row p k l _ this.1 this.2
theorem row_cells (p : Nat) (ns : List Int) : Row ((cellsF ns).foldl (addF p) []) := by
  obtain ⟨h1, h2⟩ := addF_row p 0 (cellsF ns) [] (by simp) (by simp)
  refine ⟨h1, h2, ?_⟩
  have := foldl_addF_length p (cellsF ns) []
  have h13 : (cellsF ns).length ≤ 13 := by unfold cellsF; rw [List.length_append, List.length_take]; simp; omega
  simp at this
  omega
def rowbody : List Stmt := match lstm 3 with
  | .For _ _ b _ _ => b
  | _ => []
section
variable {prog : Program} {w : World} {A : Around} {σ : Shared} {h₀ : Heap} {N : Led} {s : Shared} {env : Env} {E : Value → Shared → Prop} {mg mb : Str → Option Value} {n : Nat} {ad : Ads}
def natsZ (l : List Nat) : List Int := l.map fun c : Nat => (c : Int)
theorem Row.nats {S : List Int} (h : Row S) : S = natsZ (S.map Int.toNat) := by
  unfold natsZ
  rw [List.map_map]
  conv => lhs; rw [← List.map_id S]
  refine List.map_congr_left fun x hx => ?_
  have := (h.nn x hx).1
  show x = ((x.toNat : Nat) : Int)
  omega
theorem getLastD_le {x : Nat} : ∀ (l : List Nat) (d : Nat), (∀ y ∈ l, y ≤ x) → d ≤ x → l.getLastD d ≤ x
  | [], d, _, h => h
  | a :: l, d, h, _ => by
    rw [List.getLastD_cons]
    exact getLastD_le l a (fun y hy => h y (.tail _ hy)) (h a (.head _))
theorem last_le {S : List Int} {j : Nat} {k : Int} (h : S.Pairwise (· ≤ ·)) (hk : S[j]? = some k) : ((S.map Int.toNat).take j).getLastD 0 ≤ k.toNat := by
  refine getLastD_le _ _ (fun y hy => ?_) (Nat.zero_le _)
  rw [List.mem_take_iff_getElem] at hy
  obtain ⟨i, hi, rfl⟩ := hy
  rw [List.length_map] at hi
  obtain ⟨hj, rfl⟩ := List.getElem?_eq_some_iff.mp hk
  rw [List.getElem_map]
  have := List.pairwise_iff_getElem.mp h i j (by omega) hj (by omega)
  omega
inductive JR (L r : Addr) (m : Str → Option Value) (vt v1 : List Value) (tp T : List Nat) (g : Ent → Led) (j : Nat) : Led → Prop
  | mk (m' : Str → Option Value) (y2 : Option Value) (tl' : Addr) (vt' : List Value) (t' : Tok) (f1 : ∀ y : Str, y ≠ "tape" → y ≠ "last" → m' y = m y) (f2 : m' "tape" = some (.ref tl')) (f3 : m' "last" = some (.int (((T.take j).getLastD 0 : Nat) : Int) t'))
    (f4 : Ints vt' (natsZ (tp ++ octN T.length ++ gapsN 0 (T.take j)))) (f5 : vt'.length ≤ vt.length + 4 + 4 * j) : JR L r m vt v1 tp T g j ((L, .ns m') :: (L + 2, .cel y2) :: (tl', .lst vt') :: g (.lst v1))
set_option maxHeartbeats 2000000 in
theorem rowb {L a c r tl : Addr} {m : Str → Option Value} {v vt : List Value} {R : List Int} {tp : List Nat} {y2 : Option Value} {g : Ent → Led} {Q : Flow → Shared → Prop} (S : St σ h₀ ((L, .ns m) :: (L + 2, .cel y2) :: (tl, .lst vt) :: N) s) (W : Wd ad mg mb h₀) (Rm : Room A 200) (P : Put r (.lst v) N g)
    (hr : m "row" = some (.ref r)) (ht : m "tape" = some (.ref tl)) (i : Ints v R) (hR : Row R) (it : Ints vt (natsZ tp)) (zt : vt.length ≤ 300)
    (h : ∀ s' m' y2' tl' vt' v' S', Srt S' R → Ints v' S' → Ints vt' (natsZ (tp ++ rowTape (S'.map Int.toNat))) → vt'.length ≤ vt.length + 60 → (∀ y : Str, y ≠ "tape" → y ≠ "last" → m' y = m y) → m' "tape" = some (.ref tl') →
      St σ h₀ ((L, .ns m') :: (L + 2, .cel y2') :: (tl', .lst vt') :: g (.lst v')) s' → Q .next s') :
    wpAny (model prog w) A (execs rowbody (lenv L a c)) Q NoE s := by
  show wpAny _ _ (execs [_, _, _, _] _) _ _ _
  have hr0 : (r, .lst v) ∈ N := P.mem
  have zv : v.length < 64 := by rw [i.length]; have := hR.len; omega
  repeat walk_at "na"
  refine sort_l (by walk_at "st") (.tail (.tail (.tail P))) i zv ?_
  intro s1 v1 S1 i1 p1 St1
  have hS := hR.srt p1
  have z1 : v1.length ≤ 13 := by rw [i1.length]; exact hS.len
  have hr1 : (r, .lst v1) ∈ g (.lst v1) := (P.again _).mem
  repeat walk_at "na"
  refine ⟨St.keep (by walk_at "st"), ?_⟩
  refine octets_spec (n := 100) (by walk_at "st") W (Rm.le (by decide)) (by omega) ?_
  intro s2 a2 w2 j2 S2
  have zw : w2.length ≤ 4 := by rw [j2.length, octF_eq, List.length_map]; exact octN_len (by omega)
  repeat walk_at "na"
  refine iter_l (by walk_at "st") (by walk_at "mem") ?_
  intro s3 I hI S3
  obtain ⟨T, hT⟩ : ∃ T, T = S1.map Int.toNat := ⟨_, rfl⟩
  have hST : S1 = natsZ T := hT ▸ hS.nats
  have hTl : T.length = v1.length := by rw [hT, List.length_map, i1.length]
  obtain ⟨m3, t3, tl3, vt3, S4, e1, e2, e3, e4, e5, e6⟩ : ∃ m3 t3 tl3 vt3, St σ h₀ ((I, liE r 0) :: (L, .ns m3) :: (L + 2, .cel y2) :: (tl3, .lst vt3) :: g (.lst v1)) s3 ∧ m3 "row" = some (.ref r) ∧ m3 "tape" = some (.ref tl3) ∧ m3 "last" = some (.int ((0 : Nat) : Int) t3) ∧
      (∀ y : Str, y ≠ "tape" → y ≠ "last" → m3 y = m y) ∧ Ints vt3 (natsZ (tp ++ octN T.length)) ∧ vt3.length ≤ vt.length + 4 :=
    ⟨_, _, _, _, S3.sel (by walk_at "sel"), by exact hr, by exact rfl, by exact rfl, by intro y h1 h2; rw [if_neg h2, if_neg h1],
     by rw [show natsZ (tp ++ octN T.length) = natsZ tp ++ octF v1.length from by rw [octF_eq, hTl]; unfold natsZ; rw [List.map_append]]; exact it.append j2, by rw [List.length_append]; omega⟩
  clear S3 S2
  refine forloop (draw_list Rm.h I r v1) (fun j N' => JR L r m vt v1 tp T g j N') S4
      ⟨m3, y2, tl3, vt3, t3, e4, e2, e3, by simpa [gapsN] using e5, by omega⟩ (by rintro j N' ⟨⟩; exact .tail _ (.tail _ (.tail _ (P.again _).mem))) ?_ ?_
  · rintro j N' x s5 hj hJ hx S5
    refine hideQ fun QA hA => ?_
    obtain ⟨m', y2', tl', vt', t', f1, f2, f3, f4, f5⟩ := hJ
    obtain ⟨k, t, hk, rfl⟩ := i1.look hx
    have hTj : T[j]? = some k.toNat := by rw [hT, List.getElem?_map, hk]; rfl
    have hk0 := hS.nn k (List.mem_of_getElem? hk)
    have hle : (T.take j).getLastD 0 ≤ k.toNat := by
      rw [hT]; exact last_le p1.2 hk
    have f0 : m' "row" = some (.ref r) := by rw [f1 _ (by decide) (by decide)]; exact hr
    walk_at "na"
    refine hA _ _ ?_
    refine hideQ fun QB hB => ?_
    clear hA
    repeat walk_at "na"
    refine ⟨St.keep (by walk_at "st"), ?_⟩
    have ek : k - ((T.take j).getLastD 0 : Nat) = ((k.toNat - (T.take j).getLastD 0 : Nat) : Int) := by omega
    rw [ek]
    refine octets_spec (n := 100) (by walk_at "st") W (Rm.le (by decide)) (by omega) ?_
    intro s6 a6 w6 j6 S6
    have zw6 : w6.length ≤ 4 := by rw [j6.length, octF_eq, List.length_map]; exact octN_len (by omega)
    repeat walk_at "na"
    rename_i S8
    have eT : T.take (j + 1) = T.take j ++ [k.toNat] := take_succ_get hTj
    obtain ⟨m4, y4, t4, tl4, vt4, S9, g1, g2, g3, g4, g5⟩ : ∃ m4 y4 t4 tl4 vt4, St σ h₀ ((I, liE r (j + 1)) :: (L, .ns m4) :: (L + 2, .cel y4) :: (tl4, .lst vt4) :: g (.lst v1)) _ ∧ (∀ y : Str, y ≠ "tape" → y ≠ "last" → m4 y = m y) ∧ m4 "tape" = some (.ref tl4) ∧
        m4 "last" = some (.int (((T.take (j + 1)).getLastD 0 : Nat) : Int) t4) ∧ Ints vt4 (natsZ (tp ++ octN T.length ++ gapsN 0 (T.take (j + 1)))) ∧ vt4.length ≤ vt.length + 4 + 4 * (j + 1) :=
      ⟨_, _, _, _, _, S8.sel (by walk_at "sel"), by intro y h1 h2; rw [if_neg h2, if_neg h1]; exact f1 y h1 h2, by exact rfl,
       by rw [eT, show (T.take j ++ [k.toNat]).getLastD 0 = k.toNat from by simp, show ((k.toNat : Nat) : Int) = k from by omega]; exact rfl,
       by rw [eT, gapsN_snoc, ← List.append_assoc, show natsZ (tp ++ octN T.length ++ gapsN 0 (T.take j) ++ octN (k.toNat - (T.take j).getLastD 0)) = natsZ (tp ++ octN T.length ++ gapsN 0 (T.take j)) ++ octF (k.toNat - (T.take j).getLastD 0) from by rw [octF_eq]; unfold natsZ; rw [List.map_append]]; exact f4.append j6,
       by rw [List.length_append]; omega⟩
    exact hB _ _ ⟨_, ⟨m4, y4, tl4, vt4, t4, g1, g2, g3, g4, g5⟩, S9⟩
  · rintro N' s5 ⟨m', y2', tl', vt', t', f1, f2, f3, f4, f5⟩ S5
    rw [← hTl, List.take_length] at f4
    refine wpAny_execs_nil (h _ _ _ _ _ _ _ p1 i1 ?_ (by omega) f1 f2 S5)
    rw [← hT]
    unfold rowTape
    rw [← List.append_assoc]
    exact f4
end
inductive J3 (L rl r0 r1 r2 : Addr) (N : Led) (R0 R1 R2 : List Int) (j : Nat) : Led → Prop
  | mk (m' : Str → Option Value) (y2 : Option Value) (tl' : Addr) (vt' u0 u1 u2 : List Value) (S0 S1 S2 : List Int) (f1 : m' "tape" = some (.ref tl')) (k0 : Ints u0 S0) (k1 : Ints u1 S1) (k2 : Ints u2 S2)
    (c0 : if 0 < j then Srt S0 R0 else S0 = R0) (c1 : if 1 < j then Srt S1 R1 else S1 = R1) (c2 : if 2 < j then Srt S2 R2 else S2 = R2) (zt : vt'.length ≤ 60 * j)
    (it : Ints vt' (natsZ ((if 0 < j then rowTape (S0.map Int.toNat) else []) ++ (if 1 < j then rowTape (S1.map Int.toNat) else []) ++ (if 2 < j then rowTape (S2.map Int.toNat) else [])))) :
    J3 L rl r0 r1 r2 N R0 R1 R2 j ((L, .ns m') :: (L + 2, .cel y2) :: (tl', .lst vt') :: (L + 1, .cel (some (.ref rl))) :: (rl, .lst [.ref r0, .ref r1, .ref r2]) :: (r0, .lst u0) :: (r1, .lst u1) :: (r2, .lst u2) :: N)
section
variable {prog : Program} {w : World} {A : Around} {σ : Shared} {h₀ : Heap} {N : Led} {s : Shared} {env : Env} {E : Value → Shared → Prop} {mg mb : Str → Option Value} {n : Nat} {ad : Ads}
theorem law2 {L a c : Addr} {m : Str → Option Value} {Q : Flow → Shared → Prop} (S : St σ h₀ ((L, .ns m) :: N) s)
    (h : ∀ s' tl, St σ h₀ ((L, .ns fun y => if y = "tape" then some (.ref tl) else m y) :: (tl, .lst []) :: N) s' → Q .next s') : wpAny (model prog w) A (exec (lstm 2) (lenv L a c)) Q NoE s := by
  show wpAny _ _ (exec (.Assign [.Name _ _] _ _) _) _ _ _
  repeat walk_at "na"
  rename_i S'
  exact h _ _ (S'.sel (by walk_at "sel"))
/-- the tape of all three rows -/
def tapeF (S0 S1 S2 : List Int) : List Nat := rowTape (S0.map Int.toNat) ++ rowTape (S1.map Int.toNat) ++ rowTape (S2.map Int.toNat)
set_option maxHeartbeats 2000000 in
theorem law3 {L a c tl rl r0 r1 r2 : Addr} {m : Str → Option Value} {v0 v1 v2 : List Value} {R0 R1 R2 : List Int} {y2 : Option Value} {Q : Flow → Shared → Prop} (S : St σ h₀ ((L, .ns m) :: (L + 2, .cel y2) :: (tl, .lst []) :: (L + 1, .cel (some (.ref rl))) :: (rl, .lst [.ref r0, .ref r1, .ref r2]) :: (r0, .lst v0) :: (r1, .lst v1) :: (r2, .lst v2) :: N) s)
    (W : Wd ad mg mb h₀) (Rm : Room A 200) (ht : m "tape" = some (.ref tl)) (i0 : Ints v0 R0) (i1 : Ints v1 R1) (i2 : Ints v2 R2) (h0 : Row R0) (h1 : Row R1) (h2 : Row R2)
    (h : ∀ s' m' y2' tl' vt' u0 u1 u2 S0 S1 S2, Srt S0 R0 → Srt S1 R1 → Srt S2 R2 → Ints u0 S0 → Ints u1 S1 → Ints u2 S2 → Ints vt' (natsZ (tapeF S0 S1 S2)) → vt'.length ≤ 300 → m' "tape" = some (.ref tl') →
      St σ h₀ ((L, .ns m') :: (L + 2, .cel y2') :: (tl', .lst vt') :: (L + 1, .cel (some (.ref rl))) :: (rl, .lst [.ref r0, .ref r1, .ref r2]) :: (r0, .lst u0) :: (r1, .lst u1) :: (r2, .lst u2) :: N) s' → Q .next s') :
    wpAny (model prog w) A (exec (lstm 3) (lenv L a c)) Q NoE s := by
  show wpAny _ _ (exec (.For _ _ _ _ _) _) _ _ _
  repeat walk_at "na"
  refine iter_l (by walk_at "st") (by walk_at "mem") ?_
  intro s3 I hI S3
  refine forloop (draw_list Rm.h I rl [.ref r0, .ref r1, .ref r2]) (fun j N' => J3 L rl r0 r1 r2 N R0 R1 R2 j N') S3
      ⟨m, y2, tl, [], v0, v1, v2, R0, R1, R2, ht, i0, i1, i2, rfl, rfl, rfl, by simp, .nil⟩ (by rintro j N' ⟨⟩; walk_at "mem") ?_ ?_
  · rintro j N' x s5 hj hJ hx S5
    refine hideQ fun QA hA => ?_
    obtain ⟨m', y2', tl', vt', u0, u1, u2, S0, S1, S2, f1, k0, k1, k2, c0, c1, c2, zt, it⟩ := hJ
    have hp3 : j = 0 ∨ j = 1 ∨ j = 2 := by have : j < 3 := hj; omega
    rcases hp3 with rfl | rfl | rfl
    · cases hx
      rw [if_neg (by decide)] at c0
      rw [if_neg (by decide)] at c1
      rw [if_neg (by decide)] at c2
      subst c0 c1 c2
      rw [show (if 0 < 0 then rowTape (S0.map Int.toNat) else []) ++ (if 1 < 0 then rowTape (S1.map Int.toNat) else []) ++ (if 2 < 0 then rowTape (S2.map Int.toNat) else []) = [] from by simp] at it
      refine store_l S5 (.tail .head) ?_
      intro s6 S6
      refine hA _ _ ?_
      refine hideQ fun QB hB => ?_
      clear hA
      have S7 : St σ h₀ ((L, .ns fun y => if y = "row" then some (.ref r0) else m' y) :: (L + 2, .cel y2') :: (tl', .lst vt') :: (I, liE rl (0 + 1)) :: (L + 1, .cel (some (.ref rl))) :: (rl, .lst [.ref r0, .ref r1, .ref r2]) :: (r0, .lst u0) :: (r1, .lst u1) :: (r2, .lst u2) :: N) s6 := S6.sel (by walk_at "sel")
      refine rowb S7 W Rm (.tail (.tail (.tail .head))) rfl f1 k0 h0 it (by omega) ?_
      intro s8 m8 y8 tl8 vt8 v' S' p' i' it' zt' hm8 ht8 S8
      exact hB _ _ ⟨_, ⟨m8, y8, tl8, vt8, v', u1, u2, S', S1, S2, ht8, i', k1, k2, by rw [if_pos (by decide)]; exact p', by rw [if_neg (by decide)], by rw [if_neg (by decide)], by omega, by simpa using it'⟩, S8.sel (by walk_at "sel")⟩
    · cases hx
      rw [if_pos (by decide)] at c0
      rw [if_neg (by decide)] at c1
      rw [if_neg (by decide)] at c2
      subst c1 c2
      rw [show (if 0 < 1 then rowTape (S0.map Int.toNat) else []) ++ (if 1 < 1 then rowTape (S1.map Int.toNat) else []) ++ (if 2 < 1 then rowTape (S2.map Int.toNat) else []) = rowTape (S0.map Int.toNat) from by simp] at it
      refine store_l S5 (.tail .head) ?_
      intro s6 S6
      refine hA _ _ ?_
      refine hideQ fun QB hB => ?_
      clear hA
      have S7 : St σ h₀ ((L, .ns fun y => if y = "row" then some (.ref r1) else m' y) :: (L + 2, .cel y2') :: (tl', .lst vt') :: (I, liE rl (1 + 1)) :: (L + 1, .cel (some (.ref rl))) :: (rl, .lst [.ref r0, .ref r1, .ref r2]) :: (r0, .lst u0) :: (r1, .lst u1) :: (r2, .lst u2) :: N) s6 := S6.sel (by walk_at "sel")
      refine rowb S7 W Rm (.tail (.tail (.tail (.tail .head)))) rfl f1 k1 h1 it (by omega) ?_
      intro s8 m8 y8 tl8 vt8 v' S' p' i' it' zt' hm8 ht8 S8
      exact hB _ _ ⟨_, ⟨m8, y8, tl8, vt8, u0, v', u2, S0, S', S2, ht8, k0, i', k2, by rw [if_pos (by decide)]; exact c0, by rw [if_pos (by decide)]; exact p', by rw [if_neg (by decide)], by omega, by simpa using it'⟩, S8.sel (by walk_at "sel")⟩
    · cases hx
      rw [if_pos (by decide)] at c0
      rw [if_pos (by decide)] at c1
      rw [if_neg (by decide)] at c2
      subst c2
      rw [show (if 0 < 2 then rowTape (S0.map Int.toNat) else []) ++ (if 1 < 2 then rowTape (S1.map Int.toNat) else []) ++ (if 2 < 2 then rowTape (S2.map Int.toNat) else []) = rowTape (S0.map Int.toNat) ++ rowTape (S1.map Int.toNat) from by simp] at it
      refine store_l S5 (.tail .head) ?_
      intro s6 S6
      refine hA _ _ ?_
      refine hideQ fun QB hB => ?_
      clear hA
      have S7 : St σ h₀ ((L, .ns fun y => if y = "row" then some (.ref r2) else m' y) :: (L + 2, .cel y2') :: (tl', .lst vt') :: (I, liE rl (2 + 1)) :: (L + 1, .cel (some (.ref rl))) :: (rl, .lst [.ref r0, .ref r1, .ref r2]) :: (r0, .lst u0) :: (r1, .lst u1) :: (r2, .lst u2) :: N) s6 := S6.sel (by walk_at "sel")
      refine rowb S7 W Rm (.tail (.tail (.tail (.tail (.tail .head))))) rfl f1 k2 h2 it (by omega) ?_
      intro s8 m8 y8 tl8 vt8 v' S' p' i' it' zt' hm8 ht8 S8
      exact hB _ _ ⟨_, ⟨m8, y8, tl8, vt8, u0, u1, v', S0, S1, S', ht8, k0, k1, i', by rw [if_pos (by decide)]; exact c0, by rw [if_pos (by decide)]; exact c1, by rw [if_pos (by decide)]; exact p', by omega, by simpa using it'⟩, S8.sel (by walk_at "sel")⟩
  · rintro N' s5 ⟨m', y2', tl', vt', u0, u1, u2, S0, S1, S2, f1, k0, k1, k2, c0, c1, c2, zt, it⟩ S5
    have e3 : [Value.ref r0, Value.ref r1, Value.ref r2].length = 3 := rfl
    rw [e3] at c0 c1 c2 zt it
    rw [if_pos (by decide)] at c0 c1 c2
    rw [if_pos (by decide), if_pos (by decide), if_pos (by decide)] at it
    exact h _ _ _ _ _ _ _ _ _ _ _ c0 c1 c2 k0 k1 k2 it (by omega) f1 S5
end
theorem gapsN_lt : ∀ (l : Nat) (T : List Nat), ∀ c ∈ gapsN l T, c < 128
  | _, [], c, h => by cases h
  | l, x :: r, c, h => by
    rcases List.mem_append.mp h with h | h
    · exact octN_lt _ c h
    · exact gapsN_lt x r c h
theorem rowTape_lt (T : List Nat) : ∀ c ∈ rowTape T, c < 128 := fun c h => by
  rcases List.mem_append.mp h with h | h
  · exact octN_lt _ c h
  · exact gapsN_lt _ _ c h
theorem tapeF_lt (S0 S1 S2 : List Int) : ∀ c ∈ tapeF S0 S1 S2, c < 128 := fun c h => by
  rcases List.mem_append.mp h with h | h
  · rcases List.mem_append.mp h with h | h
    · exact rowTape_lt _ c h
    · exact rowTape_lt _ c h
  · exact rowTape_lt _ c h
section
variable {prog : Program} {w : World} {A : Around} {σ : Shared} {h₀ : Heap} {N : Led} {s : Shared} {env : Env} {E : Value → Shared → Prop} {mg mb : Str → Option Value} {n : Nat} {ad : Ads}
theorem law4 {L a c tl : Addr} {m : Str → Option Value} {vt : List Value} {tp : List Nat} {Q : Flow → Shared → Prop} (S : St σ h₀ ((L, .ns m) :: (tl, .lst vt) :: N) s) (W : Wd ad mg mb h₀) (Rm : Room A 200) (ht : m "tape" = some (.ref tl)) (it : Ints vt (natsZ tp)) (hz : vt.length ≤ 300) (h128 : ∀ c ∈ tp, c < 128)
    (h : ∀ s' oc tb, St σ h₀ ((L, .ns fun y => if y = "octets" then some (.ref oc) else m y) :: (oc, biE (tapeB tp) tb 0) :: N) s' → Q .next s') : wpAny (model prog w) A (exec (lstm 4) (lenv L a c)) Q NoE s := by
  show wpAny _ _ (exec (.Assign [.Name _ _] _ _) _) _ _ _
  repeat walk_at "na"
  refine tobytes (by walk_at "st") Rm.h (by walk_at "mem") it ?_ (by simp [sizeLine]; omega) ?_
  · intro n hn
    obtain ⟨c, hc, rfl⟩ := List.mem_map.mp hn
    have := h128 c hc
    omega
  intro s1 t1 S1
  repeat walk_at "na"
  refine iterb S1 ?_
  intro s2 I hI S2
  repeat walk_at "na"
  rename_i S'
  exact h _ _ _ (S'.sel (by walk_at "sel"))
theorem law5 {L a c : Addr} {x : Option Value} {Q : Flow → Shared → Prop} (S : St σ h₀ ((L + 4, .cel x) :: N) s)
    (h : ∀ s' td, St σ h₀ ((td, .lst []) :: (L + 4, .cel (some (.ref td))) :: N) s' → Q .next s') : wpAny (model prog w) A (exec (lstm 5) (lenv L a c)) Q NoE s := by
  show wpAny _ _ (exec (.Assign [.Name _ _] _ _) _) _ _ _
  repeat walk_at "na"
  rename_i S'
  exact h _ _ (S'.sel (by walk_at "sel"))
end
theorem gapsN_append : ∀ (A B : List Nat) (l : Nat), gapsN l (A ++ B) = gapsN l A ++ gapsN (A.getLastD l) B
  | [], B, l => rfl
  | a :: A, B, l => by rw [List.cons_append, gapsN, gapsN, gapsN_append A B a, List.append_assoc, List.getLastD_cons]
def turnbody : List Stmt := match lstm 6 with
  | .For _ _ b _ _ => b
  | _ => []
inductive JT (L oc td q : Addr) (m : Str → Option Value) (vtd : List Value) (tape T : List Nat) (tb : Tok) (i : Nat) (N : Led) (j : Nat) : Led → Prop
  | mk (m' : Str → Option Value) (t' : Tok) (u : List Value) (f1 : m' "row" = some (.ref q)) (f2 : m' "octets" = some (.ref oc)) (f3 : ∀ y : Str, y ≠ "row" → y ≠ "step" → m' y = m y) (f4 : Ints u (natsZ (T.take j))) :
    JT L oc td q m vtd tape T tb i N j ((L, .ns m') :: (L + 3, .cel (some (.int (((T.take j).getLastD 0 : Nat) : Int) t'))) :: (oc, biE (tapeB tape) tb (i + (octN T.length).length + (gapsN 0 (T.take j)).length)) :: (L + 4, .cel (some (.ref td))) :: (td, .lst vtd) :: (q, .lst u) :: N)
inductive J6 (L oc td : Addr) (T0 T1 T2 : List Nat) (tb : Tok) (N : Led) : Nat → Led → Prop
  | z (m' : Str → Option Value) (y3 : Option Value) (ho : m' "octets" = some (.ref oc)) : J6 L oc td T0 T1 T2 tb N 0 ((L, .ns m') :: (L + 3, .cel y3) :: (oc, biE (tapeB (rowTape T0 ++ rowTape T1 ++ rowTape T2)) tb 0) :: (L + 4, .cel (some (.ref td))) :: (td, .lst []) :: N)
  | a (m' : Str → Option Value) (y3 : Option Value) (ho : m' "octets" = some (.ref oc)) (q0 : Addr) (u0 : List Value) (j0 : Ints u0 (natsZ T0)) :
    J6 L oc td T0 T1 T2 tb N 1 ((L, .ns m') :: (L + 3, .cel y3) :: (oc, biE (tapeB (rowTape T0 ++ rowTape T1 ++ rowTape T2)) tb (rowTape T0).length) :: (L + 4, .cel (some (.ref td))) :: (td, .lst [.ref q0]) :: (q0, .lst u0) :: N)
  | b (m' : Str → Option Value) (y3 : Option Value) (ho : m' "octets" = some (.ref oc)) (q0 : Addr) (u0 : List Value) (q1 : Addr) (u1 : List Value) (j0 : Ints u0 (natsZ T0)) (j1 : Ints u1 (natsZ T1)) :
    J6 L oc td T0 T1 T2 tb N 2 ((L, .ns m') :: (L + 3, .cel y3) :: (oc, biE (tapeB (rowTape T0 ++ rowTape T1 ++ rowTape T2)) tb (rowTape T0 ++ rowTape T1).length) :: (L + 4, .cel (some (.ref td))) :: (td, .lst [.ref q0, .ref q1]) :: (q1, .lst u1) :: (q0, .lst u0) :: N)
  | c (m' : Str → Option Value) (y3 : Option Value) (ho : m' "octets" = some (.ref oc)) (q0 : Addr) (u0 : List Value) (q1 : Addr) (u1 : List Value) (q2 : Addr) (u2 : List Value) (j0 : Ints u0 (natsZ T0)) (j1 : Ints u1 (natsZ T1)) (j2 : Ints u2 (natsZ T2)) :
    J6 L oc td T0 T1 T2 tb N 3 ((L, .ns m') :: (L + 3, .cel y3) :: (oc, biE (tapeB (rowTape T0 ++ rowTape T1 ++ rowTape T2)) tb (rowTape T0 ++ rowTape T1 ++ rowTape T2).length) :: (L + 4, .cel (some (.ref td))) :: (td, .lst [.ref q0, .ref q1, .ref q2]) :: (q2, .lst u2) :: (q1, .lst u1) :: (q0, .lst u0) :: N)
section
variable {prog : Program} {w : World} {A : Around} {σ : Shared} {h₀ : Heap} {N : Led} {s : Shared} {env : Env} {E : Value → Shared → Prop} {mg mb : Str → Option Value} {n : Nat} {ad : Ads}
end
local macro_rules | `(tactic| walk_at "n2") => `(tactic| first
  | walk_at "n1"
  | ((with_reducible refine' load_c ?S ?hc ?hm ?_ (hk := ?hk) (hl := ?hl)); (case hl => exact rfl); (case hc => exact rfl); (case hk => exact rfl); (case S => walk_at "st"); (case hm => walk_at "mem")))
local macro_rules | `(tactic| walk_at "nb") => `(tactic| first | walk_at "n2" | with_reducible refine wpAny_execs_cons ?_)
section
variable {prog : Program} {w : World} {A : Around} {σ : Shared} {h₀ : Heap} {N : Led} {s : Shared} {env : Env} {E : Value → Shared → Prop} {mg mb : Str → Option Value} {n : Nat} {ad : Ads}
/-- rising, below a million, at most 13 -/
structure Tow (T : List Nat) : Prop where
  lt : ∀ x ∈ T, x < 1000000
  up : T.Pairwise (· ≤ ·)
  len : T.length ≤ 13
theorem Tow.last {T : List Nat} {j x : Nat} (h : Tow T) (hx : T[j]? = some x) : (T.take j).getLastD 0 ≤ x := by
  refine getLastD_le _ _ (fun y hy => ?_) (Nat.zero_le _)
  rw [List.mem_take_iff_getElem] at hy
  obtain ⟨i, hi, rfl⟩ := hy
  obtain ⟨hj, rfl⟩ := List.getElem?_eq_some_iff.mp hx
  exact List.pairwise_iff_getElem.mp h.up i j (by omega) hj (by omega)
set_option maxHeartbeats 2000000 in
theorem turnb {L a c oc td : Addr} {m : Str → Option Value} {vtd : List Value} {tape T post : List Nat} {tb : Tok} {i : Nat} {y3 : Option Value} {Q : Flow → Shared → Prop}
    (S : St σ h₀ ((L, .ns m) :: (L + 3, .cel y3) :: (oc, biE (tapeB tape) tb i) :: (L + 4, .cel (some (.ref td))) :: (td, .lst vtd) :: N) s) (W : Wd ad mg mb h₀) (Rm : Room A 200) (ho : m "octets" = some (.ref oc)) (hT : Tow T) (zt : vtd.length < 100)
    (hd : tape.drop i = rowTape T ++ post) (h128 : ∀ c ∈ tape, c < 128)
    (h : ∀ s' m' y3' q u, Ints u (natsZ T) → (∀ y : Str, y ≠ "row" → y ≠ "step" → m' y = m y) → St σ h₀ ((L, .ns m') :: (L + 3, .cel y3') :: (oc, biE (tapeB tape) tb (i + (rowTape T).length)) :: (L + 4, .cel (some (.ref td))) :: (td, .lst (vtd ++ [.ref q])) :: (q, .lst u) :: N) s' → Q .next s') :
    wpAny (model prog w) A (execs turnbody (lenv L a c)) Q NoE s := by
  show wpAny _ _ (execs [_, _, _, _] _) _ _ _
  have zT := hT.len
  repeat walk_at "nb"
  refine ⟨St.keep (by walk_at "st"), ?_⟩
  have hd0 : tape.drop i = octN T.length ++ (gapsN 0 T ++ post) := by rw [hd]; unfold rowTape; rw [List.append_assoc]
  refine parse_spec (n := 100) (by walk_at "st") W (Rm.le (by decide)) (by omega) hd0 h128 (by walk_at "put") ?_
  intro s1 t1 S1
  repeat walk_at "nb"
  refine iter_r (k := T.length) (by walk_at "st") (.head _) (by simp) (by decide) (by omega) ?_
  intro s2 I hI S2
  obtain ⟨m3, t3, q, S3, e1, e2, e3⟩ : ∃ m3 t3 q, St σ h₀ ((I, rgE 0 1 T.length 0) :: (L, .ns m3) :: (L + 3, .cel (some (.int ((0 : Nat) : Int) t3))) :: (oc, biE (tapeB tape) tb (i + (octN T.length).length)) :: (L + 4, .cel (some (.ref td))) :: (td, .lst vtd) :: (q, .lst []) :: N) s2 ∧
      m3 "row" = some (.ref q) ∧ m3 "octets" = some (.ref oc) ∧ (∀ y : Str, y ≠ "row" → y ≠ "step" → m3 y = m y) :=
    ⟨_, _, _, S2.sel (by walk_at "sel"), by exact rfl, by exact ho, by intro y h1 h2; rw [if_neg h1]⟩
  clear S2 S1
  refine forloop (draw_range Rm.h I 0 1 T.length) (fun j N' => JT L oc td q m vtd tape T tb i N j N') S3 ⟨m3, t3, [], e1, e2, e3, .nil⟩ (fun _ _ _ => trivial) ?_ ?_
  · rintro j N' x s5 hj hJ ⟨tj, rfl⟩ S5
    refine hideQ fun QA hA => ?_
    obtain ⟨m', t', u, f1, f2, f3, f4⟩ := hJ
    obtain ⟨x, hx⟩ : ∃ x, T[j]? = some x := ⟨T[j], List.getElem?_eq_getElem hj⟩
    have hxl := hT.lt x (List.mem_of_getElem? hx)
    have hle := hT.last hx
    have eT : T.take (j + 1) = T.take j ++ [x] := take_succ_get hx
    have zu : u.length ≤ 13 := by rw [f4.length]; unfold natsZ; rw [List.length_map, List.length_take]; omega
    walk_at "nb"
    refine hA _ _ ?_
    refine hideQ fun QB hB => ?_
    clear hA
    repeat walk_at "nb"
    refine ⟨St.keep (by walk_at "st"), ?_⟩
    have hdj : tape.drop (i + (octN T.length).length + (gapsN 0 (T.take j)).length) = octN (x - (T.take j).getLastD 0) ++ (gapsN x (T.drop (j + 1)) ++ post) := by
      have e1 : gapsN 0 T = gapsN 0 (T.take j) ++ (octN (x - (T.take j).getLastD 0) ++ gapsN x (T.drop (j + 1))) := by
        have : T = T.take j ++ (x :: T.drop (j + 1)) := by
          conv => lhs; rw [← List.take_append_drop j T]
          congr 1
          rw [List.drop_eq_getElem_cons hj]
          congr 1
          exact Option.some.inj ((List.getElem?_eq_getElem hj).symm.trans hx)
        conv => lhs; rw [this]
        rw [gapsN_append]; rfl
      rw [← List.drop_drop, ← List.drop_drop, hd0, List.drop_left, e1, List.append_assoc, List.drop_left, List.append_assoc]
    refine parse_spec (n := 100) (by walk_at "st") W (Rm.le (by decide)) (by omega) hdj h128 (by walk_at "put") ?_
    intro s6 t6 S6
    repeat walk_at "nb"
    refine append_l (by walk_at "st") (by walk_at "put") (by simp [sizeLine]; omega) ?_
    intro s7 S7
    repeat walk_at "nb"
    have x2 : (((T.take j).getLastD 0 : Nat) : Int) + ((x - (T.take j).getLastD 0 : Nat) : Int) = ((x : Nat) : Int) := by omega
    have x3 : (T.take (j + 1)).getLastD 0 = x := by rw [eT]; simp
    have x4 : i + (octN T.length).length + (gapsN 0 (T.take (j + 1))).length = i + (octN T.length).length + (gapsN 0 (T.take j)).length + (octN (x - (T.take j).getLastD 0)).length := by rw [eT, gapsN_snoc, List.length_append]; omega
    have x3' : ((x : Nat) : Int) = (((T.take (j + 1)).getLastD 0 : Nat) : Int) := by rw [x3]
    rw [x2, ← x4, x3'] at S7
    refine hB _ _ ⟨_, ⟨_, _, _, by exact f1, by exact f2, ?_, ?_⟩, S7⟩
    · intro y h1 h2
      rw [if_neg h2]
      exact f3 y h1 h2
    · rw [← x3', eT, show natsZ (T.take j ++ [x]) = natsZ (T.take j) ++ [((x : Nat) : Int)] from by unfold natsZ; rw [List.map_append]; rfl]
      exact f4.snoc
  · rintro N' s5 ⟨m', t', u, f1, f2, f3, f4⟩ S5
    rw [List.take_length] at f4 S5
    repeat walk_at "nb"
    refine append_l S5 (by walk_at "put") (by simp [sizeLine]; omega) ?_
    intro s6 S6
    refine wpAny_execs_nil ?_
    have x5 : i + (octN T.length).length + (gapsN 0 T).length = i + (rowTape T).length := by unfold rowTape; rw [List.length_append]; omega
    rw [x5] at S6
    exact h _ _ _ _ _ f4 f3 (S6.sel (by walk_at "sel"))
theorem Srt.tow {S R : List Int} (h : Row R) (p : Srt S R) : Tow (S.map Int.toNat) := by
  have hS := h.srt p
  refine ⟨fun x hx => ?_, ?_, by rw [List.length_map]; exact hS.len⟩
  · obtain ⟨y, hy, rfl⟩ := List.mem_map.mp hx
    have := hS.nn y hy
    omega
  · rw [List.pairwise_map]
    exact p.2.imp fun h => Int.toNat_le_toNat h
set_option maxHeartbeats 2000000 in
theorem law6 {L a c oc td : Addr} {m : Str → Option Value} {tb : Tok} {T0 T1 T2 : List Nat} {y3 : Option Value} {Q : Flow → Shared → Prop}
    (S : St σ h₀ ((L, .ns m) :: (L + 3, .cel y3) :: (oc, biE (tapeB (rowTape T0 ++ rowTape T1 ++ rowTape T2)) tb 0) :: (L + 4, .cel (some (.ref td))) :: (td, .lst []) :: N) s) (W : Wd ad mg mb h₀) (Rm : Room A 200) (ho : m "octets" = some (.ref oc)) (h0 : Tow T0) (h1 : Tow T1) (h2 : Tow T2)
    (h : ∀ s' m' y3' q0 q1 q2 u0 u1 u2, Ints u0 (natsZ T0) → Ints u1 (natsZ T1) → Ints u2 (natsZ T2) → m' "octets" = some (.ref oc) → St σ h₀ ((L, .ns m') :: (L + 3, .cel y3') :: (oc, biE (tapeB (rowTape T0 ++ rowTape T1 ++ rowTape T2)) tb (rowTape T0 ++ rowTape T1 ++ rowTape T2).length) :: (L + 4, .cel (some (.ref td))) :: (td, .lst [.ref q0, .ref q1, .ref q2]) ::
      (q0, .lst u0) :: (q1, .lst u1) :: (q2, .lst u2) :: N) s' → Q .next s') :
    wpAny (model prog w) A (exec (lstm 6) (lenv L a c)) Q NoE s := by
  show wpAny _ _ (exec (.For _ _ _ _ _) _) _ _ _
  have h128 : ∀ c ∈ rowTape T0 ++ rowTape T1 ++ rowTape T2, c < 128 := fun c h => by
    rcases List.mem_append.mp h with h | h
    · rcases List.mem_append.mp h with h | h
      · exact rowTape_lt _ c h
      · exact rowTape_lt _ c h
    · exact rowTape_lt _ c h
  repeat walk_at "nb"
  refine iter_r (k := 3) (by walk_at "st") (.head _) (by decide) (by decide) (by decide) ?_
  intro s2 I hI S2
  have S3 : St σ h₀ ((I, rgE 0 1 3 0) :: (L, .ns m) :: (L + 3, .cel y3) :: (oc, biE (tapeB (rowTape T0 ++ rowTape T1 ++ rowTape T2)) tb 0) :: (L + 4, .cel (some (.ref td))) :: (td, .lst []) :: N) s2 := S2.sel (by walk_at "sel")
  refine forloop (draw_range Rm.h I 0 1 3) (fun j N' => J6 L oc td T0 T1 T2 tb N j N') S3 (.z m y3 ho) (fun _ _ _ => trivial) ?_ ?_
  · rintro j N' x s5 hj hJ ⟨tj, rfl⟩ S5
    refine hideQ fun QA hA => ?_
    rcases hJ with ⟨m', y3', ho'⟩ | ⟨m', y3', ho', q0, u0, j0⟩ | ⟨m', y3', ho', q0, u0, q1, u1, j0, j1⟩ | _
    · skip
      refine store_l S5 (.tail .head) ?_
      intro s6 S6
      refine hA _ _ ?_
      refine hideQ fun QB hB => ?_
      clear hA
      have S7 : St σ h₀ ((L, .ns fun y => if y = "turn" then some (.int (0 + ((0 : Nat) : Int) * 1) tj) else m' y) :: (L + 3, .cel y3') :: (oc, biE (tapeB (rowTape T0 ++ rowTape T1 ++ rowTape T2)) tb 0) :: (L + 4, .cel (some (.ref td))) :: (td, .lst []) :: (I, rgE 0 1 3 (0 + 1)) :: N) s6 := S6.sel (by walk_at "sel")
      refine turnb (T := T0) (post := rowTape T1 ++ rowTape T2) S7 W Rm (by exact ho') h0 (by show (0 : Nat) < 100; decide) (by rw [List.drop_zero, List.append_assoc]) h128 ?_
      intro s8 m8 y8 q u iu hm8 S8
      rw [show 0 + (rowTape T0).length = (rowTape T0).length from by omega] at S8
      exact hB _ _ ⟨_, .a m8 y8 (by rw [hm8 _ (by decide) (by decide)]; exact ho') q u iu, S8.sel (by walk_at "sel")⟩
    · skip
      refine store_l S5 (.tail .head) ?_
      intro s6 S6
      refine hA _ _ ?_
      refine hideQ fun QB hB => ?_
      clear hA
      have S7 : St σ h₀ ((L, .ns fun y => if y = "turn" then some (.int (0 + ((1 : Nat) : Int) * 1) tj) else m' y) :: (L + 3, .cel y3') :: (oc, biE (tapeB (rowTape T0 ++ rowTape T1 ++ rowTape T2)) tb (rowTape T0).length) :: (L + 4, .cel (some (.ref td))) :: (td, .lst [.ref q0]) :: (I, rgE 0 1 3 (1 + 1)) :: (q0, .lst u0) :: N) s6 := S6.sel (by walk_at "sel")
      refine turnb (T := T1) (post := rowTape T2) S7 W Rm (by exact ho') h1 (by show (1 : Nat) < 100; decide) (by rw [List.append_assoc, List.drop_left]) h128 ?_
      intro s8 m8 y8 q u iu hm8 S8
      rw [show (rowTape T0).length + (rowTape T1).length = (rowTape T0 ++ rowTape T1).length from by simp only [List.length_append]] at S8
      exact hB _ _ ⟨_, .b m8 y8 (by rw [hm8 _ (by decide) (by decide)]; exact ho') q0 u0 q u j0 iu, S8.sel (by walk_at "sel")⟩
    · skip
      refine store_l S5 (.tail .head) ?_
      intro s6 S6
      refine hA _ _ ?_
      refine hideQ fun QB hB => ?_
      clear hA
      have S7 : St σ h₀ ((L, .ns fun y => if y = "turn" then some (.int (0 + ((2 : Nat) : Int) * 1) tj) else m' y) :: (L + 3, .cel y3') :: (oc, biE (tapeB (rowTape T0 ++ rowTape T1 ++ rowTape T2)) tb (rowTape T0 ++ rowTape T1).length) :: (L + 4, .cel (some (.ref td))) :: (td, .lst [.ref q0, .ref q1]) :: (I, rgE 0 1 3 (2 + 1)) :: (q1, .lst u1) :: (q0, .lst u0) :: N) s6 := S6.sel (by walk_at "sel")
      refine turnb (T := T2) (post := []) S7 W Rm (by exact ho') h2 (by show (2 : Nat) < 100; decide) (by rw [List.drop_left, List.append_nil]) h128 ?_
      intro s8 m8 y8 q u iu hm8 S8
      rw [show (rowTape T0 ++ rowTape T1).length + (rowTape T2).length = (rowTape T0 ++ rowTape T1 ++ rowTape T2).length from by simp only [List.length_append]] at S8
      exact hB _ _ ⟨_, .c m8 y8 (by rw [hm8 _ (by decide) (by decide)]; exact ho') q0 u0 q1 u1 q u j0 j1 iu, S8.sel (by walk_at "sel")⟩
    · omega
  · intro N' s5 hJ S5
    cases hJ with
    | c m' y3' ho' q0 u0 q1 u1 q2 u2 j0 j1 j2 => exact h _ _ _ _ _ _ _ _ _ j0 j1 j2 ho' (S5.sel (by walk_at "sel"))
end
section
variable {prog : Program} {w : World} {A : Around} {σ : Shared} {h₀ : Heap} {N : Led} {s : Shared} {env : Env} {E : Value → Shared → Prop} {mg mb : Str → Option Value} {n : Nat} {ad : Ads}
theorem hint_bi {oc : Addr} {b : Array UInt8} {t : Tok} {i : Nat} {Q : Bool → Shared → Prop} (hit : KBw.IsBytesIter s.heap oc b t i) (h : Q false s) : wpAny (model prog w) A (Builtin.List.listLengthHint (.ref oc)) Q E s := by
  have hT := KBw.iter_typeIs hit
  unfold Builtin.List.listLengthHint
  refine wpAny_bind (wpAny_specialOf hT (r := none) (by rw [typeLookup_type, builtinLookup_eq_fast]; kernel_rfl) ?_)
  refine ite_f rfl ?_
  refine ite_n (by decide) ?_
  refine wpAny_bind (wpAny_specialOf hT (r := some (.builtin "bytes_iterator.__length_hint__")) (by rw [typeLookup_type, builtinLookup_eq_fast]; kernel_rfl) ?_)
  have hsp : splitId "bytes_iterator.__length_hint__" = some ("bytes_iterator", "__length_hint__") := by decide +kernel
  dsimp only
  rw [hsp]
  dsimp only
  refine wpAny_bind (wpAny_isInstance hT (b := true) (by rw [isSubtype_type]; kernel_rfl) ?_)
  refine ite_n (by decide) ?_
  refine ite_p (by decide +kernel) ?_
  refine ite_n (by decide) ?_
  exact wpAny_pure h
theorem list_bi {oc : Addr} {b : Array UInt8} {t : Tok} {i : Nat} {Q : Value → Shared → Prop} (S : St σ h₀ ((oc, biE b t i) :: N) s) (hx : b[i]? = none) (hh : A.handled = none) (h : ∀ s' l, St σ h₀ ((l, .lst []) :: N) s' → Q (.ref l) s') :
    wpAny (model prog w) A (call (.type "list") [.ref oc]) Q E s := by
  refine callType_codes (Q₁ := fun obj s₁ => obj = .ref s.heap.objs.size ∧ s₁ = { s with heap := s.heap.push { cls := .type "list", data := .seq #[] } }) F.called_list (F.typeCall_list_1 _) F.entry_list_init
    (code_list_new _ ⟨rfl, rfl⟩) fun obj s₁ h₁ => ?_
  obtain ⟨rfl, rfl⟩ := h₁
  have S1 := S.push (tk := s.toks) (o := { cls := .type "list", data := .seq #[] }) (e := .lst []) rfl ⟨0, rfl⟩
  have hS : (s.heap.push { cls := .type "list", data := .seq #[] }).get? s.heap.objs.size = some { cls := .type "list", data := .seq #[] } := Heap.get?_push_size _ rfl
  refine ⟨⟨_, hS, rfl⟩, F.args_list_init_2 _ _, ?_⟩
  show wpAny _ _ (do let old ← Builtin.List.listItems (.ref s.heap.objs.size); Builtin.List.listUpdate (.ref s.heap.objs.size) (fun _ => #[]); letGo old.toList.reverse; Builtin.List.listExtendWith (.ref s.heap.objs.size) (.ref oc) .none) _ _ _
  unfold Builtin.List.listItems
  refine wpAny_bind (wpAny_bind (wpAny_seqItems hS rfl (wpAny_pure ?_)))
  show wpAny _ _ (updateSeq s.heap.objs.size (fun _ => #[]) >>= fun _ => letGo (#[] : Array Value).toList.reverse >>= fun _ => Builtin.List.listExtendWith (.ref s.heap.objs.size) (.ref oc) .none) _ _ _
  refine wpAny_bind (wpAny_updateSeq hS rfl ?_)
  have hS₂ := Heap.get?_update_self (Obj.mapSeq (fun _ => (#[] : Array Value))) hS rfl
  have S2 := S1.put (e' := .lst []) (tk := s.toks) Put.head (Heap.SameBut.update ..) ⟨_, hS₂, _, rfl⟩
  refine wpAny_bind (wpAny_letGo ?_)
  have hit := S2.bi (I := oc) (.tail _ (.head _))
  have hT := KBw.iter_typeIs hit
  have hne : s.heap.objs.size ≠ oc := fun e => by
    have nd := S2.nd
    rw [e] at nd
    simp at nd
  unfold Builtin.List.listExtendWith
  refine wpAny_bind (wpAny_typeOf hT ?_)
  refine ite_f (by simp [Builtin.List.listSameRef, hne]) ?_
  refine wpAny_bind (KBw.pyIter_self hit ?_)
  refine wpAny_bind (wpAny_holding (hint_bi hit ?_))
  refine ite_f (by decide +kernel) ?_
  refine wpAny_pure ⟨plainId_quiet F.plain_extend_loop _, codeAny_builtin F.entry_extend_loop ?_⟩
  rw [Around.under_plainId F.plain_extend_loop _]
  unfold Builtin.«list.extend.loop»
  refine wpAny_bind (KBw.next_end hh hit hx ?_)
  intro h' he
  refine wpAny_pure ⟨rfl, h _ _ ?_⟩
  exact St.dropTo (S2.sel (by walk_at "sel") : St σ h₀ ((oc, biE b t i) :: (s.heap.objs.size, .lst []) :: N) _) (tk := s.toks) he
end
section
variable {prog : Program} {w : World} {A : Around} {σ : Shared} {h₀ : Heap} {N : Led} {s : Shared} {env : Env} {E : Value → Shared → Prop} {mg mb : Str → Option Value} {n : Nat} {ad : Ads}
theorem Ints.eqAt {vs us : List Value} {ns ms : List Int} (h : Ints vs ns) (h' : Ints us ms) {j : Nat} (h1 : j < vs.toArray.size) (h2 : j < us.toArray.size) : SeqAt.EqAt A s vs.toArray[j] us.toArray[j] (ns.getD j 0 == ms.getD j 0) := by
  have h1' : j < vs.length := by simpa using h1
  have h2' : j < us.length := by simpa using h2
  obtain ⟨t, e⟩ := h.get j _ (List.getElem?_eq_getElem h1')
  obtain ⟨t', e'⟩ := h'.get j _ (List.getElem?_eq_getElem h2')
  simp only [List.getElem_toArray]
  rw [e, e']
  exact SeqAt.EqAt.int_int _ _ _ _
theorem all_range_eq {ns ms : List Int} (h : ns.length = ms.length) : (List.range ns.length).all (fun j => ns.getD j 0 == ms.getD j 0) = decide (ns = ms) := by
  rw [Bool.eq_iff_iff]
  simp only [List.all_eq_true, List.mem_range, beq_iff_eq, decide_eq_true_eq]
  constructor
  · intro hh
    refine List.ext_getElem h fun j h1 h2 => ?_
    have := hh j h1
    rw [List.getD_eq_getElem?_getD, List.getD_eq_getElem?_getD, List.getElem?_eq_getElem h1, List.getElem?_eq_getElem h2] at this
    exact this
  · rintro rfl j _; rfl
/-- two lists of numbers: != -/
theorem ne_ints {l b : Addr} {vs us : List Value} {ns ms : List Int} {Q : Value → Shared → Prop} (S : St σ h₀ N s) (hl : (l, .lst vs) ∈ N) (hb : (b, .lst us) ∈ N) (i : Ints vs ns) (j : Ints us ms) (hu : A.units < cLine) (h : Q (.bool (!decide (ns = ms))) s) :
    wpAny (model prog w) A (compareOp .NotEq (.ref l) (.ref b)) Q E s := by
  show wpAny _ _ (richCompare .NotEq _ _) _ _ _
  by_cases hz : ns.length = ms.length
  · refine SeqAt.RcNeAt.lists (e := fun j => ns.getD j 0 == ms.getD j 0) (S.isList hl) (S.isList hb) (by rw [List.size_toArray, List.size_toArray, i.length, j.length, hz]) hu (fun k h1 h2 => i.eqAt j h1 h2) _ _ _ _ ?_
    rw [List.size_toArray, i.length, all_range_eq hz]
    exact h
  · refine SeqAt.RcNeAt.lists_lengths (S.isList hl) (S.isList hb) (by rw [List.size_toArray, List.size_toArray, i.length, j.length]; simpa using hz) hu _ _ _ _ ?_
    have : ns ≠ ms := fun e => hz (by rw [e])
    rw [decide_eq_false this] at h
    exact h
theorem eqAt_list {l b : Addr} {vs us : List Value} {ns : List Int} (S : St σ h₀ N s) (hl : (l, .lst vs) ∈ N) (hb : (b, .lst us) ∈ N) (i : Ints vs ns) (j : Ints us ns) (hu : A.units < cLine) : SeqAt.EqAt A s (.ref l) (.ref b) true := by
  by_cases e : l = b
  · subst e; exact SeqAt.EqAt.same _
  · refine SeqAt.EqAt.of_refs e ?_
    have := SeqAt.RcAt.lists (e := fun j => ns.getD j 0 == ns.getD j 0) (A := A) (S.isList hl) (S.isList hb) (by rw [List.size_toArray, List.size_toArray, i.length, j.length]) hu (fun k h1 h2 => i.eqAt j h1 h2)
    rw [List.size_toArray, i.length, all_range_eq rfl, decide_eq_true rfl] at this
    exact this
/-- lists that are equal entry by entry: != says no -/
theorem ne_eqv {l b : Addr} {vs us : List Value} {Q : Value → Shared → Prop} (S : St σ h₀ N s) (hl : (l, .lst vs) ∈ N) (hb : (b, .lst us) ∈ N) (hz : vs.length = us.length) (he : ∀ j (h1 : j < vs.length) (h2 : j < us.length), SeqAt.EqAt A.in1 s vs[j] us[j] true) (hu : A.units < cLine) (h : Q (.bool false) s) :
    wpAny (model prog w) A (compareOp .NotEq (.ref l) (.ref b)) Q E s := by
  show wpAny _ _ (richCompare .NotEq _ _) _ _ _
  refine SeqAt.RcNeAt.lists (e := fun _ => true) (S.isList hl) (S.isList hb) (by rw [List.size_toArray, List.size_toArray, hz]) hu (fun k h1 h2 => ?_) _ _ _ _ ?_
  · simp only [List.getElem_toArray]
    exact he k (by simpa using h1) (by simpa using h2)
  · rw [show (List.range vs.toArray.size).all (fun _ => true) = true from by simp]
    exact h
end
local macro_rules | `(tactic| walk_at "n3") => `(tactic| first
  | walk_at "n2"
  | with_reducible refine wpAny_allTrue_Or_cons ?_
  | with_reducible refine wpAny_allTrue_Or_nil ?_)
local macro_rules | `(tactic| walk_at "nc") => `(tactic| first | walk_at "n3" | with_reducible refine wpAny_execs_cons ?_)
section
variable {prog : Program} {w : World} {A : Around} {σ : Shared} {h₀ : Heap} {N : Led} {s : Shared} {env : Env} {E : Value → Shared → Prop} {mg mb : Str → Option Value} {n : Nat} {ad : Ads}
set_option maxHeartbeats 400000 in
theorem law7 {L a c oc td rl q0 q1 q2 r0 r1 r2 : Addr} {m : Str → Option Value} {b : Array UInt8} {tb : Tok} {i : Nat} {u0 u1 u2 v0 v1 v2 : List Value} {X0 X1 X2 : List Int} {Q : Flow → Shared → Prop}
    (S : St σ h₀ ((oc, biE b tb i) :: (L, .ns m) :: (L + 1, .cel (some (.ref rl))) :: (L + 4, .cel (some (.ref td))) :: (td, .lst [.ref q0, .ref q1, .ref q2]) :: (rl, .lst [.ref r0, .ref r1, .ref r2]) :: (q0, .lst u0) :: (q1, .lst u1) :: (q2, .lst u2) :: (r0, .lst v0) :: (r1, .lst v1) :: (r2, .lst v2) :: N) s)
    (W : Wd ad mg mb h₀) (Rm : Room A 200) (ho : m "octets" = some (.ref oc)) (hx : b[i]? = none) (i0 : Ints u0 X0) (i1 : Ints u1 X1) (i2 : Ints u2 X2) (j0 : Ints v0 X0) (j1 : Ints v1 X1) (j2 : Ints v2 X2)
    (h : ∀ s', St σ h₀ ((L, .ns m) :: (L + 1, .cel (some (.ref rl))) :: (L + 4, .cel (some (.ref td))) :: (td, .lst [.ref q0, .ref q1, .ref q2]) :: (rl, .lst [.ref r0, .ref r1, .ref r2]) :: (q0, .lst u0) :: (q1, .lst u1) :: (q2, .lst u2) :: (r0, .lst v0) :: (r1, .lst v1) :: (r2, .lst v2) :: N) s' → Q .next s') :
    wpAny (model prog w) A (exec (lstm 7) (lenv L a c)) Q NoE s := by
  show wpAny _ _ (exec (.If _ _ _ _) _) _ _ _
  have hu : A.units < cLine := by have := Rm.u; omega
  repeat walk_at "nc"
  refine ne_eqv (vs := [.ref q0, .ref q1, .ref q2]) (us := [.ref r0, .ref r1, .ref r2]) S (by walk_at "mem") (by walk_at "mem") rfl ?_ hu ?_
  · intro j h1 h2
    have hj : j = 0 ∨ j = 1 ∨ j = 2 := by have : j < 3 := h1; omega
    have hu' : A.in1.units < cLine := by have := Rm.u; show A.units + 1 < _; omega
    rcases hj with rfl | rfl | rfl
    · exact eqAt_list S (by walk_at "mem") (by walk_at "mem") i0 j0 hu'
    · exact eqAt_list S (by walk_at "mem") (by walk_at "mem") i1 j1 hu'
    · exact eqAt_list S (by walk_at "mem") (by walk_at "mem") i2 j2 hu'
  repeat walk_at "nc"
  refine list_bi S hx Rm.h ?_
  intro s1 l1 S1
  repeat walk_at "nc"
  refine ne_ints (vs := []) (us := []) (by walk_at "st") (by walk_at "mem") (by walk_at "mem") .nil .nil hu ?_
  repeat walk_at "nc"
  rw [show (!decide (([] : List Int) = [])) = false from rfl]
  repeat walk_at "nc"
  rename_i S'
  exact h _ (S'.sel (by walk_at "sel"))
end
section
variable {prog : Program} {w : World} {A : Around} {σ : Shared} {h₀ : Heap} {N : Led} {s : Shared} {env : Env} {E : Value → Shared → Prop} {mg mb : Str → Option Value} {n : Nat} {ad : Ads}
theorem Put.app {a : Addr} {e : Ent} {N pre : Led} {g : Ent → Led} (h : Put a e N g) : Put a e (pre ++ N) (fun e' => pre ++ g e') := by
  obtain ⟨p, q, rfl, rfl⟩ := h
  exact ⟨pre ++ p, q, by rw [List.append_assoc], by funext e'; rw [List.append_assoc]⟩
/-- the lambda made -/
theorem mklam {L a c P : Addr} {Q : Value → Shared → Prop} (S : St σ h₀ ((P, tbE 0) :: N) s) (G : Gl mg mb h₀) (B : Bm mg h₀) (C : CodeHd h₀ c P)
    (h : ∀ s' f cl Pl k, St σ h₀ ((f, lamE ((lenv L a c).qual ++ "<lambda>") ((mg "__name__").getD .none) cl) :: (cl, cdE cl Pl ((lenv L a c).qual ++ "<lambda>")) :: (P, tbE k) :: N) s' → Q (.ref f) s') :
    wpAny (model prog w) A (eval (.Lambda lamst.1 lamst.2.1 lamst.2.2.1 lamst.2.2.2) (lenv L a c)) Q NoE s := by
  rw [arm_eval_Lambda]
  refine wpAny_bind (wpAny_pure ?_)
  refine wpAny_bind (wpAny_holding (wpAny_pure ?_))
  rw [makeFunction_eq]
  refine wpAny_bind (wpAny_pure (wpAny_bind (wpAny_pure (wpAny_bind (wpAny_pure ?_)))))
  refine mktail S G B (clos := []) (by first | rfl | kernel_rfl) rfl rfl (C.keeps S.keep) Put.head (by decide) rfl ?_
  intro f c' P' s' S'
  exact h _ f c' P' _ (S'.sel (by walk_at "sel"))
theorem law8 {L a c P Pk ck : Addr} {m : Str → Option Value} {Q : Flow → Shared → Prop} (S : St σ h₀ ((P, tbE 0) :: (Pk, tbE 0) :: (L, .ns m) :: N) s) (W : Wd ad mg mb h₀) (Rm : Room A 305) (B : Bm mg h₀) (C : CodeHd h₀ c P) (hnm : (mg "__name__").isSome = true) (hsm : (h₀.get? sysModules).isSome = true) (hcs : Cs h₀) (F : FnC h₀ ad.ck 3 ck Pk)
    (h : ∀ s' k1 k2 lam cl Pl C ns md bt q t t2 t3 t4 t5 sl f1 f2 f3 f4 f5 f6 c1 c2 c4 P1 P2 P4 sa mc, St σ h₀ (kled mg C ns md bt q t t2 t3 t4 t5 sl f1 f2 f3 f4 f5 f6 c1 c2 c4 P1 P2 P4 sa mc lam ++ (Pk, tbE k2) :: (lam, lamE ((lenv L a c).qual ++ "<lambda>") ((mg "__name__").getD .none) cl) :: (cl, cdE cl Pl ((lenv L a c).qual ++ "<lambda>")) :: (P, tbE k1) ::
      (L, .ns fun y => if y = "by_length" then some (.ref C) else m y) :: N) s' → Q .next s') :
    wpAny (model prog w) A (exec (lstm 8) (lenv L a c)) Q NoE s := by
  show wpAny _ _ (exec (.Assign [.Name _ _] _ _) _) _ _ _
  repeat walk_at "nc"
  obtain ⟨o, pm, doc, h1, h2, h3, h4⟩ := F
  refine callWith_def (o := o) h2 ?_
  refine args_cons (he := rfl) ?_
  refine mklam (L := L) (a := a) (c := c) S W.G B C ?_
  intro s1 lam cl Pl k1 S1
  refine args_nil ?_
  refine ⟨S1.keep _ _ h1, ?_⟩
  have S2 : St σ h₀ ((Pk, tbE 0) :: (lam, lamE ((lenv L a c).qual ++ "<lambda>") ((mg "__name__").getD .none) cl) :: (cl, cdE cl Pl ((lenv L a c).qual ++ "<lambda>")) :: (P, tbE k1) :: (L, .ns m) :: N) s1 := S1.sel (by walk_at "sel")
  refine ck_spec S2 W B hnm hsm hcs ⟨o, pm, doc, h1, h2, h3, h4⟩ (Rm.le (by decide)) ?_
  intro s2 C' ns md bt q t t2 t3 t4 t5 sl f1 f2 f3 f4 f5 f6 c1 c2 c4 P1 P2 P4 sa mc S3
  refine store_l S3 (Put.app (.tail (.tail (.tail (.tail .head))))) ?_
  intro s3 S4
  exact h _ _ _ _ _ _ _ _ _ _ _ _ _ _ _ _ _ _ _ _ _ _ _ _ _ _ _ _ _ _ _ S4
end
def wbody : List Stmt := match lstm 10 with
  | .For _ _ b _ _ => b
  | _ => []
def wst (i : Nat) : Stmt := (wbody[i]?).getD (.Pass ⟨0, 0, 0, 0⟩)
/-- the places whose digit of k is 1, below i -/
def psF (k : Int) (i : Nat) : List Nat := (List.range i).filter fun p => bitF p k
theorem psF_succ (k : Int) (i : Nat) : psF k (i + 1) = psF k i ++ (if bitF i k then [i] else []) := by
  unfold psF
  rw [List.range_succ, List.filter_append]
  congr 1
  by_cases h : bitF i k <;> simp [h]
section
variable {prog : Program} {w : World} {A : Around} {σ : Shared} {h₀ : Heap} {N : Led} {s : Shared} {env : Env} {E : Value → Shared → Prop} {mg mb : Str → Option Value} {n : Nat} {ad : Ads}
set_option maxHeartbeats 1000000 in
theorem w0 {L a c td q0 q1 q2 : Addr} {m : Str → Option Value} {k : Int} {tw : Tok} {x6 : Option Value} {Q : Flow → Shared → Prop}
    (S : St σ h₀ ((L, .ns m) :: (L + 4, .cel (some (.ref td))) :: (L + 5, .cel (some (.int k tw))) :: (L + 6, .cel x6) :: (td, .lst [.ref q0, .ref q1, .ref q2]) :: N) s) (W : Wd ad mg mb h₀) (Rm : Room A 200)
    (h : ∀ s' ch, St σ h₀ ((ch, .lst ((psF k 3).map fun p => .ref (of3 q0 q1 q2 p))) :: (L, .ns m) :: (L + 4, .cel (some (.ref td))) :: (L + 5, .cel (some (.int k tw))) :: (L + 6, .cel (some (.ref ch))) :: (td, .lst [.ref q0, .ref q1, .ref q2]) :: N) s' → Q .next s') :
    wpAny (model prog w) A (exec (wst 0) (lenv L a c)) Q NoE s := by
  show wpAny _ _ (exec (.Assign [.Name _ _] (.ListComp _ _ _ _) _) _) _ _ _
  repeat walk_at "nc"
  refine comp_open [("word", L + 5), ("told", L + 4)] rfl ?_
  repeat walk_at "nc"
  refine iter_r (k := 3) (by walk_at "st") (.head _) (by decide) (by decide) (by decide) ?_
  intro s1 I hI S1
  have S2 : St σ h₀ ((I, rgE 0 1 3 0) :: (L, .ns m) :: (L + 4, .cel (some (.ref td))) :: (L + 5, .cel (some (.int k tw))) :: (L + 6, .cel x6) :: (td, .lst [.ref q0, .ref q1, .ref q2]) :: N) s1 := S1.sel (by walk_at "sel")
  refine comp0 (draw_range Rm.h I 0 1 3) self_r (fun i ys N' => N' = (L, .ns m) :: (L + 4, .cel (some (.ref td))) :: (L + 5, .cel (some (.int k tw))) :: (L + 6, .cel x6) :: (td, .lst [.ref q0, .ref q1, .ref q2]) :: N ∧ ys = (psF k i).map fun p => .ref (of3 q0 q1 q2 p)) S2 ⟨rfl, rfl⟩ (fun _ _ _ _ _ _ => trivial) (by decide) ?_ ?_
  · rintro C D i m' ys _ v s4 hi hyl ⟨rfl, rfl⟩ ⟨t, rfl⟩ S4
    rw [psF_succ, show (0 : Int) + (i : Int) * 1 = (i : Int) from by omega]
    repeat walk_at "nc"
    refine pow2_i (by walk_at "st") hi ?_
    intro sp tp Sp
    refine fdivp_i (by walk_at "st") hi ?_
    intro sq tq Sq
    repeat walk_at "nc"
    refine P.eq_int (wpAny_truthy_bool ?_)
    show if (bitF i k) = true then _ else _
    cases hb : bitF i k with
    | false =>
      refine ite_ff ?_
      rename_i S'
      exact ⟨_, _, ⟨rfl, by simp⟩, S'⟩
    | true =>
      refine ite_tt ?_
      repeat walk_at "nc"
      refine sub_n i (by walk_at "st") (by walk_at "mem") rfl (by exact hi) (by show (3 : Nat) < _; decide) ?_
      rw [getD3 hi]
      rename_i S'
      exact ⟨_, _, ⟨rfl, by simp⟩, S'⟩
  · rintro D ys _ s4 ⟨rfl, rfl⟩ S4
    repeat walk_at "nc"
    rename_i S'
    exact h _ _ (S'.sel (by walk_at "sel"))
end
/-- an order told by lt -/
structure Lts (lt : Value → Value → Bool) : Prop where
  asym : ∀ a b, lt a b = true → lt b a = false
  tr : ∀ a b c, lt b a = false → lt c b = false → lt c a = false
def gd (vs : List Value) (i : Nat) : Value := vs.getD i .none
theorem gd_set_eq {vs : List Value} {i : Nat} {x : Value} (h : i < vs.length) : gd (vs.set i x) i = x := by simp [gd, h]
theorem gd_set_ne {vs : List Value} {i j : Nat} {x : Value} (h : i ≠ j) : gd (vs.set i x) j = gd vs j := by simp [gd, h]
/-- heap order at all places whose parent is at st or behind it -/
def Hp (lt : Value → Value → Bool) (st : Nat) (vs : List Value) : Prop := ∀ i, i < vs.length → 0 < i → st ≤ (i - 1) / 2 → lt (gd vs i) (gd vs ((i - 1) / 2)) = false
structure Hole (lt : Value → Value → Bool) (st : Nat) (x : Value) (vs : List Value) (pos : Nat) : Prop where
  h1 : ∀ i, i < vs.length → 0 < i → st ≤ (i - 1) / 2 → i ≠ pos → (i - 1) / 2 ≠ pos → lt (gd vs i) (gd vs ((i - 1) / 2)) = false
  h2 : ∀ i, i < vs.length → 0 < i → (i - 1) / 2 = pos → lt (gd vs i) x = false
  h3 : ∀ i, i < vs.length → 0 < i → (i - 1) / 2 = pos → 0 < pos → st ≤ (pos - 1) / 2 → lt (gd vs i) (gd vs ((pos - 1) / 2)) = false
inductive Desc (st : Nat) : Nat → Prop
  | self : Desc st st
  | step {p c : Nat} : Desc st p → 0 < c → (c - 1) / 2 = p → Desc st c
theorem Desc.le {st p : Nat} (h : Desc st p) : st ≤ p := by
  induction h with
  | self => exact Nat.le_refl _
  | step _ h1 h2 ih => omega
theorem Desc.par {st p : Nat} (h : Desc st p) (hlt : st < p) : Desc st ((p - 1) / 2) ∧ st ≤ (p - 1) / 2 := by
  cases h with
  | self => omega
  | step h h1 h2 => subst h2; exact ⟨h, h.le⟩
theorem Hole.fill {lt : Value → Value → Bool} {st pos : Nat} {x : Value} {vs : List Value} (H : Hole lt st x vs pos) (hp : pos < vs.length) (hx : 0 < pos → st ≤ (pos - 1) / 2 → lt x (gd vs ((pos - 1) / 2)) = false) : Hp lt st (vs.set pos x) := by
  intro i hi h0 hst
  rw [List.length_set] at hi
  by_cases e : i = pos
  · subst e
    rw [gd_set_eq hp, gd_set_ne (by omega)]
    exact hx h0 hst
  · by_cases e' : (i - 1) / 2 = pos
    · rw [gd_set_ne (Ne.symm e), e', gd_set_eq hp]
      exact H.h2 i hi h0 e'
    · rw [gd_set_ne (Ne.symm e), gd_set_ne (Ne.symm e')]
      exact H.h1 i hi h0 hst e e'
theorem sdn_heap {lt : Value → Value → Bool} (T : Lts lt) {st : Nat} {x : Value} : ∀ (f : Nat) (vs : List Value) (pos : Nat), pos ≤ f → pos < vs.length → Desc st pos → Hole lt st x vs pos → Hp lt st (sdn lt x f vs st pos) := by
  intro f
  induction f with
  | zero =>
    intro vs pos hf hp D H
    exact H.fill hp (fun h => by omega)
  | succ f ih =>
    intro vs pos hf hp D H
    unfold sdn
    by_cases hs : st < pos
    · rw [if_pos hs]
      have hpar : (pos - 1) / 2 < vs.length := by omega
      have hg : vs[(pos - 1) / 2]? = some (gd vs ((pos - 1) / 2)) := by simp [gd, hpar]
      rw [hg]
      dsimp only
      obtain ⟨D', hst⟩ := D.par hs
      by_cases hl : lt x (gd vs ((pos - 1) / 2)) = true
      · rw [if_pos hl]
        have hne : pos ≠ (pos - 1) / 2 := by omega
        have has := T.asym _ _ hl
        refine ih _ _ (by omega) (by rw [List.length_set]; omega) D' ⟨?_, ?_, ?_⟩
        · intro i hi h0 hsi hi1 hi2
          rw [List.length_set] at hi
          have hip : i ≠ pos := fun e => hi2 (by rw [e])
          rw [gd_set_ne (Ne.symm hip)]
          by_cases e : (i - 1) / 2 = pos
          · rw [e, gd_set_eq hp]
            exact H.h3 i hi h0 e (by omega) hst
          · rw [gd_set_ne (Ne.symm e)]
            exact H.h1 i hi h0 hsi hip e
        · intro i hi h0 hi1
          rw [List.length_set] at hi
          by_cases e : i = pos
          · subst e
            rw [gd_set_eq hp]
            exact has
          · rw [gd_set_ne (Ne.symm e)]
            refine T.tr _ _ _ has ?_
            rw [← hi1]
            exact H.h1 i hi h0 (by rw [hi1]; exact hst) e (by omega)
        · intro i hi h0 hi1 hp0 hst2
          rw [List.length_set] at hi
          rw [gd_set_ne (i := pos) (j := ((pos - 1) / 2 - 1) / 2) (by omega)]
          have hpp : lt (gd vs ((pos - 1) / 2)) (gd vs (((pos - 1) / 2 - 1) / 2)) = false := H.h1 _ hpar hp0 hst2 (Ne.symm hne) (by omega)
          by_cases e : i = pos
          · subst e
            rw [gd_set_eq hp]
            exact hpp
          · rw [gd_set_ne (Ne.symm e)]
            refine T.tr _ _ _ hpp ?_
            rw [← hi1]
            exact H.h1 i hi h0 (by rw [hi1]; exact hst) e (by omega)
      · rw [if_neg hl]
        exact H.fill hp fun _ _ => by simpa using hl
    · rw [if_neg hs]
      have := D.le
      exact H.fill hp fun h0 hst => by omega
theorem sdn_perm {lt : Value → Value → Bool} {st : Nat} {x : Value} : ∀ (f : Nat) (vs : List Value) (pos : Nat), pos < vs.length → (sdn lt x f vs st pos).Perm (vs.set pos x) := by
  intro f
  induction f with
  | zero => intro vs pos _; exact .refl _
  | succ f ih =>
    intro vs pos hp
    unfold sdn
    by_cases hs : st < pos
    · rw [if_pos hs]
      have hpar : (pos - 1) / 2 < vs.length := by omega
      rw [List.getElem?_eq_getElem hpar]
      dsimp only
      split
      · refine (ih _ _ (by rw [List.length_set]; exact hpar)).trans ?_
        have h1 : pos < (vs.set pos x).length := by rw [List.length_set]; exact hp
        have h2 : (pos - 1) / 2 < (vs.set pos x).length := by rw [List.length_set]; exact hpar
        have := List.set_set_perm (as := vs.set pos x) h1 h2
        rw [List.getElem_set_self, List.getElem_set_ne (by omega), List.set_set] at this
        exact this
      · exact .refl _
    · rw [if_neg hs]
structure SupI (lt : Value → Value → Bool) (st : Nat) (vs : List Value) (pos : Nat) : Prop where
  g1 : ∀ i, i < vs.length → 0 < i → st ≤ (i - 1) / 2 → i ≠ pos → (i - 1) / 2 ≠ pos → lt (gd vs i) (gd vs ((i - 1) / 2)) = false
  g2 : ∀ i, i < vs.length → 0 < i → (i - 1) / 2 = pos → 0 < pos → st ≤ (pos - 1) / 2 → lt (gd vs i) (gd vs ((pos - 1) / 2)) = false
theorem sup_inv {lt : Value → Value → Bool} (T : Lts lt) {st : Nat} (x : Value) : ∀ (f : Nat) (vs : List Value) (pos : Nat), vs.length - pos ≤ f → pos < vs.length → Desc st pos → SupI lt st vs pos →
    SupI lt st (sup lt f vs pos).1 (sup lt f vs pos).2 ∧ Desc st (sup lt f vs pos).2 ∧ (sup lt f vs pos).1.length = vs.length ∧ (sup lt f vs pos).2 < vs.length ∧ vs.length ≤ 2 * (sup lt f vs pos).2 + 1 ∧ ((sup lt f vs pos).1.set (sup lt f vs pos).2 x).Perm (vs.set pos x) := by
  intro f
  induction f with
  | zero => intro vs pos hf hp; omega
  | succ f ih =>
    intro vs pos hf hp D I
    unfold sup
    by_cases hc : 2 * pos + 1 < vs.length
    · rw [if_pos hc]
      dsimp only
      generalize hcc : (if 2 * pos + 2 < vs.length ∧ lt (vs.getD (2 * pos + 1) Value.none) (vs.getD (2 * pos + 2) Value.none) = false then 2 * pos + 2 else 2 * pos + 1) = c
      have hc1 : c < vs.length ∧ 0 < c ∧ (c - 1) / 2 = pos ∧ c ≠ pos ∧ pos < c := by subst hcc; split <;> omega
      obtain ⟨hcl, hc0, hcp, hcne, hpc⟩ := hc1
      have hoth : ∀ i, i < vs.length → 0 < i → (i - 1) / 2 = pos → i ≠ c → lt (gd vs i) (gd vs c) = false := by
        intro i hi h0 hip hic
        have hi12 : i = 2 * pos + 1 ∨ i = 2 * pos + 2 := by omega
        subst hcc
        split at hic
        · rename_i h
          rw [if_pos h]
          have : i = 2 * pos + 1 := by omega
          subst this
          exact h.2
        · rename_i h
          rw [if_neg h]
          have : i = 2 * pos + 2 := by omega
          subst this
          refine T.asym _ _ ?_
          have : ¬ lt (vs.getD (2 * pos + 1) Value.none) (vs.getD (2 * pos + 2) Value.none) = false := fun e => h ⟨hi, e⟩
          exact (Bool.not_eq_false _).mp this
      have I' : SupI lt st (vs.set pos (gd vs c)) c := by
        refine ⟨?_, ?_⟩
        · intro i hi h0 hst hic hpic
          rw [List.length_set] at hi
          by_cases e : i = pos
          · subst e
            rw [gd_set_eq hp, gd_set_ne (by omega)]
            exact I.g2 c hcl hc0 hcp h0 hst
          · rw [gd_set_ne (Ne.symm e)]
            by_cases e' : (i - 1) / 2 = pos
            · rw [e', gd_set_eq hp]
              exact hoth i hi h0 e' hic
            · rw [gd_set_ne (Ne.symm e')]
              exact I.g1 i hi h0 hst e e'
        · intro i hi h0 hpi _ hst
          rw [List.length_set] at hi
          rw [hcp, gd_set_eq hp, gd_set_ne (by omega)]
          have hD := D.le
          have := I.g1 i hi h0 (by omega) (by omega) (by omega)
          rw [hpi] at this
          exact this
      obtain ⟨r1, r2, r3, r4, r5, r6⟩ := ih (vs.set pos (gd vs c)) c (by rw [List.length_set]; omega) (by rw [List.length_set]; exact hcl) (.step D hc0 hcp) I'
      rw [List.length_set] at r3 r4 r5
      refine ⟨r1, r2, r3, r4, r5, r6.trans ?_⟩
      have h1 : pos < (vs.set pos x).length := by rw [List.length_set]; exact hp
      have h2 : c < (vs.set pos x).length := by rw [List.length_set]; exact hcl
      have := List.set_set_perm (as := vs.set pos x) h1 h2
      rw [List.getElem_set_self, List.getElem_set_ne (by omega), List.set_set] at this
      have e : vs[c] = gd vs c := by simp [gd, hcl]
      rw [e] at this
      exact this
    · rw [if_neg hc]
      exact ⟨I, D, rfl, hp, by omega, .refl _⟩
theorem siftup_heap {lt : Value → Value → Bool} (T : Lts lt) {st : Nat} {vs : List Value} (hp : st < vs.length) (H : Hp lt (st + 1) vs) : Hp lt st (siftupF lt vs st) ∧ (siftupF lt vs st).Perm vs := by
  unfold siftupF
  dsimp only
  have I : SupI lt st vs st := ⟨fun i hi h0 hs h1 h2 => H i hi h0 (by omega), fun i hi h0 h1 h2 h3 => by omega⟩
  obtain ⟨r1, r2, r3, r4, r5, r6⟩ := sup_inv T (vs.getD st .none) (vs.length - st) vs st (Nat.le_refl _) hp .self I
  generalize sup lt (vs.length - st) vs st = r at *
  generalize hx : vs.getD st .none = x at *
  have hl : (r.1.set r.2 x).length = vs.length := by rw [List.length_set, r3]
  refine ⟨sdn_heap T _ _ _ (Nat.le_refl _) (by rw [hl]; exact r4) r2 ⟨?_, ?_, ?_⟩, ?_⟩
  · intro i hi h0 hs h1 h2
    rw [List.length_set] at hi
    rw [gd_set_ne (Ne.symm h1), gd_set_ne (Ne.symm h2)]
    exact r1.g1 i hi h0 hs h1 h2
  · intro i hi h0 h1
    rw [hl] at hi
    omega
  · intro i hi h0 h1
    rw [hl] at hi
    omega
  · refine (sdn_perm _ _ _ (by rw [hl]; exact r4)).trans ?_
    rw [List.set_set]
    refine r6.trans ?_
    have : vs.set st x = vs := by
      subst hx
      rw [List.getD_eq_getElem?_getD, List.getElem?_eq_getElem hp]
      exact List.set_getElem_self hp
    rw [this]
theorem push_heap {lt : Value → Value → Bool} (T : Lts lt) {vs : List Value} {x : Value} (H : Hp lt 0 vs) : Hp lt 0 (pushF lt vs x) ∧ (pushF lt vs x).Perm (vs ++ [x]) := by
  unfold pushF
  have hl : (vs ++ [x]).length = vs.length + 1 := by simp
  have hD : ∀ p, Desc 0 p := by
    intro p
    induction p using Nat.strongRecOn with
    | ind p ih =>
      rcases Nat.eq_zero_or_pos p with rfl | h
      · exact .self
      · exact .step (ih ((p - 1) / 2) (by omega)) h rfl
  have hgd : ∀ i, i < vs.length → gd (vs ++ [x]) i = gd vs i := fun i hi => by simp [gd, List.getD_eq_getElem?_getD, List.getElem?_append_left hi]
  refine ⟨sdn_heap T _ _ _ (Nat.le_refl _) (by omega) (hD _) ⟨?_, ?_, ?_⟩, ?_⟩
  · intro i hi h0 hs h1 h2
    rw [hl] at hi
    rw [hgd i (by omega), hgd _ (by omega)]
    exact H i (by omega) h0 hs
  · intro i hi h0 h1
    rw [hl] at hi
    omega
  · intro i hi h0 h1
    rw [hl] at hi
    omega
  · refine (sdn_perm _ _ _ (by omega)).trans ?_
    rw [List.set_append_right _ _ (Nat.le_refl _)]
    simp
theorem heap_min {lt : Value → Value → Bool} (T : Lts lt) (hr : ∀ a, lt a a = false) {vs : List Value} (H : Hp lt 0 vs) : ∀ i, i < vs.length → lt (gd vs i) (gd vs 0) = false := by
  intro i
  induction i using Nat.strongRecOn with
  | ind i ih =>
    intro hi
    rcases Nat.eq_zero_or_pos i with rfl | h
    · exact hr _
    · exact T.tr _ _ _ (ih ((i - 1) / 2) (by omega) (by omega)) (H i hi h (Nat.zero_le _))
theorem pop_heap {lt : Value → Value → Bool} (T : Lts lt) (hr : ∀ a, lt a a = false) {vs : List Value} {y : Value} (H : Hp lt 0 (vs ++ [y])) :
    Hp lt 0 (popF lt vs y).2 ∧ ((popF lt vs y).1 :: (popF lt vs y).2).Perm (vs ++ [y]) ∧ ∀ v ∈ vs ++ [y], lt v (popF lt vs y).1 = false := by
  have hmin := heap_min T hr H
  have hall : ∀ v ∈ vs ++ [y], lt v (gd (vs ++ [y]) 0) = false := by
    intro v hv
    obtain ⟨i, hi, rfl⟩ := List.mem_iff_getElem.mp hv
    have := hmin i hi
    rw [show gd (vs ++ [y]) i = (vs ++ [y])[i] from by unfold gd; rw [List.getD_eq_getElem?_getD, List.getElem?_eq_getElem hi]; rfl] at this
    exact this
  cases vs with
  | nil => exact ⟨fun i hi => by simp [popF] at hi, .refl _, hall⟩
  | cons x r =>
    have e0 : gd (x :: r ++ [y]) 0 = x := rfl
    rw [e0] at hall
    have H1 : Hp lt (0 + 1) (y :: r) := by
      intro i hi h0 hs
      have hi' : i < (x :: r).length := by simpa using hi
      have hg : ∀ j, 0 < j → j < (x :: r).length → gd (y :: r) j = gd (x :: r ++ [y]) j := fun j hj hl => by
        obtain ⟨j, rfl⟩ : ∃ k, j = k + 1 := ⟨j - 1, by omega⟩
        have hl' : j < r.length := by simpa using hl
        simp [gd, List.getD_eq_getElem?_getD, List.getElem?_append_left hl']
      rw [hg i h0 hi', hg _ (by omega) (by omega)]
      exact H i (by simp at hi' ⊢; omega) h0 (Nat.zero_le _)
    obtain ⟨q1, q2⟩ := siftup_heap T (st := 0) (vs := y :: r) (by simp) H1
    refine ⟨q1, ?_, hall⟩
    show (x :: siftupF lt (y :: r) 0).Perm (x :: (r ++ [y]))
    exact (q2.trans (List.perm_append_singleton y r).symm).cons x
theorem hfy_heap {lt : Value → Value → Bool} (T : Lts lt) : ∀ (k : Nat) (vs : List Value), k ≤ vs.length → Hp lt k vs → Hp lt 0 (hfyF lt k vs) ∧ (hfyF lt k vs).Perm vs := by
  intro k
  induction k with
  | zero => intro vs _ H; exact ⟨H, .refl _⟩
  | succ k ih =>
    intro vs hk H
    obtain ⟨q1, q2⟩ := siftup_heap T (st := k) (by omega) H
    obtain ⟨p1, p2⟩ := ih (siftupF lt vs k) (by rw [q2.length_eq]; omega) q1
    exact ⟨p1, p2.trans q2⟩
theorem hfy_all {lt : Value → Value → Bool} (T : Lts lt) (vs : List Value) : Hp lt 0 (hfyF lt (vs.length / 2) vs) ∧ (hfyF lt (vs.length / 2) vs).Perm vs :=
  hfy_heap T _ vs (by omega) fun i hi h0 hs => by omega
theorem ltp_lts (ky : Value → Int × Int) : Lts fun v u => ltp (ky v) (ky u) := by
  refine ⟨fun a b h => ?_, fun a b c h1 h2 => ?_⟩
  · unfold ltp at *
    split at h <;> split <;> simp at * <;> omega
  · unfold ltp at *
    split at h1 <;> split at h2 <;> split <;> simp at * <;> omega
theorem ltp_irr (ky : Value → Int × Int) (a : Value) : ltp (ky a) (ky a) = false := by unfold ltp; simp
/-- the class K made by cmp_to_key, and its lambda -/
structure KD where
  (C ns md bt sl f1 f2 f3 f4 f5 f6 c1 c2 c4 P1 P2 P4 sa mc lam cl Pl : Addr)
  (q ql : Str)
  (t t2 t3 t4 t5 : Tok)
def KD.led (mg : Str → Option Value) (K : KD) : Led :=
  kled mg K.C K.ns K.md K.bt K.q K.t K.t2 K.t3 K.t4 K.t5 K.sl K.f1 K.f2 K.f3 K.f4 K.f5 K.f6 K.c1 K.c2 K.c4 K.P1 K.P2 K.P4 K.sa K.mc K.lam ++ [(K.lam, lamE K.ql ((mg "__name__").getD .none) K.cl), (K.cl, cdE K.cl K.Pl K.ql)]
section
variable {prog : Program} {w : World} {A : Around} {σ : Shared} {h₀ : Heap} {N : Led} {s : Shared} {env : Env} {E : Value → Shared → Prop} {mg mb : Str → Option Value} {n : Nat} {ad : Ads}
theorem codeRec_at {h : Heap} {c P : Addr} {q : Str} (hm : At h c (cdE c P q)) : h.CodeRec (.ref c) q := by
  obtain ⟨o, ho, vs, file, tf, flags, tg, inF, text, tt, tq, e1, e2, e3, e4, e5, e6, e7, e8, e9, e10⟩ := hm
  exact ⟨c, o, vs, tq, rfl, ho, e2, e10⟩
theorem KD.kk {K : KD} {H : Heap} (hA : ∀ p ∈ K.led mg, At H p.1 p.2) (nd : ((K.led mg).map (·.1)).Nodup) : KK H K.C K.md K.f1 K.f2 K.f4 := by
  refine kk_of (fun p hp => hA p (List.mem_append.mpr (.inl hp))) ?_
  have nd' : ([K.C, K.ns, K.md, K.f4, K.f2, K.f1] ++ [K.c4, K.c2, K.c1, K.mc, K.lam, K.cl]).Nodup := nd
  exact nd'.sublist (List.sublist_append_left _ _)
theorem KD.own {K : KD} {H : Heap} (hA : ∀ p ∈ K.led mg, At H p.1 p.2) : OwnK H K.C K.f2 K.f4 := by
  have hl : ∀ p ∈ kled mg K.C K.ns K.md K.bt K.q K.t K.t2 K.t3 K.t4 K.t5 K.sl K.f1 K.f2 K.f3 K.f4 K.f5 K.f6 K.c1 K.c2 K.c4 K.P1 K.P2 K.P4 K.sa K.mc K.lam, At H p.1 p.2 := fun p hp => hA p (List.mem_append.mpr (.inl hp))
  obtain ⟨oc', hC, rfl⟩ := hl _ (.head _)
  obtain ⟨oN, hN, es, ep, rfl, hsp⟩ := hl _ (.tail _ (.head _))
  obtain ⟨o4, h4, ct4, rfl⟩ := hl _ (.tail _ (.tail _ (.tail _ (.head _))))
  obtain ⟨o2, h2, ct2, rfl⟩ := hl _ (.tail _ (.tail _ (.tail _ (.tail _ (.head _)))))
  have hns : H.Ns K.ns (fun k => (kvsC (.str "cpy313.functools" K.t2) (.int kst.2.2.2.2.line K.t4) K.sl K.f1 K.f2 K.f3 K.f4 K.f5 K.f6 K.sa K.md).lookup k) := ⟨_, _, _, hN, rfl, hsp.keys, hsp.find⟩
  rintro x d v ⟨ox, hx, rfl⟩
  refine ⟨⟨_, _, "K", K.q, K.ns, [.type "object"], [.type "object"], false, ["obj"], [], false, none, none, some (.ref K.bt), none, some (.str "K" K.t), some (.str K.q K.t3), some (.bool false), "object.__new__", _, some (.builtin "object.__eq__"), hx, rfl, hC, hns, rfl, h4, rfl, rfl, ?_⟩,
    ⟨_, _, "K", K.q, K.ns, [.type "object"], [.type "object"], false, ["obj"], [], false, none, none, some (.ref K.bt), none, some (.str "K" K.t), some (.str K.q K.t3), some (.bool false), "object.__new__", _, some (.builtin "object.__lt__"), hx, rfl, hC, hns, rfl, h2, rfl, rfl, ?_⟩⟩
  · rw [typeLookup_type, builtinLookup_eq_fast]; kernel_rfl
  · rw [typeLookup_type, builtinLookup_eq_fast]; kernel_rfl
theorem KD.kb {K : KD} {H : Heap} (hA : ∀ p ∈ K.led mg, At H p.1 p.2) (nd : ((K.led mg).map (·.1)).Nodup) : KB mg H K.C K.md K.f1 K.f2 K.f4 K.c2 K.c4 K.mc K.lam K.cl K.ql := by
  have hl : ∀ p ∈ kled mg K.C K.ns K.md K.bt K.q K.t K.t2 K.t3 K.t4 K.t5 K.sl K.f1 K.f2 K.f3 K.f4 K.f5 K.f6 K.c1 K.c2 K.c4 K.P1 K.P2 K.P4 K.sa K.mc K.lam, At H p.1 p.2 := fun p hp => hA p (List.mem_append.mpr (.inl hp))
  refine ⟨KD.kk hA nd, hl _ (.tail _ (.tail _ (.tail _ (.tail _ (.head _))))), codeRec_at (hl (K.c2, cdE K.c2 K.P2 (kq 3)) ?_), hl _ (.tail _ (.tail _ (.tail _ (.head _)))), codeRec_at (hl (K.c4, cdE K.c4 K.P4 (kq 5)) ?_), hl (K.mc, _) ?_,
    hA (K.lam, lamE K.ql ((mg "__name__").getD .none) K.cl) (List.mem_append.mpr (.inr (.head _))), codeRec_at (hA (K.cl, cdE K.cl K.Pl K.ql) (List.mem_append.mpr (.inr (.tail _ (.head _)))))⟩
  · exact .tail _ (.tail _ (.tail _ (.tail _ (.tail _ (.tail _ (.tail _ (.head _)))))))
  · exact .tail _ (.tail _ (.tail _ (.tail _ (.tail _ (.tail _ (.head _))))))
  · exact .tail _ (.tail _ (.tail _ (.tail _ (.tail _ (.tail _ (.tail _ (.tail _ (.tail _ (.head _)))))))))
theorem KD.cmp {K : KD} {V : Led} {ky : Value → Int × Int} (G : Gl mg mb h₀) (hlen : mg "len" = none) (hV : ∀ p ∈ K.led mg, p ∈ V) (nd : ((K.led mg).map (·.1)).Nodup) : Cmp prog w h₀ 8 V (KeyAt V K.C ky) (fun v u => ltp (ky v) (ky u)) :=
  cmp_key G hlen fun _ _ hA => ⟨KD.kb (fun p hp => hA p (hV p hp)) nd, KD.own fun p hp => hA p (hV p hp)⟩
theorem keep_makes {K : Frag} {C : Addr} (h : makesIn K C = true) : keepIn K (.ref C) = true := by
  unfold makesIn at h
  unfold keepIn
  dsimp only
  split at h
  · rename_i o1 o2 cd sl hl
    rw [hl]
    simp only [Bool.and_eq_true] at h
    exact h.1.2
  · cases h
/-- K(row), as the text calls it -/
theorem KD.make {K : KD} {pos : Pos} {e : Expr} {v : Value} {Q : Value → Shared → Prop} (W : Wd ad mg mb h₀) (Rm : Room A 10) (S : St σ h₀ N s) (hK : ∀ p ∈ K.led mg, p ∈ N) (nd : ((K.led mg).map (·.1)).Nodup)
    (he : starEach [e] env = (false, eval e env) :: starEach [] env)
    (hv : ∀ {Q' : Value → Shared → Prop}, Q' v s → wpAny (model prog w) A (eval e env) Q' NoE s)
    (h : ∀ s' x d, St σ h₀ ((x, kiE K.C d v) :: (d, .raw emptyDict) :: N) s' → Q (.ref x) s') :
    wpAny (model prog w) A (callWith pos (.ref K.C) [] (backTo pos (starEach [e] env)) []) Q NoE s := by
  have KH := KD.kk (K := K) (fun p hp => (S.led p (hK p hp)).1) nd
  have KH' := KH
  obtain ⟨Kf, X, k1, kr⟩ := KH'
  refine callWith_K (h₀ := s.heap) X (keep_makes k1) ?_ (he := he)
  refine args_cons (he := he) (hv ?_)
  refine args_nil ⟨X, ?_⟩
  exact make_k S W.G Rm KH (hK (K.f1, _) (List.mem_append.mpr (.inl (.tail _ (.tail _ (.tail _ (.tail _ (.tail _ (.head _))))))))) (hK (K.c1, cdE K.c1 K.P1 (kq 2)) (List.mem_append.mpr (.inl (.tail _ (.tail _ (.tail _ (.tail _ (.tail _ (.tail _ (.tail _ (.tail _ (.head _)))))))))))) h
end
/-- what is pushed: v is the pair of a key of row p and p -/
def Pushed (K : KD) (q : Nat → Addr) (Es : Led) (v : Value) (p : Nat) : Prop := ∃ tp x d ti, v = .ref tp ∧ (tp, .tup [.ref x, .int (p : Int) ti]) ∈ Es ∧ (x, kiE K.C d (.ref (q p))) ∈ Es ∧ (d, .raw emptyDict) ∈ Es
theorem psF_len (k : Int) (i : Nat) : (psF k i).length ≤ i := by
  have := List.length_filter_le (fun p => bitF p k) (List.range i)
  rw [List.length_range] at this
  exact this
def kyf (len : Nat → Nat) (pk : Value → Nat) (v : Value) : Int × Int := ((len (pk v) : Int), (pk v : Int))
structure HeapOk (K : KD) (q : Nat → Addr) (len : Nat → Nat) (Es : Led) (hv : List Value) (ps : List Nat) (pk : Value → Nat) : Prop where
  perm : (hv.map pk).Perm ps
  at' : ∀ v ∈ hv, Pushed K q Es v (pk v)
  hp : Hp (fun v u => ltp (kyf len pk v) (kyf len pk u)) 0 hv
theorem Hp.congr {lt lt' : Value → Value → Bool} {vs : List Value} (h : Hp lt 0 vs) (e : ∀ a ∈ vs, ∀ b ∈ vs, lt a b = lt' a b) : Hp lt' 0 vs := by
  intro i hi h0 hs
  have m : ∀ j, j < vs.length → gd vs j ∈ vs := fun j hj => by
    unfold gd; rw [List.getD_eq_getElem?_getD, List.getElem?_eq_getElem hj]; exact List.getElem_mem hj
  rw [← e _ (m i hi) _ (m _ (by omega))]
  exact h i hi h0 hs
theorem Pushed.mono {K : KD} {q : Nat → Addr} {Es Es' : Led} {v : Value} {p : Nat} (h : Pushed K q Es v p) (hs : ∀ e ∈ Es, e ∈ Es') : Pushed K q Es' v p := by
  obtain ⟨tp, x, d, ti, e, h1, h2, h3⟩ := h
  exact ⟨tp, x, d, ti, e, hs _ h1, hs _ h2, hs _ h3⟩
theorem HeapOk.push {K : KD} {q : Nat → Addr} {len : Nat → Nat} {Es : Led} {hv : List Value} {ps : List Nat} {pk : Value → Nat} {p : Nat} {tp x d : Addr} {ti : Tok} (H : HeapOk K q len Es hv ps pk) (hf : ∀ e ∈ Es, e.1 ≠ tp) :
    HeapOk K q len ((tp, .tup [.ref x, .int (p : Int) ti]) :: (x, kiE K.C d (.ref (q p))) :: (d, .raw emptyDict) :: Es)
      (pushF (fun v u => ltp (kyf len (fun v => if v = .ref tp then p else pk v) v) (kyf len (fun v => if v = .ref tp then p else pk v) u)) hv (.ref tp)) (ps ++ [p]) (fun v => if v = .ref tp then p else pk v) := by
  have hne : ∀ v ∈ hv, v ≠ .ref tp := fun v hv' e => by
    obtain ⟨tp', x', d', ti', e', h1, h2, h3⟩ := H.at' v hv'
    rw [e] at e'
    injection e' with e'
    exact hf _ h1 e'.symm
  have hpk : ∀ v ∈ hv, (if v = .ref tp then p else pk v) = pk v := fun v hv' => by rw [if_neg (hne v hv')]
  have H0 : Hp (fun v u => ltp (kyf len (fun v => if v = .ref tp then p else pk v) v) (kyf len (fun v => if v = .ref tp then p else pk v) u)) 0 hv := H.hp.congr fun a ha b hb => by
    unfold kyf; dsimp only; rw [hpk a ha, hpk b hb]
  obtain ⟨q1, q2⟩ := push_heap (ltp_lts (kyf len fun v => if v = .ref tp then p else pk v)) (x := .ref tp) H0
  refine ⟨?_, fun v hv' => ?_, q1⟩
  · refine (q2.map _).trans ?_
    rw [List.map_append, List.map_congr_left hpk, List.map_cons, List.map_nil, if_pos rfl]
    exact H.perm.append_right _
  · rcases List.mem_append.mp (q2.mem_iff.mp hv') with hm | hm
    · rw [hpk v hm]
      exact (H.at' v hm).mono fun e he => .tail _ (.tail _ (.tail _ he))
    · rcases List.mem_singleton.mp hm with rfl
      rw [if_pos rfl]
      exact ⟨tp, x, d, ti, rfl, .head _, .tail _ (.head _), .tail _ (.tail _ (.head _))⟩
section
variable {prog : Program} {w : World} {A : Around} {σ : Shared} {h₀ : Heap} {N : Led} {s : Shared} {env : Env} {E : Value → Shared → Prop} {mg mb : Str → Option Value} {n : Nat} {ad : Ads}
theorem w1 {L a c : Addr} {m : Str → Option Value} {Q : Flow → Shared → Prop} (S : St σ h₀ ((L, .ns m) :: N) s)
    (h : ∀ s' hl, St σ h₀ ((L, .ns fun y => if y = "heap" then some (.ref hl) else m y) :: (hl, .lst []) :: N) s' → Q .next s') : wpAny (model prog w) A (exec (wst 1) (lenv L a c)) Q NoE s := by
  show wpAny _ _ (exec (.Assign [.Name _ _] _ _) _) _ _ _
  repeat walk_at "nc"
  rename_i S'
  exact h _ _ (S'.sel (by walk_at "sel"))
theorem Cmp.mono {V : Led} {el : Value → Prop} {lt : Value → Value → Bool} {n n' : Nat} (C : Cmp prog w h₀ n V el lt) (h : n ≤ n') : Cmp prog w h₀ n' V el lt := fun A v u s Q R => C A v u s Q (R.le h)
theorem split_ne {pre post : Led} {a : Addr} {e : Ent} (nd : ((pre ++ (a, e) :: post).map (·.1)).Nodup) (p : Addr × Ent) (h : p ∈ pre ∨ p ∈ post) : p.1 ≠ a := by
  rw [List.map_append, List.map_cons] at nd
  obtain ⟨n1, n2, n3⟩ := List.nodup_append.mp nd
  rcases h with h | h
  · exact n3 p.1 (List.mem_map_of_mem h) a (.head _)
  · rintro rfl
    exact (List.nodup_cons.mp n2).1 (List.mem_map_of_mem (f := (·.1)) h)
theorem key_at {K : KD} {q0 q1 q2 : Addr} {u0 u1 u2 : List Value} {V Es : Led} {v : Value} {pk : Value → Nat} (hrow : ∀ p, (of3 q0 q1 q2 p, .lst (of3 u0 u1 u2 p)) ∈ V) (hz : ∀ p, (of3 u0 u1 u2 p).length < 1000) (hE : ∀ e ∈ Es, e ∈ V) (h : Pushed K (of3 q0 q1 q2) Es v (pk v)) :
    KeyAt V K.C (kyf (of3 u0.length u1.length u2.length) pk) v := by
  obtain ⟨tp, x, d, ti, e, h1, h2, h3⟩ := h
  refine ⟨tp, x, d, _, _, _, ti, e, hE _ h1, hE _ h2, hE _ h3, hrow _, by have := hz (pk v); omega, ?_⟩
  unfold kyf
  have : of3 u0.length u1.length u2.length (pk v) = (of3 u0 u1 u2 (pk v)).length := by
    unfold of3; split <;> rfl
  rw [this]
theorem push1 {K : KD} {q0 q1 q2 hl tp x d : Addr} {u0 u1 u2 hv : List Value} {Es B : Led} {e1 e2 e3 : Addr × Ent} {p : Nat} {t : Tok} {ps : List Nat} {pk : Value → Nat} {Q : Value → Shared → Prop}
    (S : St σ h₀ ((tp, .tup [.ref x, .int (p : Int) t]) :: (x, kiE K.C d (.ref (of3 q0 q1 q2 p))) :: (d, .raw emptyDict) :: e1 :: e2 :: e3 :: (hl, .lst hv) :: (Es ++ B)) s) (W : Wd ad mg mb h₀) (Rm : Room A 100) (hrow : ∀ p, (of3 q0 q1 q2 p, .lst (of3 u0 u1 u2 p)) ∈ B) (hz : ∀ p, (of3 u0 u1 u2 p).length < 1000)
    (hK : ∀ p ∈ K.led mg, p ∈ Es ++ B) (nd : ((K.led mg).map (·.1)).Nodup) (HO : HeapOk K (of3 q0 q1 q2) (of3 u0.length u1.length u2.length) Es hv ps pk) (zl : hv.length < 100)
    (h : ∀ s' hv' pk', HeapOk K (of3 q0 q1 q2) (of3 u0.length u1.length u2.length) ((tp, .tup [.ref x, .int (p : Int) t]) :: (x, kiE K.C d (.ref (of3 q0 q1 q2 p))) :: (d, .raw emptyDict) :: Es) hv' (ps ++ [p]) pk' →
      St σ h₀ ((tp, .tup [.ref x, .int (p : Int) t]) :: (x, kiE K.C d (.ref (of3 q0 q1 q2 p))) :: (d, .raw emptyDict) :: e1 :: e2 :: e3 :: (hl, .lst hv') :: (Es ++ B)) s' → Q .none s') :
    wpAny (model prog w) A (call (.ref ad.push) [.ref hl, .ref tp]) Q E s := by
  have nds := S.nd
  rw [List.map_cons, List.nodup_cons] at nds
  have Hn := HO.push (p := p) (tp := tp) (x := x) (d := d) (ti := t) (fun e he e' => nds.1 (by rw [← e']; exact List.mem_map_of_mem (f := (·.1)) (.tail _ (.tail _ (.tail _ (.tail _ (.tail _ (.tail _ (List.mem_append.mpr (.inl he)))))))) ))
  have hnh := split_ne (pre := [(tp, .tup [.ref x, .int (p : Int) t]), (x, kiE K.C d (.ref (of3 q0 q1 q2 p))), (d, .raw emptyDict), e1, e2, e3]) (post := Es ++ B) S.nd
  generalize hpk : (fun v => if v = Value.ref tp then p else pk v) = pk' at Hn
  have hpk1 : ∀ v ∈ hv, Pushed K (of3 q0 q1 q2) ((tp, .tup [.ref x, .int (p : Int) t]) :: (x, kiE K.C d (.ref (of3 q0 q1 q2 p))) :: (d, .raw emptyDict) :: Es) v (pk' v) := fun v hv' => by
    refine Hn.at' v ?_
    have T := ltp_lts (kyf (of3 u0.length u1.length u2.length) pk')
    have q2 := (sdn_perm (lt := fun v u => ltp (kyf (of3 u0.length u1.length u2.length) pk' v) (kyf (of3 u0.length u1.length u2.length) pk' u)) (st := 0) (x := .ref tp) hv.length (hv ++ [.ref tp]) hv.length (by simp))
    unfold pushF
    rw [q2.mem_iff, List.set_append_right _ _ (Nat.le_refl _)]
    exact List.mem_append.mpr (.inl hv')
  have hpk2 : Pushed K (of3 q0 q1 q2) ((tp, .tup [.ref x, .int (p : Int) t]) :: (x, kiE K.C d (.ref (of3 q0 q1 q2 p))) :: (d, .raw emptyDict) :: Es) (.ref tp) (pk' (.ref tp)) := by
    rw [← hpk]; dsimp only; rw [if_pos rfl]
    exact ⟨tp, x, d, t, rfl, .head _, .tail _ (.head _), .tail _ (.tail _ (.head _))⟩
  have hE : ∀ e ∈ (tp, Ent.tup [.ref x, .int (p : Int) t]) :: (x, kiE K.C d (.ref (of3 q0 q1 q2 p))) :: (d, .raw emptyDict) :: Es, e ∈ (tp, Ent.tup [.ref x, .int (p : Int) t]) :: (x, kiE K.C d (.ref (of3 q0 q1 q2 p))) :: (d, .raw emptyDict) :: (Es ++ B) := fun e he => by
    have : e ∈ ((tp, Ent.tup [.ref x, .int (p : Int) t]) :: (x, kiE K.C d (.ref (of3 q0 q1 q2 p))) :: (d, .raw emptyDict) :: Es) ++ B := List.mem_append.mpr (.inl he)
    exact this
  have hrow' : ∀ p', (of3 q0 q1 q2 p', .lst (of3 u0 u1 u2 p')) ∈ (tp, Ent.tup [.ref x, .int (p : Int) t]) :: (x, kiE K.C d (.ref (of3 q0 q1 q2 p))) :: (d, .raw emptyDict) :: (Es ++ B) := fun p' => .tail _ (.tail _ (.tail _ (List.mem_append.mpr (.inr (hrow p')))))
  refine heappush_spec (n := 8) (V := (tp, .tup [.ref x, .int (p : Int) t]) :: (x, kiE K.C d (.ref (of3 q0 q1 q2 p))) :: (d, .raw emptyDict) :: (Es ++ B)) (lt := fun v u => ltp (kyf (of3 u0.length u1.length u2.length) pk' v) (kyf (of3 u0.length u1.length u2.length) pk' u))
    (el := KeyAt ((tp, .tup [.ref x, .int (p : Int) t]) :: (x, kiE K.C d (.ref (of3 q0 q1 q2 p))) :: (d, .raw emptyDict) :: (Es ++ B)) K.C (kyf (of3 u0.length u1.length u2.length) pk')) S W (Rm.le (by decide))
    (fun n' hn' => (KD.cmp W.G (W.nb _ (by decide)) (fun e he => .tail _ (.tail _ (.tail _ (hK e he)))) nd).mono hn') (.tail (.tail (.tail (.tail (.tail (.tail .head)))))) ?_ ?_ ?_ (by omega) ?_
  · intro e he
    rcases List.mem_cons.mp he with rfl | he
    · exact ⟨.head _, hnh _ (.inl (.head _))⟩
    rcases List.mem_cons.mp he with rfl | he
    · exact ⟨.tail _ (.head _), hnh _ (.inl (.tail _ (.head _)))⟩
    rcases List.mem_cons.mp he with rfl | he
    · exact ⟨.tail _ (.tail _ (.head _)), hnh _ (.inl (.tail _ (.tail _ (.head _))))⟩
    exact ⟨.tail _ (.tail _ (.tail _ (.tail _ (.tail _ (.tail _ (.tail _ he)))))), hnh _ (.inr he)⟩
  · intro v hv'
    exact key_at hrow' hz hE (hpk1 v hv')
  · exact key_at hrow' hz hE hpk2
  · intro s8 S8
    exact h _ _ _ Hn S8
inductive JW (K : KD) (L q0 q1 q2 hl : Addr) (m : Str → Option Value) (k : Int) (len : Nat → Nat) (B : Led) (i : Nat) : Led → Prop
  | mk (y3 : Option Value) (hv : List Value) (Es : Led) (pk : Value → Nat) (HO : HeapOk K (of3 q0 q1 q2) len Es hv (psF k i) pk) : JW K L q0 q1 q2 hl m k len B i ((L, .ns m) :: (L + 3, .cel y3) :: (hl, .lst hv) :: (Es ++ B))
set_option maxHeartbeats 1000000 in
theorem w2 {L a c td q0 q1 q2 hl : Addr} {K : KD} {m : Str → Option Value} {k : Int} {tw : Tok} {y3 : Option Value} {u0 u1 u2 : List Value} {Q : Flow → Shared → Prop}
    (S : St σ h₀ ((L, .ns m) :: (L + 3, .cel y3) :: (hl, .lst []) :: (L + 4, .cel (some (.ref td))) :: (L + 5, .cel (some (.int k tw))) :: (td, .lst [.ref q0, .ref q1, .ref q2]) :: (q0, .lst u0) :: (q1, .lst u1) :: (q2, .lst u2) :: N) s) (W : Wd ad mg mb h₀) (Rm : Room A 200)
    (hK : ∀ p ∈ K.led mg, p ∈ N) (nd : ((K.led mg).map (·.1)).Nodup) (hh : m "heap" = some (.ref hl)) (hb : m "by_length" = some (.ref K.C)) (z0 : u0.length < 1000) (z1 : u1.length < 1000) (z2 : u2.length < 1000)
    (h : ∀ s' y3' hv Es pk, HeapOk K (of3 q0 q1 q2) (of3 u0.length u1.length u2.length) Es hv (psF k 3) pk → St σ h₀ ((L, .ns m) :: (L + 3, .cel y3') :: (hl, .lst hv) :: (Es ++ (L + 4, .cel (some (.ref td))) :: (L + 5, .cel (some (.int k tw))) :: (td, .lst [.ref q0, .ref q1, .ref q2]) :: (q0, .lst u0) :: (q1, .lst u1) :: (q2, .lst u2) :: N)) s' → Q .next s') :
    wpAny (model prog w) A (exec (wst 2) (lenv L a c)) Q NoE s := by
  show wpAny _ _ (exec (.For _ _ _ _ _) _) _ _ _
  repeat walk_at "nc"
  refine iter_r (k := 3) (by walk_at "st") (.head _) (by decide) (by decide) (by decide) ?_
  intro s1 I hI S1
  have S2 : St σ h₀ ((I, rgE 0 1 3 0) :: (L, .ns m) :: (L + 3, .cel y3) :: (hl, .lst []) :: ([] ++ (L + 4, .cel (some (.ref td))) :: (L + 5, .cel (some (.int k tw))) :: (td, .lst [.ref q0, .ref q1, .ref q2]) :: (q0, .lst u0) :: (q1, .lst u1) :: (q2, .lst u2) :: N)) s1 := S1.sel (by walk_at "sel")
  generalize hB : ((L + 4, Ent.cel (some (.ref td))) :: (L + 5, .cel (some (.int k tw))) :: (td, .lst [.ref q0, .ref q1, .ref q2]) :: (q0, .lst u0) :: (q1, .lst u1) :: (q2, .lst u2) :: N) = B at S2 h
  refine forloop (draw_range Rm.h I 0 1 3) (fun i N' => JW K L q0 q1 q2 hl m k (of3 u0.length u1.length u2.length) B i N') S2 ⟨_, _, [], fun _ => 0, ⟨.refl _, fun v h => (by cases h), fun i hi => (by cases hi)⟩⟩ (fun _ _ _ => trivial) ?_ ?_
  · rintro i N' v s4 hi hJ ⟨t, rfl⟩ S4
    refine hideQ fun QA hA => ?_
    obtain ⟨y3', hv, Es, pk, HO⟩ := hJ
    have b1 : (L + 4, .cel (some (.ref td))) ∈ Es ++ B := List.mem_append.mpr (.inr (by rw [← hB]; walk_at "mem"))
    have b2 : (L + 5, .cel (some (.int k tw))) ∈ Es ++ B := List.mem_append.mpr (.inr (by rw [← hB]; walk_at "mem"))
    have b3 : (td, .lst [.ref q0, .ref q1, .ref q2]) ∈ Es ++ B := List.mem_append.mpr (.inr (by rw [← hB]; walk_at "mem"))
    have hKB : ∀ p ∈ K.led mg, p ∈ Es ++ B := fun p hp => List.mem_append.mpr (.inr (by rw [← hB]; exact .tail _ (.tail _ (.tail _ (.tail _ (.tail _ (.tail _ (hK p hp))))))))
    have hKE : ∀ {e1 e2 e3 e4 : Addr × Ent}, ∀ p ∈ K.led mg, p ∈ e1 :: e2 :: e3 :: e4 :: (Es ++ B) := fun p hp => .tail _ (.tail _ (.tail _ (.tail _ (hKB p hp))))
    have hrow : ∀ p, (of3 q0 q1 q2 p, .lst (of3 u0 u1 u2 p)) ∈ B := fun p => by
      rw [← hB]; unfold of3; split <;> walk_at "mem"
    have hzz : ∀ p, (of3 u0 u1 u2 p).length < 1000 := fun p => by unfold of3; split <;> assumption
    rw [show (0 : Int) + (i : Int) * 1 = (i : Int) from by omega]
    walk_at "nc"
    refine hA _ _ ?_
    refine hideQ fun Q' hQ => ?_
    clear hA
    repeat walk_at "nc"
    refine pow2_i (by walk_at "st") hi ?_
    intro sp tp Sp
    refine fdivp_i (by walk_at "st") hi ?_
    intro sq tq Sq
    repeat walk_at "nc"
    refine P.eq_int (wpAny_truthy_bool ?_)
    show if (bitF i k) = true then _ else _
    cases hb' : bitF i k with
    | false =>
      refine ite_ff ?_
      repeat walk_at "nc"
      rename_i S'
      exact hQ _ _ ⟨_, ⟨_, _, Es, pk, by simpa [psF_succ, hb'] using HO⟩, S'⟩
    | true =>
      refine ite_tt ?_
      repeat walk_at "nc"
      rename_i S'
      refine Tuple_ ?_
      refine args_cons (he := rfl) (Call_ ?_)
      refine name_l S' (by walk_at "mem") hb ?_
      refine KD.make (e := .Subscript (.Name "told" _) (.Name "place" _) _) W (Rm.le (by decide)) S' hKE nd rfl (fun q => Subscript_ (name_c S' rfl (by walk_at "mem") (name_c S' rfl (by walk_at "mem") (sub_n i S' (by walk_at "mem") rfl (by exact hi) (by show (3 : Nat) < _; decide) (by rw [getD3 hi]; exact q))))) ?_
      intro s6 x d S6
      repeat walk_at "nc"
      refine newtuple S6 (by show (2 : Nat) ≤ _; decide) ?_
      intro s7 tp hf S7
      repeat walk_at "nc"
      refine ⟨S7.keep, ?_⟩
      have S7' : St σ h₀ ((tp, .tup [.ref x, .int (i : Int) t]) :: (x, kiE K.C d (.ref (of3 q0 q1 q2 i))) :: (d, .raw emptyDict) :: (I, rgE 0 1 3 (i + 1)) :: (L, .ns m) :: (L + 3, .cel (some (.int i t))) :: (hl, .lst hv) :: (Es ++ B)) s7 := S7
      refine push1 S7' W (Rm.le (by decide)) hrow hzz hKB nd HO (by have := HO.perm.length_eq; rw [List.length_map] at this; have := psF_len k i; omega) ?_
      intro s8 hv' pk' HO' S8
      repeat walk_at "nc"
      refine hQ _ _ ⟨_, ⟨_, _, (tp, .tup [.ref x, .int (i : Int) t]) :: (x, kiE K.C d (.ref (of3 q0 q1 q2 i))) :: (d, .raw emptyDict) :: Es, pk', ?_⟩, S8.sel (by show Sel (_ :: _ :: _ :: _ :: _ :: _ :: _ :: (Es ++ B)) _; walk_at "sel")⟩
      rw [psF_succ, hb', if_pos rfl]
      exact HO'
  · rintro N' s4 ⟨y3', hv, Es, pk, HO⟩ S4
    exact h _ _ _ _ _ HO S4
end
structure OutOk (len : Nat → Nat) (outs : List Nat) (hv : List Value) (pk : Value → Nat) (ps : List Nat) : Prop where
  perm : (outs ++ hv.map pk).Perm ps
  srt : outs.Pairwise fun a b => len a ≤ len b
  bnd : ∀ a ∈ outs, ∀ v ∈ hv, len a ≤ len (pk v)
theorem kyf_le {len : Nat → Nat} {pk : Value → Nat} {v u : Value} (h : ltp (kyf len pk v) (kyf len pk u) = false) : len (pk u) ≤ len (pk v) := by
  unfold ltp kyf at h
  dsimp only at h
  split at h
  · omega
  · simp at h; omega
theorem HeapOk.pop {K : KD} {q : Nat → Addr} {len : Nat → Nat} {Es : Led} {vs : List Value} {y : Value} {ps qs outs : List Nat} {pk : Value → Nat} (H : HeapOk K q len Es (vs ++ [y]) qs pk) (O : OutOk len outs (vs ++ [y]) pk ps) :
    HeapOk K q len Es (popF (fun v u => ltp (kyf len pk v) (kyf len pk u)) vs y).2 ((popF (fun v u => ltp (kyf len pk v) (kyf len pk u)) vs y).2.map pk) pk ∧
    OutOk len (outs ++ [pk (popF (fun v u => ltp (kyf len pk v) (kyf len pk u)) vs y).1]) (popF (fun v u => ltp (kyf len pk v) (kyf len pk u)) vs y).2 pk ps ∧ Pushed K q Es (popF (fun v u => ltp (kyf len pk v) (kyf len pk u)) vs y).1 (pk (popF (fun v u => ltp (kyf len pk v) (kyf len pk u)) vs y).1) ∧
    (popF (fun v u => ltp (kyf len pk v) (kyf len pk u)) vs y).2.length = vs.length := by
  obtain ⟨h1, h2, h3⟩ := pop_heap (ltp_lts (kyf len pk)) (ltp_irr (kyf len pk)) H.hp
  generalize popF (fun v u => ltp (kyf len pk v) (kyf len pk u)) vs y = r at *
  have hm : ∀ v, v = r.1 ∨ v ∈ r.2 → v ∈ vs ++ [y] := fun v hv => h2.mem_iff.mp (List.mem_cons.mpr hv)
  refine ⟨⟨.refl _, fun v hv => H.at' v (hm v (.inr hv)), h1⟩, ⟨?_, ?_, ?_⟩, H.at' _ (hm _ (.inl rfl)), ?_⟩
  · refine List.Perm.trans ?_ O.perm
    rw [List.append_assoc]
    refine List.Perm.append_left _ ?_
    exact h2.map pk
  · rw [List.pairwise_append]
    refine ⟨O.srt, List.pairwise_singleton _ _, fun a ha b hb => ?_⟩
    rcases List.mem_singleton.mp hb with rfl
    exact O.bnd a ha _ (hm _ (.inl rfl))
  · intro a ha v hv
    rcases List.mem_append.mp ha with ha | ha
    · exact O.bnd a ha v (hm v (.inr hv))
    · rcases List.mem_singleton.mp ha with rfl
      exact kyf_le (h3 v (hm v (.inr hv)))
  · have := h2.length_eq
    simp at this
    omega
section
variable {prog : Program} {w : World} {A : Around} {σ : Shared} {h₀ : Heap} {N : Led} {s : Shared} {env : Env} {E : Value → Shared → Prop} {mg mb : Str → Option Value} {n : Nat} {ad : Ads}
theorem w3 {L a c : Addr} {m : Str → Option Value} {Q : Flow → Shared → Prop} (S : St σ h₀ ((L, .ns m) :: N) s)
    (h : ∀ s' sh, St σ h₀ ((L, .ns fun y => if y = "short" then some (.ref sh) else m y) :: (sh, .lst []) :: N) s' → Q .next s') : wpAny (model prog w) A (exec (wst 3) (lenv L a c)) Q NoE s := by
  show wpAny _ _ (exec (.Assign [.Name _ _] _ _) _) _ _ _
  repeat walk_at "nc"
  rename_i S'
  exact h _ _ (S'.sel (by walk_at "sel"))
theorem ne_nil {l b : Addr} {vs : List Value} {Q : Value → Shared → Prop} (S : St σ h₀ N s) (hl : (l, .lst vs) ∈ N) (hb : (b, .lst []) ∈ N) (hu : A.units < cLine) (h : Q (.bool (!vs.isEmpty)) s) :
    wpAny (model prog w) A (compareOp .NotEq (.ref l) (.ref b)) Q E s := by
  show wpAny _ _ (richCompare .NotEq _ _) _ _ _
  cases vs with
  | nil => exact SeqAt.RcNeAt.lists (e := fun _ => true) (S.isList hl) (S.isList hb) rfl hu (fun k h1 h2 => by cases h1) _ _ _ _ h
  | cons v r => exact SeqAt.RcNeAt.lists_lengths (S.isList hl) (S.isList hb) rfl hu _ _ _ _ h
set_option maxHeartbeats 1000000 in
theorem w4 {L a c td q0 q1 q2 hl sh : Addr} {K : KD} {m : Str → Option Value} {u0 u1 u2 hv : List Value} {ps : List Nat} {Es B : Led} {pk : Value → Nat} {Q : Flow → Shared → Prop}
    (S : St σ h₀ ((L, .ns m) :: (hl, .lst hv) :: (sh, .lst []) :: (Es ++ B)) s) (W : Wd ad mg mb h₀) (Rm : Room A 200) (hT : (L + 4, .cel (some (.ref td))) ∈ B) (ht : (td, .lst [.ref q0, .ref q1, .ref q2]) ∈ B)
    (hK : ∀ p ∈ K.led mg, p ∈ Es ++ B) (nd : ((K.led mg).map (·.1)).Nodup) (hh : m "heap" = some (.ref hl)) (hs : m "short" = some (.ref sh)) (hrow : ∀ p, (of3 q0 q1 q2 p, .lst (of3 u0 u1 u2 p)) ∈ B) (hz : ∀ p, (of3 u0 u1 u2 p).length < 1000)
    (HO : HeapOk K (of3 q0 q1 q2) (of3 u0.length u1.length u2.length) Es hv ps pk) (hps : ∀ p ∈ ps, p < 3) (zp : ps.length ≤ 3)
    (h : ∀ s' (outs : List Nat), outs.Perm ps → outs.Pairwise (fun a b => of3 u0.length u1.length u2.length a ≤ of3 u0.length u1.length u2.length b) → St σ h₀ ((L, .ns m) :: (sh, .lst (outs.map fun p => .ref (of3 q0 q1 q2 p))) :: (Es ++ B)) s' → Q .next s') :
    wpAny (model prog w) A (exec (wst 4) (lenv L a c)) Q NoE s := by
  show wpAny _ _ (exec (.While _ _ _ _) _) _ _ _
  have hu : A.units < cLine := by have := Rm.u; omega
  have hO : OutOk (of3 u0.length u1.length u2.length) [] hv pk ps := ⟨HO.perm, .nil, fun a ha => by cases ha⟩
  refine while_x (fun k s => ∃ hv outs qs, hv.length = k ∧ HeapOk K (of3 q0 q1 q2) (of3 u0.length u1.length u2.length) Es hv qs pk ∧ OutOk (of3 u0.length u1.length u2.length) outs hv pk ps ∧ St σ h₀ ((L, .ns m) :: (hl, .lst hv) :: (sh, .lst (outs.map fun p => .ref (of3 q0 q1 q2 p))) :: (Es ++ B)) s)
    (fun s => ∃ outs, OutOk (of3 u0.length u1.length u2.length) outs [] pk ps ∧ St σ h₀ ((L, .ns m) :: (hl, .lst []) :: (sh, .lst (outs.map fun p => .ref (of3 q0 q1 q2 p))) :: (Es ++ B)) s) hv.length ⟨hv, [], _, rfl, HO, hO, S⟩ ?_ ?_
  · rintro k s1 ⟨hv, outs, qs, rfl, HO, hO, S1⟩
    repeat walk_at "nc"
    refine ne_nil (vs := hv) (by walk_at "st") (by walk_at "mem") (by walk_at "mem") hu ?_
    refine wpAny_truthy_bool ?_
    rename_i S2
    rcases List.eq_nil_or_concat hv with rfl | ⟨vs, y, rfl⟩
    · refine ite_ff ?_
      exact ⟨outs, hO, S2.sel (by walk_at "sel")⟩
    · rw [List.concat_eq_append] at *
      rw [show (!(vs ++ [y]).isEmpty) = true from by simp]
      refine ite_tt ?_
      have S3 : St σ h₀ ((L, .ns m) :: (hl, .lst (vs ++ [y])) :: (sh, .lst (outs.map fun p => .ref (of3 q0 q1 q2 p))) :: (Es ++ B)) _ := S2.sel (by walk_at "sel")
      clear S2
      have mT : (L + 4, .cel (some (.ref td))) ∈ Es ++ B := List.mem_append.mpr (.inr hT)
      have zv : (vs ++ [y]).length ≤ 3 := by
        have := hO.perm.length_eq
        rw [List.length_append, List.length_map] at this
        omega
      have zo : outs.length ≤ 3 := by
        have := hO.perm.length_eq
        rw [List.length_append] at this
        omega
      have hnh := split_ne (pre := [(L, .ns m)]) (a := hl) (e := .lst (vs ++ [y])) (post := (sh, .lst (outs.map fun p => .ref (of3 q0 q1 q2 p))) :: (Es ++ B)) S3.nd
      repeat walk_at "nc"
      refine ⟨S3.keep, ?_⟩
      have hE : ∀ e ∈ Es, e ∈ Es ++ B := fun e he => List.mem_append.mpr (.inl he)
      obtain ⟨HO', hO', hP, hlen⟩ := HO.pop hO
      refine heappop_spec (n := 8) (V := Es ++ B) (lt := fun v u => ltp (kyf (of3 u0.length u1.length u2.length) pk v) (kyf (of3 u0.length u1.length u2.length) pk u)) (el := KeyAt (Es ++ B) K.C (kyf (of3 u0.length u1.length u2.length) pk)) S3 W (Rm.le (by decide))
        (fun n' hn' => (KD.cmp W.G (W.nb _ (by decide)) hK nd).mono hn') (.tail .head) (fun e he => ⟨.tail _ (.tail _ (.tail _ he)), hnh e (.inr (.tail _ he))⟩) (fun v hv' => key_at (fun p => List.mem_append.mpr (.inr (hrow p))) hz hE (HO.at' v hv')) (by simp at zv; omega) ?_
      intro s4 S4
      generalize popF (fun v u => ltp (kyf (of3 u0.length u1.length u2.length) pk v) (kyf (of3 u0.length u1.length u2.length) pk u)) vs y = r at *
      obtain ⟨tp, x, d, ti, e, h1, h2, h3⟩ := hP
      have hp3 : pk r.1 < 3 := hps _ (hO'.perm.mem_iff.mp (by simp))
      rw [e]
      refine const_i S4 ?_
      intro s5 t5 S5
      have hT5 := S5.tup (a := tp) (.tail _ (.tail _ (.tail _ (hE _ h1))))
      refine PyProof.Rows.tail_any (T := "tuple") (ops := [.ref tp, .int 1 t5]) (by obtain ⟨o, ho, hc, _⟩ := hT5; exact ⟨o, ho, hc⟩) PySem.F.slot_tuple_getitem.lookup (getItem_tuple (j := 1) (x := .int (pk r.1 : Int) ti) hT5 (by decide) (by decide) rfl rfl ?_) (by with_unfolding_all rfl)
      refine sub_n (pk r.1) S5 (.tail _ (.tail _ (.tail _ (List.mem_append.mpr (.inr ht))))) rfl (by show pk r.1 < 3; exact hp3) (by show (3 : Nat) < _; decide) ?_
      have ev : [Value.ref q0, Value.ref q1, Value.ref q2].getD (pk r.1) .none = .ref (of3 q0 q1 q2 (pk r.1)) := by
        have : pk r.1 = 0 ∨ pk r.1 = 1 ∨ pk r.1 = 2 := by omega
        rcases this with e | e | e <;> rw [e] <;> rfl
      rw [ev]
      repeat walk_at "nc"
      refine append_l S5 (.tail (.tail .head)) (by rw [List.length_map]; simp [sizeLine]; omega) ?_
      intro s6 S6
      repeat walk_at "nc"
      refine ⟨r.2.length, by simp; omega, r.2, outs ++ [pk r.1], _, rfl, HO', hO', ?_⟩
      rw [List.map_append]
      exact S6
  · rintro s1 ⟨outs, hO, S1⟩
    exact h _ outs (by simpa using hO.perm) hO.srt (S1.sel (by walk_at "sel"))
end
section
variable {prog : Program} {w : World} {A : Around} {σ : Shared} {h₀ : Heap} {N : Led} {s : Shared} {env : Env} {E : Value → Shared → Prop} {mg mb : Str → Option Value} {n : Nat} {ad : Ads}
theorem sorted_l {l : Addr} {vs : List Value} {ns : List Int} {Q : Value → Shared → Prop} (S : St σ h₀ N s) (hm : (l, .lst vs) ∈ N) (hi : Ints vs ns) (hz : vs.length < 64)
    (h : ∀ s' l' vs' ns', Ints vs' ns' → Srt ns' ns → St σ h₀ ((l', .lst vs') :: N) s' → Q (.ref l') s') : wpAny (model prog w) A (call (.builtin "sorted") [.ref l]) Q E s := by
  refine sorted_ints (S.isList hm) hi.are hz fun out ns' a1 a2 a3 => ?_
  obtain ⟨e, he⟩ := sortedAll_at s.heap vs out
  exact h _ _ out.toList ns' (.of a1) ⟨a2, a3⟩ (S.new (tk := s.toks) (fun _ _ => sortedAll_old) (get?_above (Nat.le_succ _)) ⟨_, he, e, by simp [W.listOf, seqObj]⟩)
/-- [len(row) for row in l] -/
theorem comp_len {scope : Scope} {cl : List (Str × Addr)} {p1 p2 p3 px pos : Pos} {iter : Expr} {l I L a c : Addr} {q : Nat → Addr} {u : Nat → List Value} {ps : List Nat} {Q : Value → Shared → Prop} (S : St σ h₀ ((I, liE l 0) :: N) s) (W : Wd ad mg mb h₀) (Rm : Room A 100) (hm : (l, .lst (ps.map fun p => .ref (q p))) ∈ N) (hrow : ∀ p, (q p, .lst (u p)) ∈ N) (hz : ∀ p, (u p).length < 1000) (zp : ps.length ≤ 3)
    (hsc : scope = { kind := .function, names := [(".0", .local), ("row", .local), ("len", .globalImplicit)], isGenerator := false, isCoroutine := false })
    (h : ∀ s' D ys, Ints ys (ps.map fun p => ((u p).length : Int)) → St σ h₀ ((D, .lst ys) :: N) s' → Q (.ref D) s') :
    CompIn prog w A NoE (lenv L a c) scope cl (.Call (.Name "len" p1) [.Name "row" p2] [] p3) "row" px iter [] pos Q (.ref I) s := by
  subst hsc
  refine comp0 (draw_list Rm.h I l (ps.map fun p => .ref (q p))) self_l (fun i ys N' => N' = N ∧ Ints ys ((ps.take i).map fun p => ((u p).length : Int))) S ⟨rfl, .nil⟩ ?_ ?_ ?_ ?_
  · rintro i ys _ ⟨rfl, _⟩ N' hs
    exact hs.subset hm
  · rw [List.length_map]; simp [sizeLine]; omega
  · rintro C D i m' ys _ v s4 hi hyl ⟨rfl, hiy⟩ hv S4
    rw [List.getElem?_map, Option.map_eq_some_iff] at hv
    obtain ⟨p, hp, rfl⟩ := hv
    have hr := hrow p
    have hzp := hz p
    repeat walk_at "nc"
    rename_i S'
    rw [take_succ_get hp, List.map_append]
    exact ⟨_, _, ⟨rfl, hiy.snoc⟩, S'⟩
  · rintro D ys _ s4 ⟨rfl, hiy⟩ S4
    rw [List.length_map, List.take_length] at hiy
    exact h _ _ _ hiy S4
theorem srt_eq {a b : List Int} (h : a.Perm b) (ha : a.Pairwise (· ≤ ·)) (hb : b.Pairwise (· ≤ ·)) : a = b :=
  h.eq_of_pairwise (fun x y _ _ h1 h2 => Int.le_antisymm h1 h2) ha hb
set_option maxHeartbeats 1000000 in
theorem w5 {L a c ch sh q0 q1 q2 : Addr} {m : Str → Option Value} {u0 u1 u2 : List Value} {ps outs : List Nat} {Q : Flow → Shared → Prop} (S : St σ h₀ ((L, .ns m) :: (L + 6, .cel (some (.ref ch))) :: (ch, .lst (ps.map fun p => .ref (of3 q0 q1 q2 p))) :: (sh, .lst (outs.map fun p => .ref (of3 q0 q1 q2 p))) :: N) s)
    (W : Wd ad mg mb h₀) (Rm : Room A 200) (hs : m "short" = some (.ref sh)) (hrow : ∀ p, (of3 q0 q1 q2 p, .lst (of3 u0 u1 u2 p)) ∈ N) (hz : ∀ p, (of3 u0 u1 u2 p).length < 1000) (zp : ps.length ≤ 3) (hp : outs.Perm ps) (hsr : outs.Pairwise fun a b => of3 u0.length u1.length u2.length a ≤ of3 u0.length u1.length u2.length b)
    (h : ∀ s', St σ h₀ ((L, .ns m) :: (L + 6, .cel (some (.ref ch))) :: (ch, .lst (ps.map fun p => .ref (of3 q0 q1 q2 p))) :: (sh, .lst (outs.map fun p => .ref (of3 q0 q1 q2 p))) :: N) s' → Q .next s') :
    wpAny (model prog w) A (exec (wst 5) (lenv L a c)) Q NoE s := by
  show wpAny _ _ (exec (.If _ _ _ _) _) _ _ _
  have hu : A.units < cLine := by have := Rm.u; omega
  have zo : outs.length ≤ 3 := by rw [hp.length_eq]; exact zp
  repeat walk_at "nc"
  refine comp_open [] rfl ?_
  repeat walk_at "nc"
  refine iter_l S (by walk_at "mem") ?_
  intro s1 I1 hI1 S1
  refine comp_len (q := of3 q0 q1 q2) (u := of3 u0 u1 u2) (ps := outs) S1 W (Rm.le (by decide)) (by walk_at "mem") (fun p => .tail _ (.tail _ (.tail _ (.tail _ (hrow p))))) hz zo rfl ?_
  intro s2 D1 ys1 j1 S2
  repeat walk_at "nc"
  refine comp_open [] rfl ?_
  repeat walk_at "nc"
  refine iter_l S2 (by walk_at "mem") ?_
  intro s3 I3 hI3 S3
  refine comp_len (q := of3 q0 q1 q2) (u := of3 u0 u1 u2) (ps := ps) S3 W (Rm.le (by decide)) (by walk_at "mem") (fun p => .tail _ (.tail _ (.tail _ (.tail _ (.tail _ (hrow p)))))) hz zp rfl ?_
  intro s4 D4 ys4 j4 S4
  repeat walk_at "nc"
  refine sorted_l S4 (.head _) j4 (by rw [j4.length, List.length_map]; omega) ?_
  intro s5 D5 ys5 ns5 j5 p5 S5
  repeat walk_at "nc"
  refine ne_ints S5 (by walk_at "mem") (by walk_at "mem") j1 j5 hu ?_
  have el : ∀ p, of3 u0.length u1.length u2.length p = (of3 u0 u1 u2 p).length := fun p => by unfold of3; split <;> rfl
  have e : (outs.map fun p => ((of3 u0 u1 u2 p).length : Int)) = ns5 := by
    refine srt_eq ((hp.map _).trans p5.1.symm) ?_ p5.2
    rw [List.pairwise_map]
    refine hsr.imp fun {a b} hab => ?_
    rw [el, el] at hab
    omega
  rw [decide_eq_true e, show (!true) = false from rfl]
  repeat walk_at "nc"
  exact h _ (S5.sel (by walk_at "sel"))
end
section
variable {prog : Program} {w : World} {A : Around} {σ : Shared} {h₀ : Heap} {N : Led} {s : Shared} {env : Env} {E : Value → Shared → Prop} {mg mb : Str → Option Value} {n : Nat} {ad : Ads}
theorem sub_front {α : Type} {x : α} {R N' : List α} (h : (x :: R).Sublist N') : ∃ R', N'.Perm (x :: R') ∧ R.Sublist R' ∧ ∀ y, y ∈ N' → y = x ∨ y ∈ R' := by
  generalize hl : x :: R = l at h
  induction h with
  | slnil => cases hl
  | @cons l1 l2 b h ih =>
    obtain ⟨R', p1, p2, p3⟩ := ih hl
    refine ⟨b :: R', (p1.cons b).trans (.swap ..), p2.cons b, fun y hy => ?_⟩
    rcases List.mem_cons.mp hy with rfl | hy
    · exact .inr (.head _)
    · rcases p3 y hy with h | h
      · exact .inl h
      · exact .inr (.tail _ h)
  | @cons_cons l1 l2 b h ih =>
    cases hl
    exact ⟨l2, .refl _, h, fun y hy => List.mem_cons.mp hy⟩
theorem w6 {L a c sh q0 q1 q2 : Addr} {m : Str → Option Value} {u0 u1 u2 : List Value} {X0 X1 X2 : List Int} {o0 : Nat} {outs : List Nat} {Q : Flow → Shared → Prop} (S : St σ h₀ ((L, .ns m) :: (sh, .lst ((o0 :: outs).map fun p => .ref (of3 q0 q1 q2 p))) :: N) s)
    (W : Wd ad mg mb h₀) (Rm : Room A 200) (hs : m "short" = some (.ref sh)) (hrow : ∀ p, (of3 q0 q1 q2 p, .lst (of3 u0 u1 u2 p)) ∈ N) (hi : ∀ p, Ints (of3 u0 u1 u2 p) (of3 X0 X1 X2 p)) (hz : ∀ p, (of3 X0 X1 X2 p).length < 1000) (zo : outs.length ≤ 3)
    (h : ∀ s' cm vs R, Ints vs (outs.foldl (fun acc p => metN acc (of3 X0 X1 X2 p)) (of3 X0 X1 X2 o0)) → (cm, .lst vs) ∈ R → ((sh, .lst ((o0 :: outs).map fun p => .ref (of3 q0 q1 q2 p))) :: N).Sublist R → St σ h₀ ((L, .ns fun y => if y = "common" then some (.ref cm) else m y) :: R) s' → Q .next s') :
    wpAny (model prog w) A (exec (wst 6) (lenv L a c)) Q NoE s := by
  show wpAny _ _ (exec (.Assign [.Name _ _] _ _) _) _ _ _
  repeat walk_at "nc"
  obtain ⟨o, pm, cd, doc, T, to, n, f1, f2, f3⟩ := W.rdF
  refine callWith_def (o := o) f2 ?_
  repeat walk_at "nc"
  refine ⟨S.keep _ _ f1, ?_⟩
  have ra : ∀ p, RowAt ((L, .ns m) :: (sh, .lst ((o0 :: outs).map fun p => .ref (of3 q0 q1 q2 p))) :: N) (.ref (of3 q0 q1 q2 p)) (of3 X0 X1 X2 p) := fun p => ⟨_, _, rfl, .tail _ (.tail _ (hrow p)), hi p, by have := hz p; omega⟩
  refine reduce_spec (n := 100) (v0 := .ref (of3 q0 q1 q2 o0)) (vs := outs.map fun p => .ref (of3 q0 q1 q2 p)) (n0 := of3 X0 X1 X2 o0) (nss := outs.map fun p => of3 X0 X1 X2 p) S W (Rm.le (by decide)) (by walk_at "mem") (ra o0) ?_ (by rw [List.length_map]; omega) ?_
  · intro i v hv
    rw [List.getElem?_map, Option.map_eq_some_iff] at hv
    obtain ⟨p, hp, rfl⟩ := hv
    exact ⟨_, by rw [List.getElem?_map, hp]; rfl, ra p⟩
  intro s1 v N' hsub ⟨cm, vs, hv, hm, hiv, _⟩ S1
  rw [show (outs.map fun p => of3 X0 X1 X2 p).take (outs.map fun p => Value.ref (of3 q0 q1 q2 p)).length = outs.map fun p => of3 X0 X1 X2 p from by rw [List.length_map]; exact List.take_of_length_le (by rw [List.length_map]; exact Nat.le_refl _), List.foldl_map] at hiv
  subst hv
  obtain ⟨R', p1, p2, p3⟩ := sub_front hsub
  have S2 := S1.perm p1.symm
  have hcm : (cm, .lst vs) ∈ R' := by
    rcases p3 _ hm with e | e
    · cases e
    · exact e
  refine store_l S2 .head ?_
  intro s3 S3
  exact h _ _ _ _ hiv hcm p2 S3
end
abbrev sc1 : Scope := { kind := .function, names := [(".0", .local), ("number", .cell), ("chosen", .free)], isGenerator := false, isCoroutine := false }
abbrev sc2 : Scope := { kind := .function, names := [(".0", .local), ("row", .local), ("number", .free)], isGenerator := false, isCoroutine := false }
section
variable {prog : Program} {w : World} {A : Around} {σ : Shared} {h₀ : Heap} {N : Led} {s : Shared} {env : Env} {E : Value → Shared → Prop} {mg mb : Str → Option Value} {n : Nat} {ad : Ads}
/-- the environment of a comprehension over numbers -/
abbrev nenv (L a c cn C0 : Addr) : Env := compEnvC sc1 [("number", cn), ("chosen", L + 6)] C0 (lenv L a c)
/-- [row for row in chosen if number not in row] -/
theorem comp_nin {p1 p2 p3 p4 px pos : Pos} {iter : Expr} {ch I L a c cn C0 : Addr} {q : Nat → Addr} {u : Nat → List Value} {X : Nat → List Int} {k : Int} {tk : Tok} {ps : List Nat} {Q : Value → Shared → Prop} (S : St σ h₀ ((I, liE ch 0) :: N) s) (Rm : Room A 100) (hm : (ch, .lst (ps.map fun p => .ref (q p))) ∈ N) (hn : (cn, .cel (some (.int k tk))) ∈ N) (hrow : ∀ p, (q p, .lst (u p)) ∈ N) (hi : ∀ p, Ints (u p) (X p)) (zp : ps.length ≤ 3)
    (h : ∀ s' D, St σ h₀ ((D, .lst ((ps.filter fun p => !(X p).any (· == k)).map fun p => .ref (q p))) :: N) s' → Q (.ref D) s') :
    CompIn prog w A NoE (nenv L a c cn C0) sc2 [("number", cn)] (.Name "row" p1) "row" px iter [.Compare (.Name "number" p2) [.NotIn] [.Name "row" p3] p4] pos Q (.ref I) s := by
  refine comp0 (draw_list Rm.h I ch (ps.map fun p => .ref (q p))) self_l (fun i ys N' => N' = N ∧ ys = ((ps.take i).filter fun p => !(X p).any (· == k)).map fun p => .ref (q p)) S ⟨rfl, rfl⟩ ?_ ?_ ?_ ?_
  · rintro i ys _ ⟨rfl, _⟩ N' hs
    exact hs.subset hm
  · rw [List.length_map]; simp [sizeLine]; omega
  · rintro C D i m' ys _ v s4 hi' hyl ⟨rfl, rfl⟩ hv S4
    rw [List.getElem?_map, Option.map_eq_some_iff] at hv
    obtain ⟨p, hp, rfl⟩ := hv
    have hr := hrow p
    have hip := hi p
    repeat walk_at "nc"
    rw [filter_step hp]
    rename_i S'
    by_cases hb : (!(X p).any fun x => x == k) = true
    · rw [if_pos hb, if_pos hb]
      repeat walk_at "nc"
      exact ⟨_, _, ⟨rfl, by rw [List.map_append]; rfl⟩, S'⟩
    · rw [if_neg hb, if_neg hb, List.append_nil]
      exact ⟨_, _, ⟨rfl, rfl⟩, S'⟩
  · rintro D ys _ s4 ⟨rfl, rfl⟩ S4
    rw [List.length_map, List.take_length] at S4
    exact h _ _ S4
theorem eq_nil {l b : Addr} {vs : List Value} {Q : Value → Shared → Prop} (S : St σ h₀ N s) (hl : (l, .lst vs) ∈ N) (hb : (b, .lst []) ∈ N) (hu : A.units < cLine) (h : Q (.bool vs.isEmpty) s) :
    wpAny (model prog w) A (compareOp .Eq (.ref l) (.ref b)) Q E s := by
  cases vs with
  | nil => exact SeqAt.eq_listAt (e := fun _ => true) (S.isList hl) (S.isList hb) rfl hu (fun k h1 h2 => by cases h1) h
  | cons v r => exact SeqAt.eq_list_lengthsAt (S.isList hl) (S.isList hb) rfl hu h
/-- [number for number in l if [row for row in chosen if number not in row] op []] -/
theorem comp_num {op : CmpOp} {f : Bool → Bool} {p1 p2 p3 p4 p5 p6 p7 p8 p9 px py pos : Pos} {iter : Expr} {ch l I L a c : Addr} {q : Nat → Addr} {u : Nat → List Value} {X : Nat → List Int} {ps : List Nat} {vl : List Value} {nl : List Int} {Q : Value → Shared → Prop}
    (hcmp : ∀ (N : Led) (s : Shared) (l b : Addr) (vs : List Value) (Q : Value → Shared → Prop), St σ h₀ N s → (l, .lst vs) ∈ N → (b, .lst []) ∈ N → Q (.bool (f vs.isEmpty)) s → wpAny (model prog w) A (compareOp op (.ref l) (.ref b)) Q NoE s)
    (S : St σ h₀ ((I, liE l 0) :: N) s) (Rm : Room A 100) (hl : (l, .lst vl) ∈ N) (il : Ints vl nl) (zl : nl.length < 1000) (hm : (ch, .lst (ps.map fun p => .ref (q p))) ∈ N) (hc : (L + 6, .cel (some (.ref ch))) ∈ N) (hrow : ∀ p, (q p, .lst (u p)) ∈ N) (hi : ∀ p, Ints (u p) (X p)) (zp : ps.length ≤ 3)
    (hmk : behindInMarks op (.List [] p8) = false)
    (h : ∀ s' D ys, Ints ys (nl.filter fun k => f (ps.filter fun p => !(X p).any (· == k)).isEmpty) → St σ h₀ ((D, .lst ys) :: N) s' → Q (.ref D) s') :
    CompIn prog w A NoE (lenv L a c) sc1 [("chosen", L + 6)] (.Name "number" p1) "number" px iter [.Compare (.ListComp (.Name "row" p2) [⟨.Name "row" py, .Name "chosen" p3, [.Compare (.Name "number" p4) [.NotIn] [.Name "row" p5] p6], 0⟩] sc2 p7) [op] [.List [] p8] p9] pos Q (.ref I) s := by
  refine comp1 (draw_list Rm.h I l vl) self_l (fun i ys N' => N' = N ∧ Ints ys ((nl.take i).filter fun k => f (ps.filter fun p => !(X p).any (· == k)).isEmpty)) S "number" ⟨rfl, .nil⟩ ?_ ?_ ?_ ?_
  · rintro i ys _ ⟨rfl, _⟩ N' hs
    exact hs.subset hl
  · rw [il.length]; simp [sizeLine]; omega
  · rintro C D cn i m' x ys _ v s4 hi' hyl ⟨rfl, hiy⟩ hv S4
    obtain ⟨k, t, hk, rfl⟩ := il.look hv
    repeat walk_at "nc"
    rename_i S5
    refine comp_open [("number", cn)] rfl ?_
    repeat walk_at "nc"
    refine iter_l S5 (.tail _ (.tail _ (.tail _ (.tail _ hm)))) ?_
    intro s6 I6 hI6 S6
    refine comp_nin (q := q) (u := u) (X := X) (k := k) (tk := t) (ps := ps) S6 Rm (.tail _ (.tail _ (.tail _ (.tail _ hm)))) (by walk_at "mem") (fun p => .tail _ (.tail _ (.tail _ (.tail _ (hrow p))))) hi zp ?_
    intro s7 D7 S7
    repeat walk_at "nc"
    rename_i S8
    refine hcmp _ _ _ _ _ _ S8 (.tail _ (.head _)) (.head _) ?_
    refine wpAny_truthy_bool ?_
    rw [filter_step hk, List.isEmpty_map]
    have S9 : St σ h₀ ((I, liE l (i + 1)) :: (C, .ns m') :: (D, .lst ys) :: (cn, .cel (some (.int k t))) :: _) _ := S8.sub (.cons _ (.cons _ (.refl _)))
    by_cases hb : f (ps.filter fun p => !(X p).any fun x => x == k).isEmpty = true
    · rw [if_pos hb, if_pos hb]
      repeat walk_at "nc"
      exact ⟨_, _, _, ⟨rfl, hiy.snoc⟩, S9⟩
    · rw [if_neg hb, if_neg hb, List.append_nil]
      exact ⟨_, _, _, ⟨rfl, hiy⟩, S9⟩
  · rintro D ys _ s4 ⟨rfl, hiy⟩ S4
    rw [il.length, List.take_length] at hiy
    exact h _ _ _ hiy S4
end
section
variable {prog : Program} {w : World} {A : Around} {σ : Shared} {h₀ : Heap} {N : Led} {s : Shared} {env : Env} {E : Value → Shared → Prop} {mg mb : Str → Option Value} {n : Nat} {ad : Ads}
set_option maxHeartbeats 1000000 in
theorem w7 {L a c ch cm : Addr} {m : Str → Option Value} {q : Nat → Addr} {u : Nat → List Value} {X : Nat → List Int} {p0 : Nat} {ps : List Nat} {vs : List Value} {CM : List Int} {R : Led} {Q : Flow → Shared → Prop} (S : St σ h₀ ((L, .ns m) :: R) s)
    (W : Wd ad mg mb h₀) (Rm : Room A 200) (hm : m "common" = some (.ref cm)) (hc : (cm, .lst vs) ∈ R) (iC : Ints vs CM) (zC : CM.length < 1000) (h6 : (L + 6, .cel (some (.ref ch))) ∈ R) (hch : (ch, .lst ((p0 :: ps).map fun p => .ref (q p))) ∈ R) (hrow : ∀ p, (q p, .lst (u p)) ∈ R) (hi : ∀ p, Ints (u p) (X p)) (hz : ∀ p, (X p).length < 1000) (zp : (p0 :: ps).length ≤ 3)
    (hA : (CM.filter fun k => !((p0 :: ps).filter fun p => !(X p).any (· == k)).isEmpty) = []) (hB : CM.length = ((X p0).filter fun k => ((p0 :: ps).filter fun p => !(X p).any (· == k)).isEmpty).length)
    (h : ∀ s', St σ h₀ ((L, .ns m) :: R) s' → Q .next s') : wpAny (model prog w) A (exec (wst 7) (lenv L a c)) Q NoE s := by
  show wpAny _ _ (exec (.If _ _ _ _) _) _ _ _
  have hu : A.units < cLine := by have := Rm.u; omega
  repeat walk_at "nc"
  refine comp_open [("chosen", L + 6)] rfl ?_
  repeat walk_at "nc"
  refine iter_l S (.tail _ hc) ?_
  intro s1 I1 hI1 S1
  refine comp_num (f := fun b => !b) (op := .NotEq) (q := q) (u := u) (X := X) (ps := p0 :: ps) (fun N s l b vs Q S hl hb h => ne_nil S hl hb hu h) S1 (Rm.le (by decide)) (.tail _ hc) iC zC (.tail _ hch) (.tail _ h6) (fun p => .tail _ (hrow p)) hi zp rfl ?_
  intro s2 D2 ys2 i2 S2
  rw [hA] at i2
  cases i2
  repeat walk_at "nc"
  rename_i S3
  refine ne_nil (vs := []) S3 (.tail _ (.head _)) (.head _) hu ?_
  show wpAny _ _ (truthy (.bool false)) _ _ _
  repeat walk_at "nc"
  have hc3 : (cm, .lst vs) ∈ R := hc
  have zv : vs.length < 1000 := by rw [iC.length]; exact zC
  repeat walk_at "nc"
  rename_i S4
  refine comp_open [("chosen", L + 6)] rfl ?_
  repeat walk_at "nc"
  rename_i S5
  have zc : ((p0 :: ps).map fun p => Value.ref (q p)).length ≤ 3 := by rw [List.length_map]; exact zp
  refine sub_n 0 S5 (.tail _ (.tail _ (.tail _ hch))) rfl (by simp) (by omega) ?_
  show wpAny _ _ (pyIter (.ref (q p0))) _ _ _
  refine iter_l S5 (.tail _ (.tail _ (.tail _ (hrow p0)))) ?_
  intro s6 I6 hI6 S6
  refine comp_num (f := fun b => b) (op := .Eq) (q := q) (u := u) (X := X) (ps := p0 :: ps) (fun N s l b vs Q S hl hb h => eq_nil S hl hb hu h) S6 (Rm.le (by decide)) (.tail _ (.tail _ (.tail _ (hrow p0)))) (hi p0) (hz p0) (.tail _ (.tail _ (.tail _ hch))) (.tail _ (.tail _ (.tail _ h6))) (fun p => .tail _ (.tail _ (.tail _ (hrow p)))) hi zp rfl ?_
  intro s7 D7 ys7 i7 S7
  have z7 : ys7.length < 1000 := by
    rw [i7.length, ← hB]; exact zC
  repeat walk_at "nc"
  refine P.ne_int ?_
  rw [iC.length, i7.length, hB, show ((((X p0).filter fun k => ((p0 :: ps).filter fun p => !(X p).any (· == k)).isEmpty).length : Int) != (((X p0).filter fun k => ((p0 :: ps).filter fun p => !(X p).any (· == k)).isEmpty).length : Int)) = false from by simp]
  repeat walk_at "nc"
  rename_i S8
  exact h _ (S8.sub (.cons _ (.cons _ (.cons _ (.refl _)))))
end
section
variable {prog : Program} {w : World} {A : Around} {σ : Shared} {h₀ : Heap} {N : Led} {s : Shared} {env : Env} {E : Value → Shared → Prop} {mg mb : Str → Option Value} {n : Nat} {ad : Ads}
theorem w8 {L a c ch cm : Addr} {m : Str → Option Value} {vc vs : List Value} {T : Int} {tt : Tok} {R : Led} {Q : Flow → Shared → Prop} (S : St σ h₀ ((L, .ns m) :: R) s)
    (W : Wd ad mg mb h₀) (Rm : Room A 200) (hm : m "common" = some (.ref cm)) (ht : m "total" = some (.int T tt)) (hc : (cm, .lst vs) ∈ R) (zC : vs.length < 1000) (h6 : (L + 6, .cel (some (.ref ch))) ∈ R) (hch : (ch, .lst vc) ∈ R) (zc : vc.length < 1000)
    (h : ∀ s' t', St σ h₀ ((L, .ns fun y => if y = "total" then some (.int (T + if (vc.length : Int) % 2 == 1 then (vs.length : Int) else -(vs.length : Int)) t') else m y) :: R) s' → Q .next s') : wpAny (model prog w) A (exec (wst 8) (lenv L a c)) Q NoE s := by
  show wpAny _ _ (exec (.AugAssign (.Name _ _) _ _ _) _) _ _ _
  repeat walk_at "nc"
  refine wpAny_IfExp ?_
  repeat walk_at "nc"
  refine P.eq_int (wpAny_truthy_bool ?_)
  cases hb : ((vc.length : Int) % 2 == 1) with
  | true =>
    rw [hb, if_pos rfl] at h
    refine ite_tt ?_
    repeat walk_at "nc"
    rename_i S'
    exact h _ _ S'
  | false =>
    rw [hb, if_neg (by decide)] at h
    refine ite_ff ?_
    refine wpAny_UnaryOp ?_
    repeat walk_at "nc"
    rename_i S'
    refine P.neg_int ?_
    refine iadd_i S'.tok ?_
    intro s2 t2 S2
    repeat walk_at "nc"
    rename_i S3
    exact h _ _ S3
theorem law9 {L a c : Addr} {m : Str → Option Value} {Q : Flow → Shared → Prop} (S : St σ h₀ ((L, .ns m) :: N) s)
    (h : ∀ s' t, St σ h₀ ((L, .ns fun y => if y = "total" then some (.int 0 t) else m y) :: N) s' → Q .next s') : wpAny (model prog w) A (exec (lstm 9) (lenv L a c)) Q NoE s := by
  show wpAny _ _ (exec (.Assign [.Name _ _] _ _) _) _ _ _
  repeat walk_at "nc"
  rename_i S'
  exact h _ _ S'
end
/-- k stands in all rows of ps -/
def inAll (X : Nat → List Int) (ps : List Nat) (k : Int) : Bool := (ps.filter fun p => !(X p).any (· == k)).isEmpty
theorem inAll_iff {X : Nat → List Int} {ps : List Nat} {k : Int} : inAll X ps k = true ↔ ∀ p ∈ ps, k ∈ X p := by
  unfold inAll
  rw [List.isEmpty_iff, List.filter_eq_nil_iff]
  simp
def interL (X : Nat → List Int) (ps : List Nat) : Nat := match ps with
  | [] => 0
  | p0 :: _ => ((X p0).filter fun k => inAll X ps k).length
theorem mem_metN {a b : List Int} {k : Int} : k ∈ metN a b ↔ k ∈ a ∧ k ∈ b := by
  unfold metN
  rw [List.mem_filter]
  simp
theorem fold_met {X : Nat → List Int} : ∀ (ps : List Nat) (acc : List Int), acc.Nodup → (ps.foldl (fun acc p => metN acc (X p)) acc).Nodup ∧ (∀ k, k ∈ ps.foldl (fun acc p => metN acc (X p)) acc ↔ k ∈ acc ∧ ∀ p ∈ ps, k ∈ X p) ∧ (ps.foldl (fun acc p => metN acc (X p)) acc).length ≤ acc.length
  | [], acc, h => ⟨h, fun k => by simp, Nat.le_refl _⟩
  | p :: ps, acc, h => by
    obtain ⟨h1, h2, h3⟩ := fold_met (X := X) ps (metN acc (X p)) (h.sublist List.filter_sublist)
    refine ⟨h1, fun k => ?_, Nat.le_trans h3 (List.length_filter_le _ _)⟩
    rw [List.foldl_cons, h2, mem_metN]
    simp only [List.mem_cons, forall_eq_or_imp]
    constructor
    · rintro ⟨⟨a, b⟩, c⟩; exact ⟨a, b, c⟩
    · rintro ⟨a, b, c⟩; exact ⟨⟨a, b⟩, c⟩
theorem nodup_len {a b : List Int} (ha : a.Nodup) (hb : b.Nodup) (h : ∀ k, k ∈ a ↔ k ∈ b) : a.length = b.length :=
  Nat.le_antisymm (ha.length_le_of_subset fun k hk => (h k).mp hk) (hb.length_le_of_subset fun k hk => (h k).mpr hk)
theorem common_facts {X : Nat → List Int} (hX : ∀ p, (X p).Nodup) {p0 o0 : Nat} {ps outs : List Nat} (hp : (o0 :: outs).Perm (p0 :: ps)) :
    ((outs.foldl (fun acc p => metN acc (X p)) (X o0)).filter fun k => !((p0 :: ps).filter fun p => !(X p).any (· == k)).isEmpty) = [] ∧
    (outs.foldl (fun acc p => metN acc (X p)) (X o0)).length = ((X p0).filter fun k => ((p0 :: ps).filter fun p => !(X p).any (· == k)).isEmpty).length := by
  obtain ⟨h1, h2, h3⟩ := fold_met (X := X) outs (X o0) (hX o0)
  have hall : ∀ k, k ∈ outs.foldl (fun acc p => metN acc (X p)) (X o0) ↔ ∀ p ∈ p0 :: ps, k ∈ X p := fun k => by
    rw [h2]
    constructor
    · rintro ⟨a, b⟩ p hp'
      rcases List.mem_cons.mp (hp.mem_iff.mpr hp') with rfl | hm
      · exact a
      · exact b p hm
    · intro h
      exact ⟨h _ (hp.mem_iff.mp (.head _)), fun p hp' => h p (hp.mem_iff.mp (.tail _ hp'))⟩
  constructor
  · rw [List.filter_eq_nil_iff]
    intro k hk
    have : inAll X (p0 :: ps) k = true := inAll_iff.mpr ((hall k).mp hk)
    unfold inAll at this
    rw [this]; decide
  · refine nodup_len h1 ((hX p0).sublist List.filter_sublist) fun k => ?_
    rw [hall, List.mem_filter]
    constructor
    · intro h
      exact ⟨h _ (.head _), inAll_iff.mpr h⟩
    · rintro ⟨_, h⟩
      exact inAll_iff.mp h
def sgF (X : Nat → List Int) (k : Int) : Int := if ((psF k 3).length : Int) % 2 == 1 then (interL X (psF k 3) : Int) else -(interL X (psF k 3) : Int)
theorem HeapOk.mono {K : KD} {q : Nat → Addr} {len : Nat → Nat} {Es Es' : Led} {hv : List Value} {ps : List Nat} {pk : Value → Nat} (H : HeapOk K q len Es hv ps pk) (h : ∀ e ∈ Es, e ∈ Es') : HeapOk K q len Es' hv ps pk :=
  ⟨H.perm, fun v hv => (H.at' v hv).mono h, H.hp⟩
section
variable {prog : Program} {w : World} {A : Around} {σ : Shared} {h₀ : Heap} {N : Led} {s : Shared} {env : Env} {E : Value → Shared → Prop} {mg mb : Str → Option Value} {n : Nat} {ad : Ads}
set_option maxHeartbeats 1000000 in
theorem wturn {L a c td q0 q1 q2 : Addr} {K : KD} {m : Str → Option Value} {k : Int} {tw : Tok} {T : Int} {tt : Tok} {y3 y6 : Option Value} {u0 u1 u2 : List Value} {X0 X1 X2 : List Int} {p0 : Nat} {ps : List Nat} {Q : Flow → Shared → Prop}
    (S : St σ h₀ ((L, .ns m) :: (L + 3, .cel y3) :: (L + 5, .cel (some (.int k tw))) :: (L + 6, .cel y6) :: (L + 4, .cel (some (.ref td))) :: (td, .lst [.ref q0, .ref q1, .ref q2]) :: (q0, .lst u0) :: (q1, .lst u1) :: (q2, .lst u2) :: N) s) (W : Wd ad mg mb h₀) (Rm : Room A 200)
    (hK : ∀ p ∈ K.led mg, p ∈ N) (nd : ((K.led mg).map (·.1)).Nodup) (hb : m "by_length" = some (.ref K.C)) (ht : m "total" = some (.int T tt)) (i0 : Ints u0 X0) (i1 : Ints u1 X1) (i2 : Ints u2 X2) (r0 : Row X0) (r1 : Row X1) (r2 : Row X2) (hps : psF k 3 = p0 :: ps)
    (h : ∀ s' m' y3' y6' t', m' "by_length" = some (.ref K.C) → m' "total" = some (.int (T + sgF (of3 X0 X1 X2) k) t') → St σ h₀ ((L, .ns m') :: (L + 3, .cel y3') :: (L + 5, .cel (some (.int k tw))) :: (L + 6, .cel y6') :: (L + 4, .cel (some (.ref td))) :: (td, .lst [.ref q0, .ref q1, .ref q2]) :: (q0, .lst u0) :: (q1, .lst u1) :: (q2, .lst u2) :: N) s' → Q .next s') :
    wpAny (model prog w) A (execs wbody (lenv L a c)) Q NoE s := by
  have hi : ∀ p, Ints (of3 u0 u1 u2 p) (of3 X0 X1 X2 p) := fun p => by unfold of3; split <;> assumption
  have hR : ∀ p, Row (of3 X0 X1 X2 p) := fun p => by unfold of3; split <;> assumption
  have hzu : ∀ p, (of3 u0 u1 u2 p).length < 1000 := fun p => by rw [(hi p).length]; have := (hR p).len; omega
  have hzX : ∀ p, (of3 X0 X1 X2 p).length < 1000 := fun p => by have := (hR p).len; omega
  have zps : (p0 :: ps).length ≤ 3 := by rw [← hps]; exact psF_len k 3
  have hps3 : ∀ p ∈ p0 :: ps, p < 3 := fun p hp => by
    rw [← hps] at hp
    unfold psF at hp
    exact List.mem_range.mp (List.mem_filter.mp hp).1
  show wpAny _ _ (execs [wst 0, wst 1, wst 2, wst 3, wst 4, wst 5, wst 6, wst 7, wst 8] _) _ _ _
  refine wpAny_execs_cons ?_
  have S0 : St σ h₀ ((L, .ns m) :: (L + 4, .cel (some (.ref td))) :: (L + 5, .cel (some (.int k tw))) :: (L + 6, .cel y6) :: (td, .lst [.ref q0, .ref q1, .ref q2]) :: (L + 3, .cel y3) :: (q0, .lst u0) :: (q1, .lst u1) :: (q2, .lst u2) :: N) s := S.sel (by walk_at "sel")
  refine w0 S0 W Rm ?_
  intro s1 ch S1
  rw [hps] at S1
  refine wpAny_execs_cons ?_
  have S1' : St σ h₀ ((L, .ns m) :: (L + 3, .cel y3) :: (L + 4, .cel (some (.ref td))) :: (L + 5, .cel (some (.int k tw))) :: (td, .lst [.ref q0, .ref q1, .ref q2]) :: (q0, .lst u0) :: (q1, .lst u1) :: (q2, .lst u2) :: (L + 6, .cel (some (.ref ch))) :: (ch, .lst ((p0 :: ps).map fun p => .ref (of3 q0 q1 q2 p))) :: N) s1 := S1.sel (by walk_at "sel")
  refine w1 S1' ?_
  intro s2 hl S2
  refine wpAny_execs_cons ?_
  have S2' : St σ h₀ ((L, .ns fun y => if y = "heap" then some (.ref hl) else m y) :: (L + 3, .cel y3) :: (hl, .lst []) :: (L + 4, .cel (some (.ref td))) :: (L + 5, .cel (some (.int k tw))) :: (td, .lst [.ref q0, .ref q1, .ref q2]) :: (q0, .lst u0) :: (q1, .lst u1) :: (q2, .lst u2) :: (L + 6, .cel (some (.ref ch))) :: (ch, .lst ((p0 :: ps).map fun p => .ref (of3 q0 q1 q2 p))) :: N) s2 := S2.sel (by walk_at "sel")
  refine w2 S2' W Rm (fun p hp => .tail _ (.tail _ (hK p hp))) nd rfl (by exact hb) (hzu 0) (hzu 1) (hzu 2) ?_
  intro s3 y3' hv Es pk HO S3
  rw [hps] at HO
  refine wpAny_execs_cons ?_
  refine w3 S3 ?_
  intro s4 sh S4
  refine wpAny_execs_cons ?_
  generalize hB : ((L + 4, Ent.cel (some (.ref td))) :: (L + 5, .cel (some (.int k tw))) :: (td, .lst [.ref q0, .ref q1, .ref q2]) :: (q0, .lst u0) :: (q1, .lst u1) :: (q2, .lst u2) :: (L + 6, .cel (some (.ref ch))) :: (ch, .lst ((p0 :: ps).map fun p => .ref (of3 q0 q1 q2 p))) :: N) = B at S4
  have hrow : ∀ p, (of3 q0 q1 q2 p, .lst (of3 u0 u1 u2 p)) ∈ B := fun p => by rw [← hB]; unfold of3; split <;> walk_at "mem"
  have S4' : St σ h₀ ((L, .ns fun y => if y = "short" then some (.ref sh) else if y = "heap" then some (.ref hl) else m y) :: (hl, .lst hv) :: (sh, .lst []) :: (((L + 3, .cel y3') :: Es) ++ B)) s4 := S4.sel (by show Sel (_ :: _ :: _ :: _ :: (Es ++ B)) _; walk_at "sel")
  refine w4 S4' W Rm (by rw [← hB]; walk_at "mem") (by rw [← hB]; walk_at "mem") (fun p hp => List.mem_append.mpr (.inr (by rw [← hB]; exact .tail _ (.tail _ (.tail _ (.tail _ (.tail _ (.tail _ (.tail _ (.tail _ (hK p hp)))))))))) ) nd rfl rfl hrow hzu (HO.mono fun e he => .tail _ he) hps3 zps ?_
  intro s5 outs hpo hso S5
  refine wpAny_execs_cons ?_
  have S5p := S5.perm (N' := (L, .ns fun y => if y = "short" then some (.ref sh) else if y = "heap" then some (.ref hl) else m y) :: (sh, .lst (outs.map fun p => .ref (of3 q0 q1 q2 p))) :: (L + 3, .cel y3') :: (B ++ Es)) (((List.perm_append_comm.cons _).cons _).cons _)
  subst hB
  have S5' : St σ h₀ ((L, .ns fun y => if y = "short" then some (.ref sh) else if y = "heap" then some (.ref hl) else m y) :: (L + 6, .cel (some (.ref ch))) :: (ch, .lst ((p0 :: ps).map fun p => .ref (of3 q0 q1 q2 p))) :: (sh, .lst (outs.map fun p => .ref (of3 q0 q1 q2 p))) :: (L + 3, .cel y3') :: (L + 4, .cel (some (.ref td))) :: (L + 5, .cel (some (.int k tw))) :: (td, .lst [.ref q0, .ref q1, .ref q2]) :: (q0, .lst u0) :: (q1, .lst u1) :: (q2, .lst u2) :: (N ++ Es)) s5 := S5p.sel (by show Sel _ (_ :: _ :: _ :: _ :: _ :: _ :: _ :: _ :: _ :: _ :: _ :: (N ++ _)); walk_at "sel")
  have hrow5 : ∀ p, (of3 q0 q1 q2 p, .lst (of3 u0 u1 u2 p)) ∈ (L + 3, Ent.cel y3') :: (L + 4, .cel (some (.ref td))) :: (L + 5, .cel (some (.int k tw))) :: (td, .lst [.ref q0, .ref q1, .ref q2]) :: (q0, .lst u0) :: (q1, .lst u1) :: (q2, .lst u2) :: (N ++ Es) := fun p => by unfold of3; split <;> walk_at "mem"
  refine w5 S5' W Rm rfl hrow5 hzu zps hpo hso ?_
  intro s6 S6
  refine wpAny_execs_cons ?_
  cases outs with
  | nil => have := hpo.length_eq; simp at this
  | cons o0 outs =>
    have S6' : St σ h₀ ((L, .ns fun y => if y = "short" then some (.ref sh) else if y = "heap" then some (.ref hl) else m y) :: (sh, .lst ((o0 :: outs).map fun p => .ref (of3 q0 q1 q2 p))) :: (L + 6, .cel (some (.ref ch))) :: (ch, .lst ((p0 :: ps).map fun p => .ref (of3 q0 q1 q2 p))) :: (L + 3, .cel y3') :: (L + 4, .cel (some (.ref td))) :: (L + 5, .cel (some (.int k tw))) :: (td, .lst [.ref q0, .ref q1, .ref q2]) :: (q0, .lst u0) :: (q1, .lst u1) :: (q2, .lst u2) :: (N ++ Es)) s6 := S6.sel (by walk_at "sel")
    have zo : outs.length ≤ 3 := by have := hpo.length_eq; simp at this zps; omega
    refine w6 (X0 := X0) (X1 := X1) (X2 := X2) S6' W Rm rfl (fun p => .tail _ (.tail _ (hrow5 p))) hi hzX zo ?_
    intro s7 cm vs R iv hcm hsub S7
    obtain ⟨fA, fB⟩ := common_facts (X := of3 X0 X1 X2) (fun p => (hR p).nd) hpo
    have zC : (outs.foldl (fun acc p => metN acc (of3 X0 X1 X2 p)) (of3 X0 X1 X2 o0)).length < 1000 := by
      have := (fold_met (X := of3 X0 X1 X2) outs (of3 X0 X1 X2 o0) (hR o0).nd).2.2
      have := hzX o0
      omega
    have h6 : (L + 6, .cel (some (.ref ch))) ∈ R := hsub.subset (.tail _ (.head _))
    have hch : (ch, .lst ((p0 :: ps).map fun p => .ref (of3 q0 q1 q2 p))) ∈ R := hsub.subset (.tail _ (.tail _ (.head _)))
    refine wpAny_execs_cons ?_
    refine w7 (X := of3 X0 X1 X2) (u := of3 u0 u1 u2) S7 W Rm rfl hcm iv zC h6 hch (fun p => hsub.subset (.tail _ (.tail _ (.tail _ (hrow5 p))))) hi hzX zps fA fB ?_
    intro s8 S8
    refine wpAny_execs_cons ?_
    refine w8 S8 W Rm rfl (by exact ht) hcm (by rw [iv.length]; exact zC) h6 hch (by rw [List.length_map]; omega) ?_
    intro s9 t9 S9
    refine wpAny_execs_nil ?_
    have S10 := S9.sub (hsub.cons_cons _)
    have S11 : St σ h₀ ((L, .ns fun y => if y = "total" then some (.int (T + sgF (of3 X0 X1 X2) k) t9) else if y = "common" then some (.ref cm) else if y = "short" then some (.ref sh) else if y = "heap" then some (.ref hl) else m y) :: (L + 3, .cel y3') :: (L + 5, .cel (some (.int k tw))) :: (L + 6, .cel (some (.ref ch))) :: (L + 4, .cel (some (.ref td))) :: (td, .lst [.ref q0, .ref q1, .ref q2]) :: (q0, .lst u0) :: (q1, .lst u1) :: (q2, .lst u2) :: (N ++ Es)) s9 := by
      have e : T + sgF (of3 X0 X1 X2) k = T + if (((p0 :: ps).map fun p => Value.ref (of3 q0 q1 q2 p)).length : Int) % 2 == 1 then (vs.length : Int) else -(vs.length : Int) := by
        unfold sgF
        rw [hps, List.length_map, iv.length, fB]
        rfl
      rw [e]
      exact S10.sel (by walk_at "sel")
    exact h _ _ _ _ _ (by exact hb) rfl (S11.sub (((((((((List.sublist_append_left N Es).cons_cons _).cons_cons _).cons_cons _).cons_cons _).cons_cons _).cons_cons _).cons_cons _).cons_cons _ |>.cons_cons _))
end
def totS (X : Nat → List Int) : Nat → Int
  | 0 => 0
  | i + 1 => totS X i + sgF X (1 + (i : Int) * 1)
section
variable {prog : Program} {w : World} {A : Around} {σ : Shared} {h₀ : Heap} {N : Led} {s : Shared} {env : Env} {E : Value → Shared → Prop} {mg mb : Str → Option Value} {n : Nat} {ad : Ads}
set_option maxHeartbeats 1000000 in
theorem law10 {L a c td q0 q1 q2 : Addr} {K : KD} {m : Str → Option Value} {tt : Tok} {y3 y5 y6 : Option Value} {u0 u1 u2 : List Value} {X0 X1 X2 : List Int} {Q : Flow → Shared → Prop}
    (S : St σ h₀ ((L, .ns m) :: (L + 3, .cel y3) :: (L + 5, .cel y5) :: (L + 6, .cel y6) :: (L + 4, .cel (some (.ref td))) :: (td, .lst [.ref q0, .ref q1, .ref q2]) :: (q0, .lst u0) :: (q1, .lst u1) :: (q2, .lst u2) :: N) s) (W : Wd ad mg mb h₀) (Rm : Room A 200)
    (hK : ∀ p ∈ K.led mg, p ∈ N) (nd : ((K.led mg).map (·.1)).Nodup) (hb : m "by_length" = some (.ref K.C)) (ht : m "total" = some (.int 0 tt)) (i0 : Ints u0 X0) (i1 : Ints u1 X1) (i2 : Ints u2 X2) (r0 : Row X0) (r1 : Row X1) (r2 : Row X2)
    (h : ∀ s' m' y3' y5' y6' t', m' "total" = some (.int (totS (of3 X0 X1 X2) 7) t') → St σ h₀ ((L, .ns m') :: (L + 3, .cel y3') :: (L + 5, .cel y5') :: (L + 6, .cel y6') :: (L + 4, .cel (some (.ref td))) :: (td, .lst [.ref q0, .ref q1, .ref q2]) :: (q0, .lst u0) :: (q1, .lst u1) :: (q2, .lst u2) :: N) s' → Q .next s') :
    wpAny (model prog w) A (exec (lstm 10) (lenv L a c)) Q NoE s := by
  show wpAny _ _ (exec (.For _ _ wbody _ _) _) _ _ _
  repeat walk_at "nc"
  rename_i S1
  refine iter_r (k := 7) S1 (.head _) (by decide) (by decide) (by decide) ?_
  intro s2 I hI S2
  have S3 : St σ h₀ ((I, rgE 1 1 7 0) :: (L, .ns m) :: (L + 3, .cel y3) :: (L + 5, .cel y5) :: (L + 6, .cel y6) :: (L + 4, .cel (some (.ref td))) :: (td, .lst [.ref q0, .ref q1, .ref q2]) :: (q0, .lst u0) :: (q1, .lst u1) :: (q2, .lst u2) :: N) s2 := S2.sel (by walk_at "sel")
  refine forloop (draw_range Rm.h I 1 1 7) (fun i N' => ∃ (m' : Str → Option Value) (y3 y5 y6 : Option Value) (t' : Tok), N' = (L, .ns m') :: (L + 3, .cel y3) :: (L + 5, .cel y5) :: (L + 6, .cel y6) :: (L + 4, .cel (some (.ref td))) :: (td, .lst [.ref q0, .ref q1, .ref q2]) :: (q0, .lst u0) :: (q1, .lst u1) :: (q2, .lst u2) :: N ∧
      m' "by_length" = some (.ref K.C) ∧ m' "total" = some (.int (totS (of3 X0 X1 X2) i) t')) S3 ⟨m, y3, y5, y6, tt, rfl, hb, ht⟩ (fun _ _ _ => trivial) ?_ ?_
  · rintro i N' v s4 hi' ⟨m', y3', y5', y6', t', rfl, hb', ht'⟩ ⟨tv, rfl⟩ S4
    obtain ⟨p0, ps, hps⟩ : ∃ p0 ps, psF (1 + ((i : Nat) : Int) * 1) 3 = p0 :: ps := by
      have : i = 0 ∨ i = 1 ∨ i = 2 ∨ i = 3 ∨ i = 4 ∨ i = 5 ∨ i = 6 := by omega
      rcases this with rfl | rfl | rfl | rfl | rfl | rfl | rfl <;> exact ⟨_, _, rfl⟩
    refine store_c S4 (c := L + 5) rfl (by walk_at "put") ?_
    intro s5 S5
    have S6 : St σ h₀ ((L, .ns m') :: (L + 3, .cel y3') :: (L + 5, .cel (some (.int (1 + ((i : Nat) : Int) * 1) tv))) :: (L + 6, .cel y6') :: (L + 4, .cel (some (.ref td))) :: (td, .lst [.ref q0, .ref q1, .ref q2]) :: (q0, .lst u0) :: (q1, .lst u1) :: (q2, .lst u2) :: (N ++ [(I, rgE 1 1 7 (i + 1))])) s5 := by
      refine S5.perm ?_
      refine List.Perm.trans ?_ (List.perm_append_singleton (I, rgE 1 1 7 (i + 1)) _)
      exact .refl _
    refine wturn (K := K) S6 W Rm (fun p hp => List.mem_append.mpr (.inl (hK p hp))) nd hb' ht' i0 i1 i2 r0 r1 r2 hps ?_
    intro s7 m7 y37 y67 t7 hb7 ht7 S7
    refine ⟨_, ⟨m7, y37, some (.int (1 + ((i : Nat) : Int) * 1) tv), y67, t7, rfl, hb7, ht7⟩, S7.perm ?_⟩
    refine List.Perm.trans (List.perm_append_singleton (I, rgE 1 1 7 (i + 1)) _).symm ?_
    exact .refl _
  · rintro N' s4 ⟨m', y3', y5', y6', t', rfl, hb', ht'⟩ S4
    exact h _ _ _ _ _ _ ht' S4
end
/-- the list's entries are pairs that stand in Es -/
inductive Pairs (Es : Led) : List Value → List (Int × Int) → Prop
  | nil : Pairs Es [] []
  | cons {tp : Addr} {a i : Int} {ta ti : Tok} {vs : List Value} {prs : List (Int × Int)} : (tp, .tup [.int a ta, .int i ti]) ∈ Es → Pairs Es vs prs → Pairs Es (.ref tp :: vs) ((a, i) :: prs)
theorem Pairs.mono {Es Es' : Led} {vs : List Value} {prs : List (Int × Int)} (h : Pairs Es vs prs) (hs : ∀ e ∈ Es, e ∈ Es') : Pairs Es' vs prs := by
  induction h with
  | nil => exact .nil
  | cons h _ ih => exact .cons (hs _ h) ih
theorem Pairs.append {Es : Led} {vs us : List Value} {prs qrs : List (Int × Int)} (h : Pairs Es vs prs) (h' : Pairs Es us qrs) : Pairs Es (vs ++ us) (prs ++ qrs) := by
  induction h with
  | nil => exact h'
  | cons h _ ih => exact .cons h ih
theorem Pairs.length {Es : Led} {vs : List Value} {prs : List (Int × Int)} (h : Pairs Es vs prs) : vs.length = prs.length := by
  induction h with
  | nil => rfl
  | cons _ _ ih => simp [ih]
theorem Pairs.snoc {Es : Led} {vs : List Value} {prs : List (Int × Int)} {tp : Addr} {a i : Int} {ta ti : Tok} (h : Pairs Es vs prs) (hm : (tp, .tup [.int a ta, .int i ti]) ∈ Es) : Pairs Es (vs ++ [.ref tp]) (prs ++ [(a, i)]) := h.append (.cons hm .nil)
abbrev sc3 : Scope := { kind := .function, names := [(".0", .local), ("number", .local), ("place", .free)], isGenerator := false, isCoroutine := false }
section
variable {prog : Program} {w : World} {A : Around} {σ : Shared} {h₀ : Heap} {N : Led} {s : Shared} {env : Env} {E : Value → Shared → Prop} {mg mb : Str → Option Value} {n : Nat} {ad : Ads}
end
local macro_rules | `(tactic| walk_at "n4") => `(tactic| first
  | walk_at "n3"
  | with_reducible refine Tuple_ ?_)
local macro_rules | `(tactic| walk_at "nd") => `(tactic| first | walk_at "n4" | with_reducible refine wpAny_execs_cons ?_)
section
variable {prog : Program} {w : World} {A : Around} {σ : Shared} {h₀ : Heap} {N : Led} {s : Shared} {env : Env} {E : Value → Shared → Prop} {mg mb : Str → Option Value} {n : Nat} {ad : Ads}
/-- [(number, place) for number in l] -/
theorem comp_pair {p1 p2 p3 px pos : Pos} {k0 : Nat} {iter : Expr} {l I L a c : Addr} {p : Int} {tp : Tok} {vl : List Value} {nl : List Int} {Q : Value → Shared → Prop} (S : St σ h₀ ((I, liE l 0) :: N) s) (Rm : Room A 100) (hl : (l, .lst vl) ∈ N) (il : Ints vl nl) (zl : nl.length < 1000) (hp : (L + 3, .cel (some (.int p tp))) ∈ N)
    (h : ∀ s' D ys Es, Pairs Es ys (nl.map fun k => (k, p)) → St σ h₀ ((D, .lst ys) :: (Es ++ N)) s' → Q (.ref D) s') :
    CompIn prog w A NoE (lenv L a c) sc3 [("place", L + 3)] (.Tuple [.Name "number" p1, .Name "place" p2] k0 p3) "number" px iter [] pos Q (.ref I) s := by
  refine comp0 (draw_list Rm.h I l vl) self_l (fun i ys N' => ∃ Es, N' = Es ++ N ∧ Pairs Es ys ((nl.take i).map fun k => (k, p))) S ⟨[], rfl, .nil⟩ ?_ ?_ ?_ ?_
  · rintro i ys _ ⟨Es, rfl, _⟩ N' hs
    exact hs.subset (List.mem_append.mpr (.inr hl))
  · rw [il.length]; simp [sizeLine]; omega
  · rintro C D i m' ys _ v s4 hi' hyl ⟨Es, rfl, hP⟩ hv S4
    obtain ⟨k, t, hk, rfl⟩ := il.look hv
    have hp' : (L + 3, .cel (some (.int p tp))) ∈ Es ++ N := List.mem_append.mpr (.inr hp)
    repeat walk_at "nd"
    rename_i S5
    refine newtuple S5 (by show (2 : Nat) ≤ _; decide) ?_
    intro s6 tp' hf S6
    refine ⟨_, _, ⟨(tp', .tup [.int k t, .int p tp]) :: Es, rfl, ?_⟩, S6.sel (by show Sel (_ :: _ :: _ :: _ :: (Es ++ N)) _; walk_at "sel")⟩
    rw [take_succ_get hk, List.map_append]
    exact (hP.mono fun e he => .tail _ he).snoc (.head _)
  · rintro D ys _ s4 ⟨Es, rfl, hP⟩ S4
    rw [il.length, List.take_length] at hP
    exact h _ _ _ _ hP S4
theorem law11 {L a c : Addr} {m : Str → Option Value} {Q : Flow → Shared → Prop} (S : St σ h₀ ((L, .ns m) :: N) s)
    (h : ∀ s' hl, St σ h₀ ((L, .ns fun y => if y = "heap" then some (.ref hl) else m y) :: (hl, .lst []) :: N) s' → Q .next s') : wpAny (model prog w) A (exec (lstm 11) (lenv L a c)) Q NoE s := by
  show wpAny _ _ (exec (.Assign [.Name _ _] _ _) _) _ _ _
  repeat walk_at "nd"
  rename_i S'
  exact h _ _ (S'.sel (by walk_at "sel"))
end
def prsF (X : Nat → List Int) (i : Nat) : List (Int × Int) := ((List.range i).map fun p => (X p).map fun k => (k, (p : Int))).flatten
theorem prsF_succ (X : Nat → List Int) (i : Nat) : prsF X (i + 1) = prsF X i ++ (X i).map fun k => (k, (i : Int)) := by
  unfold prsF
  rw [List.range_succ, List.map_append, List.flatten_append]
  simp
section
variable {prog : Program} {w : World} {A : Around} {σ : Shared} {h₀ : Heap} {N : Led} {s : Shared} {env : Env} {E : Value → Shared → Prop} {mg mb : Str → Option Value} {n : Nat} {ad : Ads}
inductive JH (L : Addr) (m : Str → Option Value) (X : Nat → List Int) (B : Led) (i : Nat) : Led → Prop
  | mk (m' : Str → Option Value) (y3 : Option Value) (hl' : Addr) (hv : List Value) (Es : Led) (hh : m' "heap" = some (.ref hl')) (hm : ∀ y : Str, y ≠ "heap" → m' y = m y) (hP : Pairs Es hv (prsF X i)) (zh : hv.length ≤ 1000 * i) :
    JH L m X B i ((L, .ns m') :: (L + 3, .cel y3) :: (hl', .lst hv) :: (Es ++ B))
set_option maxHeartbeats 1000000 in
theorem law12 {L a c td q0 q1 q2 hl : Addr} {m : Str → Option Value} {y3 : Option Value} {u0 u1 u2 : List Value} {X0 X1 X2 : List Int} {Q : Flow → Shared → Prop}
    (S : St σ h₀ ((L, .ns m) :: (L + 3, .cel y3) :: (hl, .lst []) :: (L + 4, .cel (some (.ref td))) :: (td, .lst [.ref q0, .ref q1, .ref q2]) :: (q0, .lst u0) :: (q1, .lst u1) :: (q2, .lst u2) :: N) s) (W : Wd ad mg mb h₀) (Rm : Room A 200) (hh : m "heap" = some (.ref hl))
    (hi : ∀ p, Ints (of3 u0 u1 u2 p) (of3 X0 X1 X2 p)) (hz : ∀ p, (of3 X0 X1 X2 p).length < 1000)
    (h : ∀ s' m' y3' hl' hv Es, Pairs Es hv (prsF (of3 X0 X1 X2) 3) → m' "heap" = some (.ref hl') → (∀ y : Str, y ≠ "heap" → m' y = m y) → St σ h₀ ((L, .ns m') :: (L + 3, .cel y3') :: (hl', .lst hv) :: (Es ++ (L + 4, .cel (some (.ref td))) :: (td, .lst [.ref q0, .ref q1, .ref q2]) :: (q0, .lst u0) :: (q1, .lst u1) :: (q2, .lst u2) :: N)) s' → Q .next s') :
    wpAny (model prog w) A (exec (lstm 12) (lenv L a c)) Q NoE s := by
  show wpAny _ _ (exec (.For _ _ _ _ _) _) _ _ _
  repeat walk_at "nd"
  rename_i S1
  refine iter_r (k := 3) S1 (.head _) (by decide) (by decide) (by decide) ?_
  intro s2 I hI S2
  generalize hB : ((L + 4, Ent.cel (some (.ref td))) :: (td, .lst [.ref q0, .ref q1, .ref q2]) :: (q0, .lst u0) :: (q1, .lst u1) :: (q2, .lst u2) :: N) = B at S2 h
  have S3 : St σ h₀ ((I, rgE 0 1 3 0) :: (L, .ns m) :: (L + 3, .cel y3) :: (hl, .lst []) :: ([] ++ B)) s2 := S2.sel (by walk_at "sel")
  refine forloop (draw_range Rm.h I 0 1 3) (fun i N' => JH L m (of3 X0 X1 X2) B i N') S3 ⟨m, y3, hl, [], [], hh, fun _ _ => rfl, .nil, by simp⟩ (fun _ _ _ => trivial) ?_ ?_
  · rintro i N' v s4 hi' hJ ⟨t, rfl⟩ S4
    refine hideQ fun QA hA => ?_
    obtain ⟨m', y3', hl', hv, Es, hh', hm', hP, zh⟩ := hJ
    have b1 : (L + 4, .cel (some (.ref td))) ∈ Es ++ B := List.mem_append.mpr (.inr (by rw [← hB]; walk_at "mem"))
    have b2 : (td, .lst [.ref q0, .ref q1, .ref q2]) ∈ Es ++ B := List.mem_append.mpr (.inr (by rw [← hB]; walk_at "mem"))
    have hrow : ∀ p, (of3 q0 q1 q2 p, .lst (of3 u0 u1 u2 p)) ∈ Es ++ B := fun p => List.mem_append.mpr (.inr (by rw [← hB]; unfold of3; split <;> walk_at "mem"))
    rw [show (0 : Int) + (i : Int) * 1 = (i : Int) from by omega]
    walk_at "nd"
    refine hA _ _ ?_
    refine hideQ fun Q' hQ => ?_
    clear hA
    repeat walk_at "nd"
    rename_i S5
    refine comp_open [("place", L + 3)] rfl ?_
    repeat walk_at "nd"
    refine sub_n i S5 (.tail _ (.tail _ (.tail _ (.tail _ b2)))) rfl (by exact hi') (by show (3 : Nat) < _; decide) ?_
    rw [getD3 hi']
    refine iter_l S5 (.tail _ (.tail _ (.tail _ (.tail _ (hrow i))))) ?_
    intro s6 I6 hI6 S6
    refine comp_pair S6 (Rm.le (by decide)) (.tail _ (.tail _ (.tail _ (.tail _ (hrow i))))) (hi i) (hz i) (by walk_at "mem") ?_
    intro s7 D7 ys7 Es7 hP7 S7
    have z7 : ys7.length < 1000 := by rw [hP7.length, List.length_map]; exact hz i
    have S7' : St σ h₀ ((D7, .lst ys7) :: (I, rgE 0 1 3 (i + 1)) :: (L, .ns m') :: (L + 3, .cel (some (.int i t))) :: (hl', .lst hv) :: ((Es7 ++ Es) ++ B)) s7 := S7.perm (by
      rw [List.append_assoc]
      refine List.Perm.cons _ ?_
      show List.Perm ([_, _, _, _] ++ (Es7 ++ (Es ++ B))) (Es7 ++ ([_, _, _, _] ++ (Es ++ B)))
      exact List.perm_append_comm_assoc _ _ _)
    repeat walk_at "nd"
    rename_i S8
    obtain ⟨m8, hl8, S9, g1, g2⟩ : ∃ m8 hl8, St σ h₀ ((I, rgE 0 1 3 (i + 1)) :: (L, .ns m8) :: (L + 3, .cel (some (.int i t))) :: (hl8, .lst (hv ++ ys7)) :: ((Es7 ++ Es) ++ B)) _ ∧ m8 "heap" = some (.ref hl8) ∧ (∀ y : Str, y ≠ "heap" → m8 y = m y) :=
      ⟨_, _, S8.sel (by walk_at "sel"), by exact rfl, by intro y hy; rw [if_neg hy]; exact hm' y hy⟩
    refine hQ _ _ ⟨_, ⟨m8, _, hl8, hv ++ ys7, Es7 ++ Es, g1, g2, ?_, ?_⟩, S9⟩
    · rw [prsF_succ]
      exact (hP.mono fun e he => List.mem_append.mpr (.inr he)).append (hP7.mono fun e he => List.mem_append.mpr (.inl he))
    · rw [List.length_append]; omega
  · rintro N' s4 ⟨m', y3', hl', hv, Es, hh', hm', hP, zh⟩ S4
    exact h _ _ _ _ _ _ hP hh' hm' S4
end
/-- the pair that an address holds -/
noncomputable def kyE (Es : Led) (v : Value) : Int × Int := by
  classical
  exact if h : ∃ (tp : Addr) (a i : Int) (ta ti : Tok), v = .ref tp ∧ (tp, .tup [.int a ta, .int i ti]) ∈ Es then (h.choose_spec.choose, h.choose_spec.choose_spec.choose) else (0, 0)
theorem kyE_at {Es : Led} (nd : (Es.map (·.1)).Nodup) {tp : Addr} {a i : Int} {ta ti : Tok} (hm : (tp, .tup [.int a ta, .int i ti]) ∈ Es) : kyE Es (.ref tp) = (a, i) := by
  have uniq : ∀ {e e' : Ent}, (tp, e) ∈ Es → (tp, e') ∈ Es → e = e' := by
    intro e e' h1 h2
    clear hm
    induction Es with
    | nil => cases h1
    | cons x r ih =>
      rw [List.map_cons, List.nodup_cons] at nd
      rcases List.mem_cons.mp h1 with e1 | h1 <;> rcases List.mem_cons.mp h2 with e2 | h2
      · rw [← e1] at e2; exact (Prod.mk.inj e2).2.symm
      · exact absurd (List.mem_map_of_mem (f := (·.1)) h2) (by rw [← e1] at nd; exact nd.1)
      · exact absurd (List.mem_map_of_mem (f := (·.1)) h1) (by rw [← e2] at nd; exact nd.1)
      · exact ih nd.2 h1 h2
  have hex : ∃ (tp' : Addr) (a i : Int) (ta ti : Tok), Value.ref tp = .ref tp' ∧ (tp', Ent.tup [.int a ta, .int i ti]) ∈ Es := ⟨tp, a, i, ta, ti, rfl, hm⟩
  unfold kyE
  rw [dif_pos hex]
  obtain ⟨ta', ti', e1, e2⟩ := hex.choose_spec.choose_spec.choose_spec
  generalize hex.choose_spec.choose_spec.choose = i' at *
  generalize hex.choose_spec.choose = a' at *
  generalize hex.choose = tp' at *
  injection e1 with e1
  subst e1
  have := uniq hm e2
  injection this with this
  simp at this
  obtain ⟨⟨h1, _⟩, h2, _⟩ := this
  rw [h1, h2]
theorem Pairs.ky {Es : Led} (nd : (Es.map (·.1)).Nodup) {vs : List Value} {prs : List (Int × Int)} (h : Pairs Es vs prs) : vs.map (kyE Es) = prs ∧ ∀ v ∈ vs, PairAt Es (kyE Es) v := by
  induction h with
  | nil => exact ⟨rfl, fun v hv => by cases hv⟩
  | @cons tp a i ta ti vs prs hm _ ih =>
    refine ⟨by rw [List.map_cons, ih.1, kyE_at nd hm], fun v hv => ?_⟩
    rcases List.mem_cons.mp hv with rfl | hv
    · exact ⟨tp, a, i, ta, ti, rfl, hm, kyE_at nd hm⟩
    · exact ih.2 v hv
noncomputable abbrev ltE (Es : Led) : Value → Value → Bool := fun v u => ltp (kyE Es v) (kyE Es u)
section
variable {prog : Program} {w : World} {A : Around} {σ : Shared} {h₀ : Heap} {N : Led} {s : Shared} {env : Env} {E : Value → Shared → Prop} {mg mb : Str → Option Value} {n : Nat} {ad : Ads}
theorem law13 {L a c hl : Addr} {m : Str → Option Value} {hv : List Value} {Es B : Led} {Q : Flow → Shared → Prop} (S : St σ h₀ ((L, .ns m) :: (hl, .lst hv) :: (Es ++ B)) s) (W : Wd ad mg mb h₀) (Rm : Room A 200) (hh : m "heap" = some (.ref hl)) (hP : ∀ v ∈ hv, PairAt Es (kyE Es) v) (hz : hv.length < 1000)
    (h : ∀ s' hv', Hp (ltE Es) 0 hv' → hv'.Perm hv → St σ h₀ ((L, .ns m) :: (hl, .lst hv') :: (Es ++ B)) s' → Q .next s') : wpAny (model prog w) A (exec (lstm 13) (lenv L a c)) Q NoE s := by
  show wpAny _ _ (exec (.Expr _ _) _) _ _ _
  repeat walk_at "nd"
  refine ⟨S.keep, ?_⟩
  have hnh := split_ne (pre := [(L, .ns m)]) (a := hl) (e := .lst hv) (post := Es ++ B) S.nd
  refine heapify_spec (n := 4) (V := Es) (el := PairAt Es (kyE Es)) (lt := ltE Es) S W (Rm.le (by decide)) (fun n' hn' => cmp_pair.mono hn') (.tail .head) (fun e he => ⟨.tail _ (.tail _ (List.mem_append.mpr (.inl he))), hnh e (.inr (List.mem_append.mpr (.inl he)))⟩) hP (by omega) ?_
  intro s1 S1
  obtain ⟨q1, q2⟩ := hfy_all (ltp_lts (kyE Es)) hv
  exact h _ _ q1 q2 S1
theorem law14 {L a c : Addr} {m : Str → Option Value} {Q : Flow → Shared → Prop} (S : St σ h₀ ((L, .ns m) :: N) s)
    (h : ∀ s' ln, St σ h₀ ((L, .ns fun y => if y = "line" then some (.ref ln) else m y) :: (ln, .lst []) :: N) s' → Q .next s') : wpAny (model prog w) A (exec (lstm 14) (lenv L a c)) Q NoE s := by
  show wpAny _ _ (exec (.Assign [.Name _ _] _ _) _) _ _ _
  repeat walk_at "nd"
  rename_i S'
  exact h _ _ (S'.sel (by walk_at "sel"))
set_option maxHeartbeats 1000000 in
theorem law15 {L a c hl ln : Addr} {m : Str → Option Value} {hv : List Value} {Es B : Led} {Q : Flow → Shared → Prop} (S : St σ h₀ ((L, .ns m) :: (hl, .lst hv) :: (ln, .lst []) :: (Es ++ B)) s) (W : Wd ad mg mb h₀) (Rm : Room A 200) (hh : m "heap" = some (.ref hl)) (hln : m "line" = some (.ref ln)) (hP : ∀ v ∈ hv, PairAt Es (kyE Es) v) (hz : hv.length < 1000) (hH : Hp (ltE Es) 0 hv)
    (h : ∀ s' ov, ov.Perm hv → ov.Pairwise (fun a b => ltE Es b a = false) → St σ h₀ ((L, .ns m) :: (ln, .lst ov) :: (Es ++ B)) s' → Q .next s') : wpAny (model prog w) A (exec (lstm 15) (lenv L a c)) Q NoE s := by
  show wpAny _ _ (exec (.While _ _ _ _) _) _ _ _
  have hu : A.units < cLine := by have := Rm.u; omega
  refine while_x (fun k s => ∃ hv' ov, hv'.length = k ∧ Hp (ltE Es) 0 hv' ∧ (ov ++ hv').Perm hv ∧ ov.Pairwise (fun a b => ltE Es b a = false) ∧ (∀ a ∈ ov, ∀ v ∈ hv', ltE Es v a = false) ∧ St σ h₀ ((L, .ns m) :: (hl, .lst hv') :: (ln, .lst ov) :: (Es ++ B)) s)
    (fun s => ∃ ov, ov.Perm hv ∧ ov.Pairwise (fun a b => ltE Es b a = false) ∧ St σ h₀ ((L, .ns m) :: (hl, .lst []) :: (ln, .lst ov) :: (Es ++ B)) s) hv.length ⟨hv, [], rfl, hH, .refl _, .nil, fun a ha => (by cases ha), S⟩ ?_ ?_
  · rintro k s1 ⟨hv', ov, rfl, hH', hp, hs, hbd, S1⟩
    repeat walk_at "nd"
    refine ne_nil (vs := hv') (by walk_at "st") (by walk_at "mem") (by walk_at "mem") hu ?_
    refine wpAny_truthy_bool ?_
    rename_i S2
    rcases List.eq_nil_or_concat hv' with rfl | ⟨vs, y, rfl⟩
    · refine ite_ff ?_
      rw [List.append_nil] at hp
      exact ⟨ov, hp, hs, S2.sel (by walk_at "sel")⟩
    · rw [List.concat_eq_append] at *
      rw [show (!(vs ++ [y]).isEmpty) = true from by simp]
      refine ite_tt ?_
      have S3 : St σ h₀ ((L, .ns m) :: (hl, .lst (vs ++ [y])) :: (ln, .lst ov) :: (Es ++ B)) _ := S2.sel (by walk_at "sel")
      clear S2
      have hnh := split_ne (pre := [(L, .ns m)]) (a := hl) (e := .lst (vs ++ [y])) (post := (ln, .lst ov) :: (Es ++ B)) S3.nd
      have zz := hp.length_eq
      rw [List.length_append] at zz
      repeat walk_at "nd"
      refine ⟨S3.keep, ?_⟩
      obtain ⟨q1, q2, q3⟩ := pop_heap (ltp_lts (kyE Es)) (ltp_irr (kyE Es)) hH'
      refine heappop_spec (n := 4) (V := Es) (lt := ltE Es) (el := PairAt Es (kyE Es)) S3 W (Rm.le (by decide)) (fun n' hn' => cmp_pair.mono hn') (.tail .head) (fun e he => ⟨.tail _ (.tail _ (.tail _ (List.mem_append.mpr (.inl he)))), hnh e (.inr (.tail _ (List.mem_append.mpr (.inl he))))⟩) (fun v hv2 => hP v (hp.mem_iff.mp (List.mem_append.mpr (.inr hv2)))) (by simp at zz; omega) ?_
      intro s4 S4
      generalize popF (ltE Es) vs y = r at *
      repeat walk_at "nd"
      refine append_l S4 (.tail (.tail .head)) (by simp [sizeLine]; omega) ?_
      intro s5 S5
      repeat walk_at "nd"
      have hm : ∀ v, v = r.1 ∨ v ∈ r.2 → v ∈ vs ++ [y] := fun v hv => q2.mem_iff.mp (List.mem_cons.mpr hv)
      refine ⟨r.2.length, by have := q2.length_eq; simp at this ⊢; omega, r.2, ov ++ [r.1], rfl, q1, ?_, ?_, ?_, S5⟩
      · refine List.Perm.trans ?_ hp
        rw [List.append_assoc]
        exact List.Perm.append_left _ q2
      · rw [List.pairwise_append]
        refine ⟨hs, List.pairwise_singleton _ _, fun a ha b hb => ?_⟩
        rcases List.mem_singleton.mp hb with rfl
        exact hbd a ha _ (hm _ (.inl rfl))
      · intro a ha v hv
        rcases List.mem_append.mp ha with ha | ha
        · exact hbd a ha v (hm v (.inr hv))
        · rcases List.mem_singleton.mp ha with rfl
          exact q3 v (hm v (.inr hv))
  · rintro s1 ⟨ov, hp, hs, S1⟩
    exact h _ ov hp hs (S1.sel (by walk_at "sel"))
end
abbrev sc4 : Scope := { kind := .function, names := [(".0", .local), ("place", .local), ("number", .free), ("rows", .free)], isGenerator := false, isCoroutine := false }
/-- the pairs of k: its rows in order -/
def dueF (X : Nat → List Int) (k : Int) (i : Nat) : List (Int × Int) := ((List.range i).filter fun p => (X p).any (· == k)).map fun (p : Nat) => (k, (p : Int))
theorem dueF_succ (X : Nat → List Int) (k : Int) (i : Nat) : dueF X k (i + 1) = dueF X k i ++ if (X i).any (· == k) then [(k, (i : Int))] else [] := by
  unfold dueF
  rw [List.range_succ, List.filter_append, List.map_append]
  congr 1
  by_cases h : (X i).any (· == k) <;> simp [h]
section
variable {prog : Program} {w : World} {A : Around} {σ : Shared} {h₀ : Heap} {N : Led} {s : Shared} {env : Env} {E : Value → Shared → Prop} {mg mb : Str → Option Value} {n : Nat} {ad : Ads}
theorem law16 {L a c : Addr} {m : Str → Option Value} {Q : Flow → Shared → Prop} (S : St σ h₀ ((L, .ns m) :: N) s)
    (h : ∀ s' du, St σ h₀ ((L, .ns fun y => if y = "due" then some (.ref du) else m y) :: (du, .lst []) :: N) s' → Q .next s') : wpAny (model prog w) A (exec (lstm 16) (lenv L a c)) Q NoE s := by
  show wpAny _ _ (exec (.Assign [.Name _ _] _ _) _) _ _ _
  repeat walk_at "nd"
  rename_i S'
  exact h _ _ (S'.sel (by walk_at "sel"))
/-- [(number, place) for place in range(3) if number in rows[place]] -/
theorem comp_due {p1 p2 p3 p4 p5 p6 p7 p8 px pos : Pos} {k0 : Nat} {iter : Expr} {I L a c rl r0 r1 r2 : Addr} {k : Int} {tk : Tok} {v0 v1 v2 : List Value} {X0 X1 X2 : List Int} {Q : Value → Shared → Prop} (S : St σ h₀ ((I, rgE 0 1 3 0) :: N) s) (Rm : Room A 100)
    (h2 : (L + 2, .cel (some (.int k tk))) ∈ N) (h1 : (L + 1, .cel (some (.ref rl))) ∈ N) (hr : (rl, .lst [.ref r0, .ref r1, .ref r2]) ∈ N) (hrow : ∀ p, (of3 r0 r1 r2 p, .lst (of3 v0 v1 v2 p)) ∈ N) (hi : ∀ p, Ints (of3 v0 v1 v2 p) (of3 X0 X1 X2 p))
    (h : ∀ s' D ys Es, Pairs Es ys (dueF (of3 X0 X1 X2) k 3) → St σ h₀ ((D, .lst ys) :: (Es ++ N)) s' → Q (.ref D) s') :
    CompIn prog w A NoE (lenv L a c) sc4 [("rows", L + 1), ("number", L + 2)] (.Tuple [.Name "number" p1, .Name "place" p2] k0 p3) "place" px iter [.Compare (.Name "number" p4) [.In] [.Subscript (.Name "rows" p5) (.Name "place" p6) p7] p8] pos Q (.ref I) s := by
  refine comp0 (draw_range Rm.h I 0 1 3) self_r (fun i ys N' => ∃ Es, N' = Es ++ N ∧ Pairs Es ys (dueF (of3 X0 X1 X2) k i)) S ⟨[], rfl, .nil⟩ (fun _ _ _ _ _ _ => trivial) (by decide) ?_ ?_
  · rintro C D i m' ys _ v s4 hi' hyl ⟨Es, rfl, hP⟩ ⟨t, rfl⟩ S4
    have b2 : (L + 2, .cel (some (.int k tk))) ∈ Es ++ N := List.mem_append.mpr (.inr h2)
    have b1 : (L + 1, .cel (some (.ref rl))) ∈ Es ++ N := List.mem_append.mpr (.inr h1)
    have br : (rl, .lst [.ref r0, .ref r1, .ref r2]) ∈ Es ++ N := List.mem_append.mpr (.inr hr)
    have bo := fun p => List.mem_append.mpr (.inr (a := (of3 r0 r1 r2 p, Ent.lst (of3 v0 v1 v2 p)) ∈ Es) (hrow p))
    have h3 : i < 3 := hi'
    have ev : (0 : Int) + ((i : Nat) : Int) * 1 = (i : Int) := by omega
    rw [ev, dueF_succ]
    repeat walk_at "nd"
    rename_i S5
    refine sub_n i S5 (.tail _ (.tail _ (.tail _ br))) rfl (by show i < 3; exact h3) (by show (3 : Nat) < _; decide) ?_
    have er : [Value.ref r0, Value.ref r1, Value.ref r2].getD i .none = .ref (of3 r0 r1 r2 i) := by
      have : i = 0 ∨ i = 1 ∨ i = 2 := by omega
      rcases this with e | e | e <;> rw [e] <;> rfl
    rw [er]
    refine in_l S5 (.tail _ (.tail _ (.tail _ (bo i)))) (hi i) ?_
    intro s6 S6
    refine wpAny_truthy_bool ?_
    cases hb : (of3 X0 X1 X2 i).any (· == k) with
    | false =>
      refine ite_ff ?_
      exact ⟨_, _, ⟨Es, rfl, by simpa using hP⟩, S6⟩
    | true =>
      refine ite_tt ?_
      repeat walk_at "nd"
      refine newtuple S6 (by show (2 : Nat) ≤ _; decide) ?_
      intro s7 tp' hf S7
      refine ⟨_, _, ⟨(tp', .tup [.int k tk, .int (i : Int) t]) :: Es, rfl, ?_⟩, S7.sel (by show Sel (_ :: _ :: _ :: _ :: (Es ++ N)) _; walk_at "sel")⟩
      exact (hP.mono fun e he => .tail _ he).snoc (.head _)
  · rintro D ys _ s4 ⟨Es, rfl, hP⟩ S4
    exact h _ _ _ _ hP S4
end
/-- the expression that statement 17 walks over -/
def it17 : Expr := match lstm 17 with
  | .For _ e _ _ _ => e
  | _ => .Name "" ⟨0, 0, 0, 0⟩
section
variable {prog : Program} {w : World} {A : Around} {σ : Shared} {h₀ : Heap} {N : Led} {s : Shared} {env : Env} {E : Value → Shared → Prop} {mg mb : Str → Option Value} {n : Nat} {ad : Ads}
set_option maxHeartbeats 1000000 in
theorem law17 {L a c rl r0 r1 r2 du : Addr} {m : Str → Option Value} {y2 : Option Value} {v0 v1 v2 : List Value} {X0 X1 X2 : List Int} {okZ : List Int → Prop} {B : Led} {Q : Flow → Shared → Prop}
    (S : St σ h₀ ((L, .ns m) :: (L + 2, .cel y2) :: (du, .lst []) :: B) s) (W : Wd ad mg mb h₀) (Rm : Room A 200) (hd : m "due" = some (.ref du)) (h1 : (L + 1, .cel (some (.ref rl))) ∈ B) (hr : (rl, .lst [.ref r0, .ref r1, .ref r2]) ∈ B) (hrow : ∀ p, (of3 r0 r1 r2 p, .lst (of3 v0 v1 v2 p)) ∈ B) (hi : ∀ p, Ints (of3 v0 v1 v2 p) (of3 X0 X1 X2 p)) (zZ' : ∀ Z, okZ Z → Z.length < 1000)
    (hit : ∀ Q' : Value → Shared → Prop, (∀ d s' l vs Z, okZ Z → Ints vs Z → St { σ with drawn := d } h₀ ((l, .lst vs) :: (L, .ns m) :: (L + 2, .cel y2) :: (du, .lst []) :: B) s' → Q' (.ref l) s') → wpAny (model prog w) A (eval it17 (lenv L a c)) Q' NoE s)
    (h : ∀ d s' m' y2' du' dv Es Z, okZ Z → Pairs Es dv (Z.flatMap fun k => dueF (of3 X0 X1 X2) k 3) → m' "due" = some (.ref du') → (∀ y : Str, y ≠ "due" → m' y = m y) → St { σ with drawn := d } h₀ ((L, .ns m') :: (L + 2, .cel y2') :: (du', .lst dv) :: (Es ++ B)) s' → Q .next s') :
    wpAny (model prog w) A (exec (lstm 17) (lenv L a c)) Q NoE s := by
  show wpAny _ _ (exec (.For _ it17 _ _ _) _) _ _ _
  refine wpAny_For (hs := ?hs) ?_
  case hs => intro _; exact rfl
  refine hit _ ?_
  intro d1 s1 l vs Z okz iv S1
  generalize hσ1 : { σ with drawn := d1 } = σ1 at S1
  have zZ := zZ' Z okz
  refine iter_l S1 (.head _) ?_
  intro s2 I hI S2
  have S3 : St σ1 h₀ ((I, liE l 0) :: (l, .lst vs) :: (L, .ns m) :: (L + 2, .cel y2) :: (du, .lst []) :: ([] ++ B)) s2 := S2
  have hlen := iv.length
  refine forloop (draw_list Rm.h I l vs) (fun i N' => ∃ (m' : Str → Option Value) (y2 : Option Value) (du' : Addr) (dv : List Value) (Es : Led), N' = (l, .lst vs) :: (L, .ns m') :: (L + 2, .cel y2) :: (du', .lst dv) :: (Es ++ B) ∧ m' "due" = some (.ref du') ∧ (∀ y : Str, y ≠ "due" → m' y = m y) ∧ Pairs Es dv ((Z.take i).flatMap fun k => dueF (of3 X0 X1 X2) k 3) ∧ dv.length ≤ 3 * i) S3 ⟨m, y2, du, [], [], rfl, hd, fun _ _ => rfl, .nil, by simp⟩ (fun i N' ⟨_, _, _, _, _, e, _⟩ => by rw [e]; exact .head _) ?_ ?_
  · rintro i N' v s4 hi' ⟨m', y2', du', dv, Es, rfl, hd', hm', hP, zd⟩ hv S4
    obtain ⟨k, t, hk, rfl⟩ := iv.look hv
    repeat walk_at "nd"
    rename_i S5
    refine comp_open [("rows", L + 1), ("number", L + 2)] rfl ?_
    repeat walk_at "nd"
    rename_i S6
    refine iter_r (k := 3) S6 (.head _) (by decide) (by decide) (by decide) ?_
    intro s7 I7 hI7 S7
    have S8 : St σ1 h₀ ((I7, rgE 0 1 3 0) :: (I, liE l (i + 1)) :: (l, .lst vs) :: (L, .ns m') :: (L + 2, .cel (some (.int k t))) :: (du', .lst dv) :: (Es ++ B)) s7 := S7.sel (by walk_at "sel")
    have mB : ∀ {x e1 e2 e3 e4 e5 : Addr × Ent}, x ∈ B → x ∈ e1 :: e2 :: e3 :: e4 :: e5 :: (Es ++ B) := fun hx => .tail _ (.tail _ (.tail _ (.tail _ (.tail _ (List.mem_append.mpr (.inr hx))))))
    refine comp_due (v0 := v0) (v1 := v1) (v2 := v2) (X0 := X0) (X1 := X1) (X2 := X2) S8 (Rm.le (by decide)) (by walk_at "mem") (mB h1) (mB hr) (fun p => mB (hrow p)) hi ?_
    intro s9 D9 ys9 Es9 hP9 S9
    have z9 : ys9.length ≤ 3 := by
      rw [hP9.length]
      unfold dueF
      rw [List.length_map]
      exact List.length_filter_le _ _
    have S10 : St σ1 h₀ ((D9, .lst ys9) :: (I, liE l (i + 1)) :: (l, .lst vs) :: (L, .ns m') :: (L + 2, .cel (some (.int k t))) :: (du', .lst dv) :: ((Es9 ++ Es) ++ B)) s9 := S9.perm (by
      rw [List.append_assoc]
      refine List.Perm.cons _ ?_
      show List.Perm ([_, _, _, _, _] ++ (Es9 ++ (Es ++ B))) (Es9 ++ ([_, _, _, _, _] ++ (Es ++ B)))
      exact List.perm_append_comm_assoc _ _ _)
    have zi : i < 1000 := by omega
    repeat walk_at "nd"
    rename_i S11
    obtain ⟨m8, du8, S12, g1, g2⟩ : ∃ m8 du8, St σ1 h₀ ((I, liE l (i + 1)) :: (l, .lst vs) :: (L, .ns m8) :: (L + 2, .cel (some (.int k t))) :: (du8, .lst (dv ++ ys9)) :: ((Es9 ++ Es) ++ B)) _ ∧ m8 "due" = some (.ref du8) ∧ (∀ y : Str, y ≠ "due" → m8 y = m y) :=
      ⟨_, _, S11.sel (by walk_at "sel"), by exact rfl, by intro y hy; rw [if_neg hy]; exact hm' y hy⟩
    refine ⟨_, ⟨m8, _, du8, dv ++ ys9, Es9 ++ Es, rfl, g1, g2, ?_, ?_⟩, S12⟩
    · rw [take_succ_get hk, List.flatMap_append]
      refine (hP.mono fun e he => List.mem_append.mpr (.inr he)).append ?_
      have := hP9.mono (Es' := Es9 ++ Es) fun e he => List.mem_append.mpr (.inl he)
      simpa using this
    · rw [List.length_append]; omega
  · rintro N' s4 ⟨m', y2', du', dv, Es, rfl, hd', hm', hP, zd⟩ S4
    rw [hlen, List.take_length] at hP
    subst hσ1
    exact h _ _ _ _ _ _ _ _ okz hP hd' hm' (S4.sel (by walk_at "sel"))
end
section
variable {prog : Program} {w : World} {A : Around} {σ : Shared} {h₀ : Heap} {N : Led} {s : Shared} {env : Env} {E : Value → Shared → Prop} {mg mb : Str → Option Value} {n : Nat} {ad : Ads}
theorem isTuple_at (S : St σ h₀ N s) {p : Addr} {vs : List Value} (h : (p, .tup vs) ∈ N) : s.heap.IsTuple p vs.toArray := by
  obtain ⟨o, ho, n, rfl⟩ := S.at h
  exact ⟨_, ho, rfl, n, rfl⟩
theorem eqAt_pair {p q : Addr} {a i : Int} {ta ti tb tj : Tok} (S : St σ h₀ N s) (hp : (p, .tup [.int a ta, .int i ti]) ∈ N) (hq : (q, .tup [.int a tb, .int i tj]) ∈ N) (hu : A.units < cLine) : SeqAt.EqAt A s (.ref p) (.ref q) true := by
  by_cases e : p = q
  · subst e; exact SeqAt.EqAt.same _
  · refine SeqAt.EqAt.of_refs e ?_
    have := SeqAt.RcAt.tuples (e := fun _ => true) (A := A) (isTuple_at S hp) (isTuple_at S hq) hu (fun j h1 h2 => by
      have hj : j = 0 ∨ j = 1 := by have : j < 2 := h1; omega
      rcases hj with rfl | rfl
      · have := SeqAt.EqAt.int_int (A := A.in1) (s := s) a ta a tb
        rw [beq_self_eq_true] at this
        exact this
      · have := SeqAt.EqAt.int_int (A := A.in1) (s := s) i ti i tj
        rw [beq_self_eq_true] at this
        exact this)
    exact this
theorem Pairs.eqAt {Es Es' : Led} {vs us : List Value} {prs : List (Int × Int)} (S : St σ h₀ N s) (h : Pairs Es vs prs) (h' : Pairs Es' us prs) (hE : ∀ e ∈ Es, e ∈ N) (hE' : ∀ e ∈ Es', e ∈ N) (hu : A.units < cLine) : ∀ j (h1 : j < vs.length) (h2 : j < us.length), SeqAt.EqAt A s vs[j] us[j] true := by
  induction h generalizing us with
  | nil => intro j h1; cases h1
  | cons hm hr ih =>
    cases h' with
    | cons hm' hr' =>
      intro j h1 h2
      cases j with
      | zero => exact eqAt_pair S (hE _ hm) (hE' _ hm') hu
      | succ j => exact ih hr' j (by simpa using h1) (by simpa using h2)
/-- two lists of the same pairs are equal -/
theorem eq_pairs {l b : Addr} {Es Es' : Led} {vs us : List Value} {prs : List (Int × Int)} {Q : Value → Shared → Prop} (S : St σ h₀ N s) (hl : (l, .lst vs) ∈ N) (hb : (b, .lst us) ∈ N) (h : Pairs Es vs prs) (h' : Pairs Es' us prs) (hE : ∀ e ∈ Es, e ∈ N) (hE' : ∀ e ∈ Es', e ∈ N) (Rm : Room A 10)
    (hQ : Q (.bool true) s) : wpAny (model prog w) A (compareOp .Eq (.ref l) (.ref b)) Q E s := by
  refine SeqAt.eq_listAt (e := fun _ => true) (S.isList hl) (S.isList hb) (by rw [List.size_toArray, List.size_toArray, h.length, h'.length]) (by have := Rm.u; omega) (fun j h1 h2 => ?_) ?_
  · simp only [List.getElem_toArray]
    exact h.eqAt S h' hE hE' (by have := Rm.u; show A.units + 1 < _; omega) j (by simpa using h1) (by simpa using h2)
  · rw [show (List.range vs.toArray.size).all (fun _ => true) = true from by simp]
    exact hQ
end
theorem mem_prsF {X : Nat → List Int} {n : Nat} {x : Int × Int} : x ∈ prsF X n ↔ ∃ p, p < n ∧ x.1 ∈ X p ∧ x.2 = (p : Int) := by
  unfold prsF
  simp only [List.mem_flatten, List.mem_map, List.mem_range]
  constructor
  · rintro ⟨l, ⟨p, hp, rfl⟩, hx⟩
    obtain ⟨k, hk, rfl⟩ := List.mem_map.mp hx
    exact ⟨p, hp, hk, rfl⟩
  · rintro ⟨p, hp, h1, h2⟩
    refine ⟨_, ⟨p, hp, rfl⟩, List.mem_map.mpr ⟨x.1, h1, ?_⟩⟩
    rw [← h2]
theorem nodup_prsF {X : Nat → List Int} (hX : ∀ p, (X p).Nodup) : ∀ n, (prsF X n).Nodup := by
  intro n
  induction n with
  | zero => simp [prsF]
  | succ n ih =>
    rw [prsF_succ, List.nodup_append]
    refine ⟨ih, ?_, ?_⟩
    · exact (List.pairwise_map.mpr ((hX n).imp fun {a b} h e => h (Prod.mk.inj e).1))
    · rintro a ha b hb rfl
      obtain ⟨p, hp, _, h2⟩ := mem_prsF.mp ha
      obtain ⟨k, _, rfl⟩ := List.mem_map.mp hb
      dsimp only at h2
      omega
theorem mem_dueF {X : Nat → List Int} {k : Int} {n : Nat} {x : Int × Int} : x ∈ dueF X k n ↔ x.1 = k ∧ ∃ p, p < n ∧ k ∈ X p ∧ x.2 = (p : Int) := by
  unfold dueF
  simp only [List.mem_map, List.mem_filter, List.mem_range, List.any_eq_true, beq_iff_eq, exists_eq_right]
  constructor
  · rintro ⟨p, ⟨h1, h2⟩, rfl⟩; exact ⟨rfl, p, h1, h2, rfl⟩
  · rintro ⟨h1, p, h2, h3, h4⟩
    refine ⟨p, ⟨h2, h3⟩, ?_⟩
    rw [← h1, ← h4]
theorem ltp_of_lt {a b : Int × Int} (h : a.1 < b.1) : ltp b a = false := by
  unfold ltp
  rw [if_neg (by omega)]
  simp; omega
theorem due_sorted {X : Nat → List Int} {k : Int} {n : Nat} : (dueF X k n).Pairwise (fun a b => ltp b a = false) ∧ (dueF X k n).Nodup := by
  have : ((List.range n).filter fun p => (X p).any (· == k)).Pairwise (· < ·) := List.pairwise_lt_range.sublist List.filter_sublist
  unfold dueF
  constructor
  · rw [List.pairwise_map]
    refine this.imp fun {a b} h => ?_
    unfold ltp
    rw [if_pos rfl]
    simp; omega
  · unfold List.Nodup
    rw [List.pairwise_map]
    refine this.imp fun {a b} h e => ?_
    have := (Prod.mk.inj e).2
    omega
theorem line_due {X : Nat → List Int} (hX : ∀ p, (X p).Nodup) {Z : List Int} (hZs : Z.Pairwise (· < ·)) (hZ : ∀ k, k ∈ Z ↔ ∃ p, p < 3 ∧ k ∈ X p) {LP : List (Int × Int)} (hp : LP.Perm (prsF X 3)) (hs : LP.Pairwise fun a b => ltp b a = false) :
    LP = Z.flatMap fun k => dueF X k 3 := by
  have hDs : (Z.flatMap fun k => dueF X k 3).Pairwise (fun a b => ltp b a = false) ∧ (Z.flatMap fun k => dueF X k 3).Nodup := by
    clear hZ
    induction Z with
    | nil => exact ⟨.nil, .nil⟩
    | cons k Z ih =>
      rw [List.pairwise_cons] at hZs
      obtain ⟨i1, i2⟩ := ih hZs.2
      rw [List.flatMap_cons]
      have hlt : ∀ a ∈ dueF X k 3, ∀ b ∈ Z.flatMap fun k => dueF X k 3, a.1 < b.1 := by
        intro a ha b hb
        obtain ⟨z, hz, hb⟩ := List.mem_flatMap.mp hb
        rw [(mem_dueF.mp ha).1, (mem_dueF.mp hb).1]
        exact hZs.1 z hz
      refine ⟨List.pairwise_append.mpr ⟨due_sorted.1, i1, fun a ha b hb => ltp_of_lt (hlt a ha b hb)⟩, List.nodup_append.mpr ⟨due_sorted.2, i2, fun a ha b hb e => ?_⟩⟩
      have := hlt a ha b hb
      rw [e] at this
      omega
  have hperm : LP.Perm (Z.flatMap fun k => dueF X k 3) := by
    refine hp.trans ((List.perm_ext_iff_of_nodup (nodup_prsF hX 3) hDs.2).mpr fun x => ?_)
    rw [mem_prsF, List.mem_flatMap]
    constructor
    · rintro ⟨p, h1, h2, h3⟩
      exact ⟨x.1, (hZ _).mpr ⟨p, h1, h2⟩, mem_dueF.mpr ⟨rfl, p, h1, h2, h3⟩⟩
    · rintro ⟨k, hk, hx⟩
      obtain ⟨rfl, p, h1, h2, h3⟩ := mem_dueF.mp hx
      exact ⟨p, h1, h2, h3⟩
  refine hperm.eq_of_pairwise (fun a b _ _ h1 h2 => ?_) hs hDs.1
  unfold ltp at h1 h2
  refine Prod.ext ?_ ?_
  · split at h1
    · rename_i e; exact e.symm
    · split at h2
      · rename_i e; exact e
      · simp at h1 h2; omega
  · split at h1 <;> split at h2 <;> simp at h1 h2 <;> omega
theorem len_count {A Z : List Int} (hA : A.Nodup) (hZ : Z.Nodup) (h : ∀ k ∈ A, k ∈ Z) : A.length = Z.countP fun z => A.any (· == z) := by
  rw [List.countP_eq_length_filter]
  refine nodup_len hA (hZ.sublist List.filter_sublist) fun k => ?_
  rw [List.mem_filter]
  simp only [List.any_eq_true, beq_iff_eq, exists_eq_right]
  exact ⟨fun hk => ⟨h k hk, hk⟩, fun hk => hk.2⟩
theorem inter_count {X : Nat → List Int} (hX : ∀ p, (X p).Nodup) {Z : List Int} (hZ : Z.Nodup) (h : ∀ p, p < 3 → ∀ k ∈ X p, k ∈ Z) {p0 : Nat} {ps : List Nat} (hp : p0 < 3) : interL X (p0 :: ps) = Z.countP fun z => inAll X (p0 :: ps) z := by
  show ((X p0).filter fun k => inAll X (p0 :: ps) k).length = _
  rw [len_count ((hX p0).sublist List.filter_sublist) hZ (fun k hk => h p0 hp k (List.mem_filter.mp hk).1)]
  refine List.countP_congr fun z _ => ?_
  simp only [List.any_eq_true, beq_iff_eq, exists_eq_right, List.mem_filter]
  constructor
  · rintro ⟨_, h⟩; exact h
  · intro h; exact ⟨inAll_iff.mp h _ (.head _), h⟩
theorem incl (a b c : Int → Bool) : ∀ (Z : List Int), (∀ z ∈ Z, a z = true ∨ b z = true ∨ c z = true) →
    ((Z.countP a : Nat) : Int) + (Z.countP b : Nat) - (Z.countP fun z => a z && b z : Nat) + (Z.countP c : Nat) - (Z.countP fun z => a z && c z : Nat) - (Z.countP fun z => b z && c z : Nat) + (Z.countP fun z => a z && (b z && c z) : Nat) = (Z.length : Int)
  | [], _ => by simp
  | z :: Z, h => by
    have ih := incl a b c Z fun z hz => h z (.tail _ hz)
    have h0 := h z (.head _)
    simp only [List.countP_cons, List.length_cons]
    cases ha : a z <;> cases hb : b z <;> cases hc : c z <;> simp [ha, hb, hc] at h0 ⊢ <;> omega
theorem total_eq {X : Nat → List Int} (hX : ∀ p, (X p).Nodup) {Z : List Int} (hZ : Z.Nodup) (hm : ∀ k, k ∈ Z ↔ ∃ p, p < 3 ∧ k ∈ X p) : totS X 7 = (Z.length : Int) := by
  have h : ∀ p, p < 3 → ∀ k ∈ X p, k ∈ Z := fun p hp k hk => (hm k).mpr ⟨p, hp, hk⟩
  have e1 : psF 1 3 = [0] := rfl
  have e2 : psF 2 3 = [1] := rfl
  have e3 : psF 3 3 = [0, 1] := rfl
  have e4 : psF 4 3 = [2] := rfl
  have e5 : psF 5 3 = [0, 2] := rfl
  have e6 : psF 6 3 = [1, 2] := rfl
  have e7 : psF 7 3 = [0, 1, 2] := rfl
  have s1 : sgF X 1 = (Z.countP fun z => inAll X [0] z : Nat) := by unfold sgF; rw [e1, inter_count hX hZ h (by decide)]; rfl
  have s2 : sgF X 2 = (Z.countP fun z => inAll X [1] z : Nat) := by unfold sgF; rw [e2, inter_count hX hZ h (by decide)]; rfl
  have s3 : sgF X 3 = -(Z.countP fun z => inAll X [0, 1] z : Nat) := by unfold sgF; rw [e3, inter_count hX hZ h (by decide)]; rfl
  have s4 : sgF X 4 = (Z.countP fun z => inAll X [2] z : Nat) := by unfold sgF; rw [e4, inter_count hX hZ h (by decide)]; rfl
  have s5 : sgF X 5 = -(Z.countP fun z => inAll X [0, 2] z : Nat) := by unfold sgF; rw [e5, inter_count hX hZ h (by decide)]; rfl
  have s6 : sgF X 6 = -(Z.countP fun z => inAll X [1, 2] z : Nat) := by unfold sgF; rw [e6, inter_count hX hZ h (by decide)]; rfl
  have s7 : sgF X 7 = (Z.countP fun z => inAll X [0, 1, 2] z : Nat) := by unfold sgF; rw [e7, inter_count hX hZ h (by decide)]; rfl
  have hT : totS X 7 = 0 + sgF X 1 + sgF X 2 + sgF X 3 + sgF X 4 + sgF X 5 + sgF X 6 + sgF X 7 := rfl
  have split : ∀ (p : Nat) (ps : List Nat) (z : Int), inAll X (p :: ps) z = (inAll X [p] z && inAll X ps z) := fun p ps z => by
    rw [Bool.eq_iff_iff, Bool.and_eq_true, inAll_iff, inAll_iff, inAll_iff]
    simp
  have hI := incl (inAll X [0]) (inAll X [1]) (inAll X [2]) Z (fun z hz => by
    obtain ⟨p, hp, hk⟩ := (hm z).mp hz
    have : p = 0 ∨ p = 1 ∨ p = 2 := by omega
    rcases this with rfl | rfl | rfl
    · exact .inl (inAll_iff.mpr (by simpa using hk))
    · exact .inr (.inl (inAll_iff.mpr (by simpa using hk)))
    · exact .inr (.inr (inAll_iff.mpr (by simpa using hk))))
  have f3 : (Z.countP fun z => inAll X [0, 1] z) = Z.countP fun z => inAll X [0] z && inAll X [1] z := List.countP_congr fun z _ => by rw [split 0 [1] z]
  have f5 : (Z.countP fun z => inAll X [0, 2] z) = Z.countP fun z => inAll X [0] z && inAll X [2] z := List.countP_congr fun z _ => by rw [split 0 [2] z]
  have f6 : (Z.countP fun z => inAll X [1, 2] z) = Z.countP fun z => inAll X [1] z && inAll X [2] z := List.countP_congr fun z _ => by rw [split 1 [2] z]
  have f7 : (Z.countP fun z => inAll X [0, 1, 2] z) = Z.countP fun z => inAll X [0] z && (inAll X [1] z && inAll X [2] z) := List.countP_congr fun z _ => by rw [split 0 [1, 2] z, split 1 [2] z]
  rw [f3] at s3
  rw [f5] at s5
  rw [f6] at s6
  rw [f7] at s7
  have s1' : sgF X 1 = (Z.countP (inAll X [0]) : Nat) := s1
  have s2' : sgF X 2 = (Z.countP (inAll X [1]) : Nat) := s2
  have s4' : sgF X 4 = (Z.countP (inAll X [2]) : Nat) := s4
  clear s1 s2 s4 f3 f5 f6 f7
  omega
/-- len(set(..)) of statement 18 -/
def len18 : Expr := match lstm 18 with
  | .Return (some (.BoolOp _ [_, .Compare _ _ [e] _] _)) _ => e
  | _ => .Name "" ⟨0, 0, 0, 0⟩
section
variable {prog : Program} {w : World} {A : Around} {σ : Shared} {h₀ : Heap} {N : Led} {s : Shared} {env : Env} {E : Value → Shared → Prop} {mg mb : Str → Option Value} {n : Nat} {ad : Ads}
theorem law18 {L a c ln du : Addr} {m : Str → Option Value} {lv dv : List Value} {prs : List (Int × Int)} {T : Int} {tt : Tok} {Es Es' R : Led} {Q : Flow → Shared → Prop}
    (S : St σ h₀ ((L, .ns m) :: R) s) (Rm : Room A 200) (hl : m "line" = some (.ref ln)) (hd : m "due" = some (.ref du)) (ht : m "total" = some (.int T tt)) (ml : (ln, .lst lv) ∈ R) (md : (du, .lst dv) ∈ R) (hP : Pairs Es lv prs) (hP' : Pairs Es' dv prs) (hE : ∀ e ∈ Es, e ∈ R) (hE' : ∀ e ∈ Es', e ∈ R)
    (hls : ∀ s, St σ h₀ ((L, .ns m) :: R) s → ∀ Q' : Value → Shared → Prop, (∀ s' t, St σ h₀ ((L, .ns m) :: R) s' → Q' (.int T t) s') → wpAny (model prog w) A (eval len18 (lenv L a c)) Q' NoE s)
    (h : ∀ s', St σ h₀ ((L, .ns m) :: R) s' → Q (.ret (.bool true)) s') : wpAny (model prog w) A (exec (lstm 18) (lenv L a c)) Q NoE s := by
  show wpAny _ _ (exec (.Return (some (.BoolOp .And [.Compare _ _ _ _, .Compare _ _ [len18] _] _)) _) _) _ _ _
  refine wpAny_Return_some ?_
  refine BoolOp_and ?_
  refine wpAny_Compare1 ?_
  refine name_l S (.head _) hl ?_
  refine name_l S (.head _) hd ?_
  refine eq_pairs S (.tail _ ml) (.tail _ md) hP hP' (fun e he => .tail _ (hE e he)) (fun e he => .tail _ (hE' e he)) (Rm.le (by decide)) ?_
  refine wpAny_truthy_bool (ite_tt (BoolOp_one (wpAny_Compare1 ?_)))
  refine name_l S (.head _) ht ?_
  refine hls _ S _ ?_
  intro s1 t1 S1
  refine P.eq_int ?_
  rw [beq_self_eq_true]
  exact h _ S1
end
theorem map_range_getD (l : List Int) : (List.range l.length).map (fun i => l.getD i 0) = l := by
  refine List.ext_getElem (by simp) fun i h1 h2 => ?_
  rw [List.getElem_map, List.getElem_range, List.getD_eq_getElem?_getD, List.getElem?_eq_getElem h2]; rfl
section
variable {prog : Program} {w : World} {A : Around} {σ : Shared} {h₀ : Heap} {N : Led} {s : Shared} {env : Env} {E : Value → Shared → Prop} {mg mb : Str → Option Value} {n : Nat} {ad : Ads}
theorem len18_e {L a c rl r0 r1 r2 : Addr} {v0 v1 v2 : List Value} {X0 X1 X2 : List Int} {Q : Value → Shared → Prop} (S : St σ h₀ N s) (W : Wd ad mg mb h₀) (Rm : Room A 100) (h1 : (L + 1, .cel (some (.ref rl))) ∈ N) (hr : (rl, .lst [.ref r0, .ref r1, .ref r2]) ∈ N) (m0 : (r0, .lst v0) ∈ N) (m1 : (r1, .lst v1) ∈ N) (m2 : (r2, .lst v2) ∈ N)
    (i0 : Ints v0 X0) (i1 : Ints v1 X1) (i2 : Ints v2 X2) (z0 : v0.length ≤ 13) (z1 : v1.length ≤ 13) (z2 : v2.length ≤ 13)
    (h : ∀ s' t, St σ h₀ N s' → Q (.int ((X0 ++ X1 ++ X2).foldl step_dedup []).length t) s') :
    wpAny (model prog w) A (eval len18 (lenv L a c)) Q NoE s := by
  show wpAny _ _ (eval (.Call _ _ _ _) _) _ _ _
  repeat walk_at "nd"
  refine sub_n 0 (by walk_at "st") hr rfl (by show (0 : Nat) < 3; decide) (by show (3 : Nat) < _; decide) ?_
  repeat walk_at "nd"
  refine sub_n 1 (by walk_at "st") hr rfl (by show (1 : Nat) < 3; decide) (by show (3 : Nat) < _; decide) ?_
  show wpAny _ _ (binaryOp .Add (.ref r0) (.ref r1)) _ _ _
  repeat walk_at "nd"
  refine sub_n 2 (by walk_at "st") (.tail _ hr) rfl (by show (2 : Nat) < 3; decide) (by show (3 : Nat) < _; decide) ?_
  show wpAny _ _ (binaryOp .Add _ (.ref r2)) _ _ _
  repeat walk_at "nd"
  rename_i S3
  have ia := (i0.append i1).append i2
  have hl := S3.isList (.head _)
  refine call_set_list (ns := X0 ++ X1 ++ X2) Rm.h hl ia.are (by rw [List.size_toArray]; simp [scanBound]; omega) ?_
  intro h' tk hS hk
  have e : firstMet (fun i => (X0 ++ X1 ++ X2).getD i 0) (v0 ++ v1 ++ v2).toArray.size = (X0 ++ X1 ++ X2).foldl step_dedup [] := by
    unfold firstMet
    rw [List.size_toArray, ia.length, map_range_getD]
  rw [e] at hS
  obtain ⟨o, es, ep, t, ho, hex, hd, _, _, _, hf, hn⟩ := hS
  refine args_nil ?_
  refine call_len_set ho hex hd hf ?_ ?_
  · have q1 := foldl_step_dedup_nil_length_le (X0 ++ X1 ++ X2)
    have q2 := i0.length
    have q3 := i1.length
    have q4 := i2.length
    rw [hn]
    simp only [List.length_append] at q1
    omega
  · rw [hn]
    refine h _ _ ((S3.sel (by walk_at "sel") : St σ h₀ N _).ext ?_)
    intro b o e
    exact hk b o (Heap.lt_size e) e
end
theorem dedup_facts : ∀ (l acc : List Int), acc.Nodup → (l.foldl step_dedup acc).Nodup ∧ ∀ k, k ∈ l.foldl step_dedup acc ↔ k ∈ acc ∨ k ∈ l
  | [], acc, h => ⟨h, fun k => by simp⟩
  | x :: l, acc, h => by
    have hs : (step_dedup acc x).Nodup ∧ ∀ k, k ∈ step_dedup acc x ↔ k ∈ acc ∨ k = x := by
      unfold step_dedup
      split
      · rename_i hx
        simp only [List.any_eq_true, beq_iff_eq, exists_eq_right] at hx
        refine ⟨h, fun k => ⟨.inl, ?_⟩⟩
        rintro (hk | rfl)
        · exact hk
        · exact hx
      · rename_i hx
        simp only [List.any_eq_true, beq_iff_eq, exists_eq_right] at hx
        refine ⟨List.nodup_append.mpr ⟨h, by simp, fun a ha b hb e => ?_⟩, fun k => by simp⟩
        rcases List.mem_singleton.mp hb with rfl
        exact hx (e ▸ ha)
    obtain ⟨r1, r2⟩ := dedup_facts l (step_dedup acc x) hs.1
    refine ⟨r1, fun k => ?_⟩
    rw [List.foldl_cons, r2, hs.2, List.mem_cons, or_assoc]
/-- the distinct numbers of three rows, in order: as many as set(..) has -/
theorem dedup_len {X0 X1 X2 Z : List Int} (hZ : Z.Nodup) (hm : ∀ k, k ∈ Z ↔ ∃ p, p < 3 ∧ k ∈ of3 X0 X1 X2 p) : ((X0 ++ X1 ++ X2).foldl step_dedup []).length = Z.length := by
  obtain ⟨h1, h2⟩ := dedup_facts (X0 ++ X1 ++ X2) [] .nil
  refine nodup_len h1 hZ fun k => ?_
  rw [h2, hm]
  simp only [List.not_mem_nil, false_or, List.mem_append]
  constructor
  · rintro ((h | h) | h)
    · exact ⟨0, by decide, h⟩
    · exact ⟨1, by decide, h⟩
    · exact ⟨2, by decide, h⟩
  · rintro ⟨p, hp, h⟩
    have : p = 0 ∨ p = 1 ∨ p = 2 := by omega
    rcases this with rfl | rfl | rfl
    · exact .inl (.inl h)
    · exact .inl (.inr h)
    · exact .inr h
/-- strictly rising -/
def Rise (xs : Array Nat) : Prop := ∀ i j, i < j → j < xs.size → xs.getD i 0 < xs.getD j 0
theorem below_go {xs : Array Nat} (hR : Rise xs) (j : Nat) : ∀ (f lo hi : Nat), hi - lo ≤ f → lo ≤ hi → hi ≤ xs.size → (∀ i, i < lo → xs.getD i 0 < j) → (∀ i, hi ≤ i → i < xs.size → j ≤ xs.getD i 0) →
    let r := SetTable.below.go xs j f lo hi
    r ≤ xs.size ∧ (∀ i, i < r → xs.getD i 0 < j) ∧ (∀ i, r ≤ i → i < xs.size → j ≤ xs.getD i 0) := by
  intro f
  induction f with
  | zero =>
    intro lo hi hf hlh hs h1 h2
    have : lo = hi := by omega
    subst this
    exact ⟨hs, h1, h2⟩
  | succ f ih =>
    intro lo hi hf hlh hs h1 h2
    unfold SetTable.below.go
    by_cases hl : lo < hi
    · rw [if_pos hl]
      dsimp only
      have hm : (lo + hi) / 2 < xs.size := by omega
      have hd : xs.getD ((lo + hi) / 2) j = xs.getD ((lo + hi) / 2) 0 := by simp [Array.getD, hm]
      by_cases hc : xs.getD ((lo + hi) / 2) j < j
      · rw [if_pos hc]
        refine ih _ _ (by omega) (by omega) hs (fun i hi' => ?_) h2
        by_cases e : i = (lo + hi) / 2
        · rw [e, ← hd]; exact hc
        · have := hR i ((lo + hi) / 2) (by omega) hm
          omega
      · rw [if_neg hc]
        refine ih _ _ (by omega) (by omega) (by omega) h1 (fun i hi' his => ?_)
        by_cases e : i = (lo + hi) / 2
        · rw [e, ← hd]; omega
        · have := hR ((lo + hi) / 2) i (by omega) his
          omega
    · rw [if_neg hl]
      have : lo = hi := by omega
      subst this
      exact ⟨hs, h1, h2⟩
theorem below_spec {xs : Array Nat} (hR : Rise xs) (j : Nat) : SetTable.below xs j ≤ xs.size ∧ (∀ i, i < SetTable.below xs j → xs.getD i 0 < j) ∧ (∀ i, SetTable.below xs j ≤ i → i < xs.size → j ≤ xs.getD i 0) :=
  below_go hR j xs.size 0 xs.size (by omega) (Nat.zero_le _) (Nat.le_refl _) (fun i h => by omega) (fun i h h' => by omega)
/-- the next place behind place i -/
theorem below_next {xs : Array Nat} (hR : Rise xs) {i : Nat} (hi : i < xs.size) : SetTable.below xs (xs.getD i 0 + 1) = i + 1 := by
  obtain ⟨h1, h2, h3⟩ := below_spec hR (xs.getD i 0 + 1)
  have a1 : ¬ SetTable.below xs (xs.getD i 0 + 1) ≤ i := fun h => by have := h3 i h hi; omega
  have a2 : ¬ i + 1 < SetTable.below xs (xs.getD i 0 + 1) := fun h => by
    have b1 := h2 (i + 1) h
    have b2 := hR i (i + 1) (by omega) (by omega)
    omega
  omega
theorem below_zero {xs : Array Nat} (hR : Rise xs) : SetTable.below xs 0 = 0 := by
  obtain ⟨h1, h2, h3⟩ := below_spec hR 0
  by_cases h : SetTable.below xs 0 = 0
  · exact h
  · have := h2 0 (by omega); omega
theorem insertAt_size {α : Type} {xs : Array α} {p : Nat} {x : α} (hp : p ≤ xs.size) : (SetTable.insertAt xs p x).size = xs.size + 1 := by
  unfold SetTable.insertAt
  simp
  omega
theorem insertAt_get {xs : Array Nat} {p x : Nat} (hp : p ≤ xs.size) (i : Nat) (hi : i < xs.size + 1) : (SetTable.insertAt xs p x).getD i 0 = if i < p then xs.getD i 0 else if i = p then x else xs.getD (i - 1) 0 := by
  have hs := insertAt_size (x := x) hp
  have hl : (SetTable.insertAt xs p x).toList = xs.toList.take p ++ x :: xs.toList.drop p := by
    unfold SetTable.insertAt
    simp [Array.toList_extract, List.take_of_length_le]
  have hg : (SetTable.insertAt xs p x).getD i 0 = (SetTable.insertAt xs p x).toList.getD i 0 := by simp [Array.getD, List.getD_eq_getElem?_getD]; split <;> simp_all
  have hg2 : ∀ k, xs.getD k 0 = xs.toList.getD k 0 := fun k => by simp [Array.getD, List.getD_eq_getElem?_getD]; split <;> simp_all
  rw [hg, hl, hg2, hg2]
  have htl : (xs.toList.take p).length = p := by rw [List.length_take]; simp; omega
  rw [List.getD_eq_getElem?_getD, List.getElem?_append]
  rw [htl]
  split
  · rename_i h
    rw [List.getElem?_take_of_lt h, ← List.getD_eq_getElem?_getD]
  · rename_i h
    by_cases e : i = p
    · subst e; simp
    · rw [if_neg e]
      obtain ⟨k, hk⟩ : ∃ k, i - p = k + 1 := ⟨i - p - 1, by omega⟩
      rw [hk, List.getElem?_cons_succ, List.getElem?_drop, ← List.getD_eq_getElem?_getD]
      congr 1
      omega
theorem Rise.insert {xs : Array Nat} (hR : Rise xs) {j : Nat} (hj : xs[SetTable.below xs j]? ≠ some j) : Rise (SetTable.insertAt xs (SetTable.below xs j) j) := by
  obtain ⟨h1, h2, h3⟩ := below_spec hR j
  have h4 : ∀ i, SetTable.below xs j ≤ i → i < xs.size → j < xs.getD i 0 := by
    intro i hi his
    have a := h3 i hi his
    by_cases e : i = SetTable.below xs j
    · subst e
      have : xs.getD (SetTable.below xs j) 0 ≠ j := fun e' => hj (by simp [Array.getD, his] at e'; simp [his, e'])
      omega
    · have b := h3 (SetTable.below xs j) (Nat.le_refl _) (by omega)
      have := hR (SetTable.below xs j) i (by omega) his
      omega
  intro a b hab hb
  rw [insertAt_size h1] at hb
  rw [insertAt_get h1 a (by omega), insertAt_get h1 b hb]
  generalize SetTable.below xs j = p at *
  by_cases c1 : a < p
  · rw [if_pos c1]
    by_cases c2 : b < p
    · rw [if_pos c2]; exact hR a b hab (by omega)
    · rw [if_neg c2]
      by_cases c3 : b = p
      · rw [if_pos c3]; exact h2 a c1
      · rw [if_neg c3]; have := h2 a c1; have := h4 (b - 1) (by omega) (by omega); omega
  · rw [if_neg c1]
    by_cases c2 : a = p
    · rw [if_pos c2, if_neg (by omega), if_neg (by omega)]; exact h4 (b - 1) (by omega) (by omega)
    · rw [if_neg c2, if_neg (by omega), if_neg (by omega)]; exact hR (a - 1) (b - 1) (by omega) (by omega)
theorem rise_of_list {l : List Nat} (h : l.Pairwise (· < ·)) : Rise l.toArray := by
  intro i j hij hj
  rw [List.size_toArray] at hj
  have := List.pairwise_iff_getElem.mp h i j (by omega) hj hij
  have hi : i < l.length := by omega
  simp [Array.getD, hi, hj]
  exact this
theorem laid_rise {mask finger moves : Nat} {led plain : Bool} {hashes : Array Int} {t : SetTable} {o : Array Nat} (h : SetTable.laid mask finger moves led plain hashes = some (t, o)) : Rise t.place ∧ t.led = led ∧ t.plain = plain ∧ t.dummies = #[] := by
  unfold SetTable.laid at h
  cases q : SetTable.layClean mask hashes with
  | none => rw [q] at h; cases h
  | some owner =>
    rw [q] at h
    have h' := Option.some.inj h
    rw [Prod.mk.injEq] at h'
    rw [← h'.1]
    refine ⟨rise_of_list ?_, rfl, rfl, rfl⟩
    rw [List.pairwise_map]
    refine List.Pairwise.filterMap _ (R := (· < ·)) ?_ List.pairwise_lt_range
    intro a b hab x hx y hy
    rw [Option.map_eq_some_iff] at hx hy
    obtain ⟨_, _, rfl⟩ := hx
    obtain ⟨_, _, rfl⟩ := hy
    exact hab
def NotLive (t : SetTable) (j : Nat) : Prop := t.place[SetTable.below t.place j]? ≠ some j
theorem slot_notlive {t : SetTable} {j : Nat} (h : ∀ i, t.slot j ≠ .live i) : NotLive t j := by
  intro e
  refine h (SetTable.below t.place j) ?_
  unfold SetTable.slot
  dsimp only
  rw [e, if_pos (by simp)]
theorem probe_go {t : SetTable} {hashAt : Nat → Int} {h : Int} : ∀ (f : Nat) (p : SetTable.Probe) (j : Nat) (dm : Option Nat), SetTable.probe.go t hashAt h f p = some (.empty j dm) → (∀ d, p.dummy = some d → NotLive t d) → NotLive t j ∧ ∀ d, dm = some d → NotLive t d := by
  intro f
  induction f with
  | zero => intro p j dm e; simp [SetTable.probe.go] at e
  | succ f ih =>
    intro p j dm e hp
    unfold SetTable.probe.go at e
    have hadv : ∀ p : SetTable.Probe, (t.advance p).dummy = p.dummy := fun p => by unfold SetTable.advance; split <;> rfl
    cases q : t.slot p.j with
    | empty =>
      rw [q] at e
      injection e with e
      injection e with e1 e2
      subst e1 e2
      exact ⟨slot_notlive fun i => by rw [q]; simp, hp⟩
    | dummy =>
      rw [q] at e
      refine ih _ _ _ e fun d hd => ?_
      rw [hadv] at hd
      injection hd with hd
      subst hd
      exact slot_notlive fun i => by rw [q]; simp
    | live i =>
      rw [q] at e
      dsimp only at e
      split at e
      · cases e
      · exact ih _ _ _ e fun d hd => hp d (by rw [hadv] at hd; exact hd)
theorem free_notlive {t : SetTable} {h : Int} {slot : Nat} {wd : Bool} (e : t.freeSlot h = some (slot, wd)) : NotLive t slot := by
  unfold SetTable.freeSlot SetTable.probe at e
  split at e
  · rename_i j dm q
    obtain ⟨h1, h2⟩ := probe_go _ _ _ _ q (fun d hd => by simp [SetTable.probeStart] at hd)
    injection e with e
    injection e with e1 e2
    subst e1
    cases dm with
    | none => exact h1
    | some d => exact h2 d rfl
  · cases e
theorem layNew_rise {t : SetTable} {es : Array (Int × Value)} {h : Int} {x : Value} (hR : t.plain = true → Rise t.place) : ((layNew t es h x).2.1.plain = true → Rise (layNew t es h x).2.1.place) ∧ (layNew t es h x).2.1.led = t.led := by
  unfold layNew
  cases q : t.freeSlot h with
  | none => exact ⟨fun h => by simp [SetTable.standIn] at h, rfl⟩
  | some r =>
    obtain ⟨slot, wd⟩ := r
    dsimp only
    unfold SetTable.orStandIn
    split
    · refine ⟨fun hp => ?_, rfl⟩
      exact (hR hp).insert (free_notlive q)
    · exact ⟨fun h => by simp [SetTable.standIn] at h, rfl⟩
theorem relayAll_rise {t : SetTable} {es : Array (Int × Value)} {n : Nat} : ((relayAll t es n).2.1.plain = true → Rise (relayAll t es n).2.1.place) ∧ (relayAll t es n).2.1.led = t.led := by
  unfold relayAll
  cases q : t.relaid (es.map (·.1)) n with
  | none => exact ⟨fun h => by simp [SetTable.standIn] at h, rfl⟩
  | some r =>
    obtain ⟨t', o⟩ := r
    obtain ⟨h1, h2, h3, h4⟩ := laid_rise q
    dsimp only
    split
    · exact ⟨fun _ => h1, h2⟩
    · exact ⟨fun h => by simp [SetTable.standIn] at h, rfl⟩
/-- a set of ints whose table is in order -/
def SetR (prog : Program) (w : World) (h : Heap) (a : Addr) (S : Int → Bool) (n : Nat) : Prop :=
  ∃ o es ep t, h.get? a = some o ∧ o.ExactSet ∧ o.data = .set es ep t ∧ ElemsOf (intKind prog w) es.toList ∧ (∀ k, S k = true ↔ ∃ e ∈ es.toList, (intKind prog w).is k e.2 = true)
    ∧ es.size < scanBound ∧ t.fits es.size = true ∧ es.size = n ∧ (t.plain = true → Rise t.place) ∧ t.led = !w.params.followText "set-order"
section
variable {prog : Program} {w : World} {A : Around} {E : Value → Shared → Prop} {s : Shared}
theorem SetR.store {h : Heap} {a : Addr} {o : Obj} {es : Array (Int × Value)} {ep : Nat} {t : SetTable} (ho : h.get? a = some o) (hex : o.ExactSet) (hd : o.data = .set es ep t)
    {es' : Array (Int × Value)} {t' : SetTable} {S' : Int → Bool} (hel : ElemsOf (intKind prog w) es'.toList) (hmem : ∀ k, S' k = true ↔ ∃ e ∈ es'.toList, (intKind prog w).is k e.2 = true) (hb : es'.size < scanBound) (hf : t'.fits es'.size = true)
    (hR : t'.plain = true → Rise t'.place) (hl : t'.led = !w.params.followText "set-order") :
    (h.update a (Obj.putSet es' t')).get? a = some { o with data := .set es' (ep + 1) t' } ∧ SetR prog w (h.update a (Obj.putSet es' t')) a S' es'.size := by
  obtain ⟨h1, _⟩ := SetOf_store (knd := intKind prog w) ho hex hd hel hmem hb hf
  exact ⟨h1, _, es', ep + 1, t', h1, hex, rfl, hel, hmem, hb, hf, rfl, hR, hl⟩
theorem add_r {a : Addr} {S : Int → Bool} {n : Nat} {k : Int} {tk : Tok} {Q : Bool → Shared → Prop} (hS : SetR prog w s.heap a S n) (hroom : n + 1 < scanBound)
    (h : ∀ h', Heap.SameBut a s.heap h' → SetR prog w h' a (fun k' => S k' || decide (k' = k)) (if S k then n else n + 1) → Q (!S k) { s with heap := h' }) :
    wpAny (model prog w) A (setAddHashed a (.int k tk) ((intKind prog w).hash k)) Q E s := by
  obtain ⟨o, es, ep, t, ho, hex, hd, hel, hmem, hb, hf, hn, hR, hl⟩ := hS
  have hkey := intKind_is prog w k tk
  have hsc : (Value.int k tk).scannable = true := rfl
  unfold setAddHashed setAddHashedIn
  refine wpAny_holding (wpAny_bind (wpAny_setState_of ho hd hf ?_))
  dsimp only
  rw [byScan_of hsc hb hel]
  simp only [↓reduceIte]
  unfold setAddByScan
  refine wpAny_bind (wpAny_bind (wpAny_rule (wpAny_bind (wpAny_setScan_of hkey ho hd hf hel ?_))))
  cases hr : List.findIdx? (fun e => (intKind prog w).is k e.2) es.toList with
  | some j =>
    dsimp only
    obtain ⟨hj, hpj, _⟩ := List.findIdx?_eq_some_iff_getElem.mp hr
    have hSk : S k = true := (hmem k).mpr ⟨es.toList[j], List.getElem_mem hj, hpj⟩
    refine wpAny_pure (wpAny_pure ?_)
    have e : s = { s with heap := s.heap } := by cases s; rfl
    have := h s.heap (Heap.SameBut.refl a s.heap) ⟨o, es, ep, t, ho, hex, hd, hel, fun k' => by
      rw [Bool.or_eq_true, decide_eq_true_eq, ← hmem k']
      exact ⟨fun hk => hk.elim id (fun e => e ▸ hSk), .inl⟩, hb, hf, by rw [hSk]; exact hn, hR, hl⟩
    rw [hSk] at this; rw [e]; exact this
  | none =>
    dsimp only
    have hSk : S k = false := by
      cases hk : S k with
      | false => rfl
      | true =>
        obtain ⟨e, he, hp⟩ := (hmem k).mp hk
        have := List.findIdx?_eq_none_iff.mp hr e he
        rw [hp] at this; exact Bool.noConfusion this
    have hperm := layNew_perm t es ((intKind prog w).hash k) (.int k tk)
    have hfits := layNew_fits t es ((intKind prog w).hash k) (.int k tk)
    obtain ⟨hR1, hl1⟩ := layNew_rise (es := es) (h := (intKind prog w).hash k) (x := .int k tk) hR
    generalize hL : layNew t es ((intKind prog w).hash k) (.int k tk) = L at hperm hfits hR1 hl1 ⊢
    obtain ⟨es1, t1, wd, gave⟩ := L
    dsimp only at hperm hfits hR1 hl1 ⊢
    rw [Array.toList_push] at hperm
    have hel1 : ElemsOf (intKind prog w) es1.toList := (hel.push hkey hsc).perm hperm
    have hmem1 : ∀ k', (S k' || decide (k' = k)) = true ↔ ∃ e ∈ es1.toList, (intKind prog w).is k' e.2 = true := mem_push_iff hkey hmem hperm
    have hsz1 : es1.size = n + 1 := by rw [← Array.length_toList, hperm.length_eq, List.length_append, Array.length_toList, hn]; rfl
    have hb1 : es1.size < scanBound := by omega
    have hend : ∀ h', Heap.SameBut a s.heap h' → SetR prog w h' a (fun k' => S k' || decide (k' = k)) es1.size → Q true { s with heap := h' } := by
      intro h' hsb hS'; have := h h' hsb; rw [hSk] at this; rw [hsz1] at hS'; exact this hS'
    have hgw : ∀ (b : Bool) {s₁ : Shared} {Q' : Unit → Shared → Prop}, Q' () s₁ → wpAny (model prog w) A (match b with | true => rule "set.scan.the-table-gave-way" | false => pure ()) Q' E s₁ :=
      fun b s₁ Q' hq => by cases b <;> first | exact wpAny_pure hq | exact wpAny_rule hq
    refine wpAny_bind (hgw _ ?_)
    split
    case' isTrue =>
      refine wpAny_bind ?_
      rw [hashByValue_scannable 8 hsc]
      refine wpAny_pure ?_
      rw [show plainKind (Value.int k tk) = true from rfl]
    case' isFalse => refine wpAny_bind (wpAny_pure ?_)
    all_goals
      simp only [↓reduceIte]
      refine wpAny_bind (wpAny_storeSet_of ho hd ?_ (fits_of_scanBound hb1))
      obtain ⟨ho1, hS1⟩ := SetR.store (prog := prog) (w := w) ho hex hd hel1 hmem1 hb1 hfits hR1 (hl1.trans hl)
      have hsb1 := Heap.SameBut.update s.heap a (Obj.putSet es1 t1)
      split
      · have hp := relayAll_perm t1 es1 (SetTable.grown es1.size)
        have hfr := relayAll_fits t1 es1 (SetTable.grown es1.size)
        obtain ⟨hR2, hl2⟩ := relayAll_rise (t := t1) (es := es1) (n := SetTable.grown es1.size)
        generalize hRl : relayAll t1 es1 (SetTable.grown es1.size) = Rl at hp hfr hR2 hl2 ⊢
        obtain ⟨es2, t2, gave2⟩ := Rl
        dsimp only at hp hfr hR2 hl2 ⊢
        have hel2 : ElemsOf (intKind prog w) es2.toList := hel1.perm hp
        have hmem2 : ∀ k', (S k' || decide (k' = k)) = true ↔ ∃ e ∈ es2.toList, (intKind prog w).is k' e.2 = true := fun k' => (hmem1 k').trans ⟨fun ⟨e, he, q⟩ => ⟨e, hp.mem_iff.mpr he, q⟩, fun ⟨e, he, q⟩ => ⟨e, hp.mem_iff.mp he, q⟩⟩
        have hsz : es2.size = es1.size := by rw [← Array.length_toList, hp.length_eq, Array.length_toList]
        have hb2 : es2.size < scanBound := by rw [hsz]; exact hb1
        refine wpAny_bind (hgw _ ?_)
        refine wpAny_bind (wpAny_storeSet_of ho1 rfl ?_ (fits_of_scanBound hb2))
        obtain ⟨_, hS2⟩ := SetR.store (prog := prog) (w := w) ho1 hex rfl hel2 hmem2 hb2 hfr hR2 ((hl2.trans hl1).trans hl)
        rw [hsz] at hS2
        exact wpAny_pure (wpAny_pure (hend _ (hsb1.trans (Heap.SameBut.update _ a _)) hS2))
      · exact wpAny_pure (wpAny_pure (hend _ hsb1 hS1))
end
section
variable {prog : Program} {w : World} {A : Around} {E : Value → Shared → Prop} {s : Shared}
abbrev set0 (w : World) : Obj := { cls := .type "set", dict := none, data := .set #[] 0 (.fresh 0 0 (!w.params.followText "set-order")) }
theorem set0_r {h : Heap} {a : Addr} (hg : h.get? a = some (set0 w)) : SetR prog w h a (fun _ => false) 0 := by
  refine ⟨_, #[], 0, _, hg, ⟨rfl, rfl, rfl⟩, rfl, fun e he => by simp at he, fun k => by simp, by decide, rfl, rfl, fun _ => ?_, rfl⟩
  intro i j hij hj
  exact absurd hj (Nat.not_lt_zero _)
theorem set_new_r (a : Value) {Q₁ : Value → Shared → Prop} (h : Q₁ (.ref s.heap.objs.size) { s with heap := s.heap.push (set0 w) }) :
    codeAny (model prog w) A (.call (.builtin "set.__new__") ⟨[.type "set", a], []⟩) (wants Q₁ E) s := by
  refine codeAny_of_tree ?_
  show wpAny _ A.in1 (do checkBuiltinCall "set.__new__" ⟨[.type "set", a], []⟩; again (.builtin "set.__new__" ⟨[.type "set", a], []⟩)) _ _ s
  refine wpAny_bind (wpAny_of_eq (PySem.F.newCall_set_1 a) (wpAny_pure ⟨plainId_quiet PySem.F.plain_set_new _, codeAny_builtin PySem.F.entry_set_new ?_⟩))
  rw [Around.under_plainId PySem.F.plain_set_new _]
  unfold Builtin.«set.__new__» Builtin.Frozenset.newClass
  have hsub := sub_set_self
  obtain ⟨hp, g, d, tk, os⟩ := s
  dsimp only
  wp_walk
  refine wpAny_askSetting (wpAny_pure ?_)
  dsimp only
  simp only [newObj]
  refine wpAny_bind (wpAny_alloc (wpAny_pure ?_))
  exact wpAny_pure h
theorem SetR.at {h h' : Heap} {a : Addr} {S : Int → Bool} {n : Nat} (x : SetR prog w h a S n) (hk : ∀ o, h.get? a = some o → h'.get? a = some o) : SetR prog w h' a S n := by
  obtain ⟨o, es, ep, t, ho, r⟩ := x
  exact ⟨o, es, ep, t, hk _ ho, r⟩
theorem SetR.congr {h : Heap} {a : Addr} {S S' : Int → Bool} {n n' : Nat} (x : SetR prog w h a S n) (e : ∀ k, S k = S' k) (en : n = n') : SetR prog w h a S' n' := by
  have : S = S' := funext e
  subst this; subst en; exact x
variable {R : Result → Shared → Prop} {I : Addr} {fp wr : List Addr} {G : Array GenState → Array GenState → Prop} {n : Nat} {P : Nat → Value → Prop} {St : Nat → Shared → Prop}
theorem update_loop_r (W : WalksS prog w A.in1 I fp wr G n P St) (S : Addr) (hSf : S ∉ fp) (val : Nat → Int) (hval : ∀ i v, P i v → ∃ t, v = .int (val i) t) (hb : n + 1 < scanBound) :
    ∀ (k i : Nat) (s : Shared), n - i = k → i ≤ n → St i s → SetR prog w s.heap S (fun k' => (firstMet val i).any (· == k')) (firstMet val i).length →
      (∀ s', Moved (S :: wr) G s s' → SetR prog w s'.heap S (fun k' => (firstMet val n).any (· == k')) (firstMet val n).length → R (.ok (.ret .none)) s') →
      codeAny (model prog w) A (.builtin "set.update.loop" ⟨[.ref S, .ref I], []⟩) R s := by
  have hSw : S ∉ wr := fun h => hSf (W.sub _ h)
  have hsub : ∀ b ∈ wr, b ∈ S :: wr := fun b hb => List.mem_cons_of_mem _ hb
  intro k
  induction k with
  | zero =>
    intro i s hk hi hst hS hR
    have hin : i = n := by omega
    subst hin
    refine codeAny_builtin PyProof.Rows.F.entry_set_update_loop ?_
    rw [Around.under_plainId PyProof.Rows.F.plain_set_update_loop _]
    show wpAny _ A.in1 (pyNext (.ref I) >>= _) _ _ s
    refine wpAny_bind (W.done s _ _ hst fun s' hm => ?_)
    show wpAny _ A.in1 (ret Value.none) _ _ s'
    exact wpAny_pure (hR s' (hm.mono hsub) (hS.at fun o e => hm.heap S _ hSw e))
  | succ k ih =>
    intro i s hk hi hst hS hR
    have hlt : i < n := by omega
    refine codeAny_builtin PyProof.Rows.F.entry_set_update_loop ?_
    rw [Around.under_plainId PyProof.Rows.F.plain_set_update_loop _]
    show wpAny _ A.in1 (pyNext (.ref I) >>= _) _ _ s
    refine wpAny_bind (W.item i s _ _ hlt hst fun v s' hP hst' hm => ?_)
    obtain ⟨t, rfl⟩ := hval i v hP
    have hS' := hS.at (h' := s'.heap) fun o e => hm.heap S _ hSw e
    show wpAny _ A.in1 (holding [Value.int (val i) t] (setAdd S (.int (val i) t)) >>= _) _ _ s'
    refine wpAny_bind (wpAny_holding ?_)
    unfold setAdd
    refine wpAny_holding ?_
    refine wpAny_bind ((intKind prog w).pyHash (k := val i) (intKind_is _ _ _ _) ?_)
    have hroom : (firstMet val i).length + 1 < scanBound := by have := firstMet_length_le val i; omega
    refine add_r (s := { s' with toks := s'.toks + 1 }) hS' hroom fun h' hsb hS2 => ?_
    have hSi : SetR prog w h' S (fun k' => (firstMet val (i + 1)).any (· == k')) (firstMet val (i + 1)).length :=
      hS2.congr (fun k' => by rw [firstMet_succ, step_any]) (by rw [firstMet_succ, step_length])
    refine wpAny_pure ⟨plainId_quiet PyProof.Rows.F.plain_set_update_loop _, ih (i + 1) _ (by omega) hlt (W.frame _ s' _ _ hst' (Nat.le_succ _) fun b hb o e => ?_) hSi fun s'' hm'' hS'' => ?_⟩
    · rw [hsb.2 b (fun h : b = S => hSf (by rw [← h]; exact hb))]; exact e
    · refine hR s'' (Moved.trans W.gtrans ((hm.mono hsub).then_heap (Nat.le_succ _) fun b o hb e => ?_) hm'') hS''
      rw [hsb.2 b (fun h : b = S => hb (by rw [h]; exact List.mem_cons_self))]; exact e
end
section
variable {prog : Program} {w : World} {A : Around} {E : Value → Shared → Prop} {s : Shared}
set_option maxHeartbeats 3200000 in
theorem set_of_list {l : Addr} {items : Array Value} {ns : List Int} {Q : Value → Shared → Prop}
    (hh : A.handled = none) (hl : s.heap.IsList l items) (hi : IntsAre items.toList ns) (hb : items.size + 1 < scanBound)
    (h : ∀ (h' : Heap) (tk : Nat), SetR prog w h' s.heap.objs.size (fun k' => (firstMet (fun i => ns.getD i 0) items.size).any (· == k')) (firstMet (fun i => ns.getD i 0) items.size).length →
      (∀ b o, s.heap.get? b = some o → h'.get? b = some o) → Q (.ref s.heap.objs.size) { s with heap := h', toks := tk }) :
    wpAny (model prog w) A (call (.type "set") [.ref l]) Q E s := by
  obtain ⟨c, tl, hmro⟩ := PySem.F.called_set.mro
  have hmade := PySem.F.called_set.made
  have hsub := PySem.F.called_set.sub
  refine wpAny_call (codeAny_of_tree ?_)
  show wpAny _ _ (callAny (.type "set") _) _ _ _
  refine wpAny_pure ⟨Code.quiet_builtin _ (by decide +kernel), codeAny_builtin PySem.F.entry_type_call ?_⟩
  rw [Around.under_plain (weight_type_call_type "set" [.ref l] []) rfl]
  have h1 := PySem.F.called_set.notType
  have h2 := PySem.F.called_set.canCreate
  have hct := PySem.F.typeCall_set_1 (.ref l)
  repeat (any_goals (first | assumption | wp_step))
  refine codeAny_mono (set_new_r (.ref l) (E := E) (Q₁ := fun obj s₁ => obj = .ref s.heap.objs.size ∧ s₁ = { s with heap := s.heap.push (set0 w) }) ⟨rfl, rfl⟩) fun r s₁ hr => ?_
  cases r with
  | error e => exact hr
  | ok fl =>
    cases fl with
    | ret obj =>
      obtain ⟨rfl, rfl⟩ := hr
      have hS : (s.heap.push (set0 w)).get? s.heap.objs.size = some (set0 w) := Heap.get?_push_size _ rfl
      have hT : Shared.TypeIs { s with heap := s.heap.push (set0 w) } (.ref s.heap.objs.size) "set" := ⟨_, hS, rfl⟩
      have hli := PySem.F.called_set.init.lookup
      have hbi := PySem.F.called_set.init.bind (.ref s.heap.objs.size)
      repeat (any_goals (first | assumption | wp_step))
      refine codeAny_mono (codeAny_call_builtin (R := wants (fun r s₂ => r = .none ∧ ∃ h' tk, s₂ = { s with heap := h', toks := tk } ∧
          SetR prog w h' s.heap.objs.size (fun k' => (firstMet (fun i => ns.getD i 0) items.size).any (· == k')) (firstMet (fun i => ns.getD i 0) items.size).length ∧
          (∀ b o, s.heap.get? b = some o → h'.get? b = some o)) E) PySem.F.called_set.init.plain PySem.F.entry_set_init (check_set_init_1 hT ?_)) fun r₂ s₂ hr₂ => ?_
      · obtain ⟨ol, hol, hcl, nl, hdl⟩ := hl
        obtain ⟨ocls, odict, odata, oslots⟩ := ol
        simp only at hcl hdl
        subst hcl; subst hdl
        have hol' : (s.heap.push (set0 w)).get? l = some { cls := .type "list", dict := odict, data := .seq items nl, slots := oslots } := Heap.get?_push_of_some _ hol
        have hsls := PySem.F.sub_list_set
        have hslf := PySem.F.sub_list_frozenset
        have hne : (Value.type "list" == Value.type "dict") = false := by decide
        have hl1 : (s.heap.push (set0 w)).IsList l items := ⟨_, hol', rfl, nl, rfl⟩
        unfold Builtin.«set.__init__» noKeywords Builtin.Frozenset.updateFrom
        generalize hPI : pyIter = PI
        wp_walk
        subst hPI
        refine wpAny_pyIter_list hl1 ?_
        refine wpAny_bind (wpAny_runValue ?_)
        have hlS : l < s.heap.objs.size := Heap.lt_size hol
        have hh3 : A.in1.in1.in1.handled = none := by simp [hh]
        have hneI : l ≠ (s.heap.push (set0 w)).objs.size := by
          rw [Heap.size_push]; exact Nat.ne_of_lt (Nat.lt_succ_of_lt hlS)
        have hSf : s.heap.objs.size ∉ [(s.heap.push (set0 w)).objs.size, l] := by
          rw [Heap.size_push]; simp only [List.mem_cons, List.mem_singleton, List.not_mem_nil, or_false, not_or]
          exact ⟨Nat.ne_of_lt (Nat.lt_succ_self _), Nat.ne_of_gt hlS⟩
        have hval : ∀ (i : Nat) (v : Value), items[i]? = some v → ∃ t, v = .int ((fun i => ns.getD i 0) i) t := fun i v hv =>
          IntsAre.int_at hi i v (by rw [Array.getElem?_toList]; exact hv)
        refine update_loop_r ((Walks.list hh3 _ l hneI items).toS) s.heap.objs.size
          hSf (fun i => ns.getD i 0) hval hb (items.size - 0) 0 _ (by omega) (Nat.zero_le _)
          ⟨⟨_, Heap.get?_push_size _ rfl, rfl, rfl⟩, (hl1.push _)⟩ ?hS0 ?hR
        case hS0 => exact (set0_r (prog := prog) (Heap.get?_push_of_some _ hS)).congr (fun _ => rfl) rfl
        case hR =>
          intro s' hm hS'
          obtain ⟨h', g', d', tk', os'⟩ := s'
          have eg : g' = s.gens := hm.gens
          have ed : d' = s.drawn := hm.drawn
          have eo : os' = s.os := hm.os
          subst eg; subst ed; subst eo
          show wpAny _ _ _ _ _ _
          refine wpAny_pure ?_
          show wpAny _ _ (ret Value.none) _ _ _
          refine wpAny_pure ⟨rfl, h', tk', rfl, hS', fun b o e => ?_⟩
          have hb := Heap.lt_size e
          have hb1 : b ≠ s.heap.objs.size := Nat.ne_of_lt hb
          have hb2 : b ≠ (s.heap.push (set0 w)).objs.size := by
            rw [Heap.size_push]; exact Nat.ne_of_lt (Nat.lt_succ_of_lt hb)
          exact hm.heap b o (by simp only [List.mem_cons, List.mem_singleton, List.not_mem_nil, or_false, not_or]; exact ⟨hb1, hb2⟩) (Heap.get?_push_of_some _ (Heap.get?_push_of_some _ e))
      · cases r₂ with
        | error e => exact hr₂
        | ok fl₂ =>
          cases fl₂ with
          | ret r =>
            obtain ⟨rfl, h', tk, rfl, hS', hk'⟩ := hr₂
            repeat (any_goals (first | assumption | wp_step))
            exact h _ _ hS' hk'
          | _ => exact hr₂.elim
    | _ => exact hr.elim
end
theorem sit_next : Slot "set_iterator" "__next__" "set_iterator.__next__" :=
  .of (owner := "set_iterator") (n := "__next__") (by rw [typeLookup_type, builtinLookup_eq_fast]; kernel_rfl) (by decide +kernel) (by decide +kernel) (by decide +kernel)
    (by first | exact .inl (by decide +kernel) | exact .inr (by decide +kernel)) (by rw [isSubtype_type]; kernel_rfl)
theorem sit_entry : entryFor table "set_iterator.__next__" = some Builtin.«set_iterator.__next__» := entryFor_of_tree (by kernel_rfl)
theorem sit_owner : Manifest.owners.lookup (String.ofList ['r', 'o', 't', 'a', 'r', 'e', 't', 'i', '_', 't', 'e', 's'].reverse) = some Manifest.sig_set_iterator := by kernel_rfl
theorem sit_args (a : Value) : argsOk "set_iterator.__next__" ⟨[a], []⟩ := by
  unfold argsOk; rw [signature?_of (id := "set_iterator.__next__") (n := ['_', '_', 't', 'x', 'e', 'n', '_', '_']) (o := ['r', 'o', 't', 'a', 'r', 'e', 't', 'i', '_', 't', 'e', 's']) (by kernel_rfl) sit_owner]; kernel_rfl
theorem sit_iter : Slot "set_iterator" "__iter__" "set_iterator.__iter__" :=
  .of (owner := "set_iterator") (n := "__iter__") (by rw [typeLookup_type, builtinLookup_eq_fast]; kernel_rfl) (by decide +kernel) (by decide +kernel) (by decide +kernel)
    (by first | exact .inl (by decide +kernel) | exact .inr (by decide +kernel)) (by rw [isSubtype_type]; kernel_rfl)
theorem sit_iter_entry : entryFor table "set_iterator.__iter__" = some Builtin.«dict_keyiterator.__iter__» :=
  entryFor_alias (id' := "dict_keyiterator.__iter__") (by kernel_rfl) rfl (by decide +kernel) (by kernel_rfl)
theorem sit_iter_args (a : Value) : argsOk "set_iterator.__iter__" ⟨[a], []⟩ := by
  unfold argsOk; rw [signature?_of (id := "set_iterator.__iter__") (n := ['_', '_', 'r', 'e', 't', 'i', '_', '_']) (o := ['r', 'o', 't', 'a', 'r', 'e', 't', 'i', '_', 't', 'e', 's']) (by kernel_rfl) sit_owner]; kernel_rfl
theorem set_iter_entry : entryFor table "set.__iter__" = some Builtin.«frozenset.__iter__» :=
  entryFor_alias (id' := "frozenset.__iter__") (by kernel_rfl) rfl (by decide +kernel) (by kernel_rfl)
abbrev sitO (first : Value) (i : Nat) (a : Addr) (n ep : Nat) : Obj := { cls := .type "set_iterator", data := .fields #[first, rawInt i, .ref a, rawInt n, rawInt ep] }
section
variable {prog : Program} {w : World} {A : Around} {E : Value → Shared → Prop} {s : Shared}
theorem sit_self {I a : Addr} {first : Value} {i n ep : Nat} {Q : Value → Shared → Prop} (ho : s.heap.get? I = some (sitO first i a n ep)) (h : Q (.ref I) s) : wpAny (model prog w) A (pyIter (.ref I)) Q E s := by
  have hT : s.TypeIs (.ref I) "set_iterator" := ⟨_, ho, rfl⟩
  refine wpAny_pyIter_slot hT sit_iter (wpAny_call_entry sit_iter hT sit_iter_entry ?_ (sit_iter_args _))
  show wpAny _ _ (ret (.ref I)) _ _ s
  exact wpAny_pure ⟨_, rfl, "set_iterator", _, hT, sit_next.lookup, h⟩
/-- an item by the slot's number -/
theorem sit_item_s {I a : Addr} {slot i ep nx : Nat} {o : Obj} {es : Array (Int × Value)} {t : SetTable} {v : Value} {Q : Option Value → Shared → Prop} (ho : s.heap.get? I = some (sitO (rawInt slot) i a es.size ep))
    (hs : s.heap.get? a = some o) (hd : o.data = .set es ep t) (hf : t.fits es.size = true)
    (hn : ∀ (A : Around) (E : Value → Shared → Prop) (Q' : Option (Value × Nat) → Shared → Prop), Q' (some (v, nx)) s → wpAny (model prog w) A (setNext a slot i ep) Q' E s)
    (hQ : ∀ h', Heap.SameBut I s.heap h' → h'.get? I = some (sitO (rawInt nx) (i + 1) a es.size ep) → Q (some v) { s with heap := h' }) :
    wpAny (model prog w) A (pyNext (.ref I)) Q E s := by
  have hT : s.TypeIs (.ref I) "set_iterator" := ⟨_, ho, rfl⟩
  unfold pyNext
  refine wpAny_bind (wpAny_attempt (wpAny_callSpecial?_slot (name := Str.ofString "__next__") hT sit_next (wpAny_call_entry sit_next hT sit_entry ?_ (sit_args _))))
  unfold Builtin.«set_iterator.__next__»
  refine wpAny_bind (m := slotArgs "__next__" 0 _) (wpAny_pure ?_)
  refine wpAny_bind (wpAny_fieldsOf ho rfl ?_)
  dsimp only [rawInt]
  refine wpAny_bind (wpAny_setEntries_of hs hd hf ?_)
  rw [if_neg (by simp)]
  simp only [Int.toNat_natCast]
  refine wpAny_bind (hn _ _ _ ?_)
  dsimp only
  refine wpAny_bind (wpAny_setField_rec ho (by simp) fun h1 ho1 hs1 => ?_)
  refine wpAny_bind (wpAny_setField_rec ho1 (by simp) fun h2 ho2 hs2 => ?_)
  exact wpAny_pure ⟨_, rfl, wpAny_pure (hQ _ (hs1.trans hs2) ho2)⟩
/-- the end by the slot's number -/
theorem sit_done_s {I a : Addr} {slot i ep : Nat} {o : Obj} {es : Array (Int × Value)} {t : SetTable} {Q : Option Value → Shared → Prop} (hh : A.handled = none) (ho : s.heap.get? I = some (sitO (rawInt slot) i a es.size ep))
    (hs : s.heap.get? a = some o) (hd : o.data = .set es ep t) (hf : t.fits es.size = true)
    (hn : ∀ (A : Around) (E : Value → Shared → Prop) (Q' : Option (Value × Nat) → Shared → Prop), Q' none s → wpAny (model prog w) A (setNext a slot i ep) Q' E s)
    (hQ : ∀ h', Heap.ExtBut I s.heap h' → Q none { s with heap := h' }) :
    wpAny (model prog w) A (pyNext (.ref I)) Q E s := by
  have hT : s.TypeIs (.ref I) "set_iterator" := ⟨_, ho, rfl⟩
  unfold pyNext
  refine wpAny_bind (wpAny_attempt (wpAny_callSpecial?_slot (name := Str.ofString "__next__") hT sit_next (wpAny_call_entry sit_next hT sit_entry ?_ (sit_args _))))
  unfold Builtin.«set_iterator.__next__»
  refine wpAny_bind (m := slotArgs "__next__" 0 _) (wpAny_pure ?_)
  refine wpAny_bind (wpAny_fieldsOf ho rfl ?_)
  dsimp only [rawInt]
  refine wpAny_bind (wpAny_setEntries_of hs hd hf ?_)
  rw [if_neg (by simp)]
  simp only [Int.toNat_natCast]
  refine wpAny_bind (hn _ _ _ ?_)
  dsimp only
  refine wpAny_bind (wpAny_setField_rec ho (by simp) fun h1 ho1 hs1 => ?_)
  refine wpAny_bind ?_
  simp only [newExc, newTuple]
  refine wpAny_bind (wpAny_newObj_type ?_ (by size_fits))
  refine wpAny_bind (m := firstArgMember _ _) (wpAny_of_eq (a := Value.none) (by first | rfl | (simp only [firstArgMember]; rfl)) ?_)
  refine wpAny_newObj_type ?_ (by size_fits)
  simp only [raiseNew]
  refine wpAny_bind (wpAny_handled ?_)
  rw [show A.in1.handled = none from hh]
  refine wpAny_bind (wpAny_pure (wpAny_throw ?_))
  refine wpAny_bind (wpAny_isInstance (T := "StopIteration") (b := true) ⟨_, Heap.get?_push_size _ rfl, rfl⟩ isSubtype_stop ?_)
  exact wpAny_pure (hQ _ ((hs1.extBut.push _).push _))
/-- an item by the drawn places -/
theorem sit_item_d {I a T : Addr} {i ep : Nat} {o oT : Obj} {es : Array (Int × Value)} {t : SetTable} {ps : Array Value} {c p : Nat} {e : Int × Value} {Q : Option Value → Shared → Prop} (ho : s.heap.get? I = some (sitO (.ref T) i a es.size ep))
    (hs : s.heap.get? a = some o) (hd : o.data = .set es ep t) (hf : t.fits es.size = true) (hT' : s.heap.get? T = some oT) (hdT : oT.data = .seq ps c) (hp : ps[i]? = some (rawInt p)) (he : es[p]? = some e)
    (hQ : ∀ h', Heap.SameBut I s.heap h' → h'.get? I = some (sitO (.ref T) (i + 1) a es.size ep) → Q (some e.2) { s with heap := h' }) :
    wpAny (model prog w) A (pyNext (.ref I)) Q E s := by
  have hT : s.TypeIs (.ref I) "set_iterator" := ⟨_, ho, rfl⟩
  unfold pyNext
  refine wpAny_bind (wpAny_attempt (wpAny_callSpecial?_slot (name := Str.ofString "__next__") hT sit_next (wpAny_call_entry sit_next hT sit_entry ?_ (sit_args _))))
  unfold Builtin.«set_iterator.__next__»
  refine wpAny_bind (m := slotArgs "__next__" 0 _) (wpAny_pure ?_)
  refine wpAny_bind (wpAny_fieldsOf ho rfl ?_)
  dsimp only [rawInt]
  refine wpAny_bind (wpAny_setEntries_of hs hd hf ?_)
  rw [if_neg (by simp)]
  simp only [Int.toNat_natCast]
  refine wpAny_bind (wpAny_seqItems hT' hdT ?_)
  dsimp only
  rw [hp]
  dsimp only [rawInt]
  simp only [Int.toNat_natCast]
  refine wpAny_bind ?_
  unfold setNextDrawn
  refine wpAny_bind (wpAny_setState_of hs hd hf ?_)
  dsimp only
  rw [if_neg (by simp), he]
  refine wpAny_pure ?_
  refine wpAny_bind (wpAny_setField_rec ho (by simp) fun h1 ho1 hs1 => ?_)
  exact wpAny_pure ⟨_, rfl, wpAny_pure (hQ _ hs1 ho1)⟩
theorem sit_done_d {I a T : Addr} {i ep : Nat} {o oT : Obj} {es : Array (Int × Value)} {t : SetTable} {ps : Array Value} {c : Nat} {Q : Option Value → Shared → Prop} (hh : A.handled = none) (ho : s.heap.get? I = some (sitO (.ref T) i a es.size ep))
    (hs : s.heap.get? a = some o) (hd : o.data = .set es ep t) (hf : t.fits es.size = true) (hT' : s.heap.get? T = some oT) (hdT : oT.data = .seq ps c) (hp : ps[i]? = none)
    (hQ : ∀ h', Heap.ExtBut I s.heap h' → Q none { s with heap := h' }) :
    wpAny (model prog w) A (pyNext (.ref I)) Q E s := by
  have hT : s.TypeIs (.ref I) "set_iterator" := ⟨_, ho, rfl⟩
  unfold pyNext
  refine wpAny_bind (wpAny_attempt (wpAny_callSpecial?_slot (name := Str.ofString "__next__") hT sit_next (wpAny_call_entry sit_next hT sit_entry ?_ (sit_args _))))
  unfold Builtin.«set_iterator.__next__»
  refine wpAny_bind (m := slotArgs "__next__" 0 _) (wpAny_pure ?_)
  refine wpAny_bind (wpAny_fieldsOf ho rfl ?_)
  dsimp only [rawInt]
  refine wpAny_bind (wpAny_setEntries_of hs hd hf ?_)
  rw [if_neg (by simp)]
  simp only [Int.toNat_natCast]
  refine wpAny_bind (wpAny_seqItems hT' hdT ?_)
  dsimp only
  rw [hp]
  dsimp only
  refine wpAny_bind (wpAny_setField_rec ho (by simp) fun h0 ho0 hs0 => ?_)
  refine wpAny_bind (wpAny_setField_rec ho0 (by simp) fun h1 ho1 hs1 => ?_)
  refine wpAny_bind ?_
  simp only [newExc, newTuple]
  refine wpAny_bind (wpAny_newObj_type ?_ (by size_fits))
  refine wpAny_bind (m := firstArgMember _ _) (wpAny_of_eq (a := Value.none) (by first | rfl | (simp only [firstArgMember]; rfl)) ?_)
  refine wpAny_newObj_type ?_ (by size_fits)
  simp only [raiseNew]
  refine wpAny_bind (wpAny_handled ?_)
  rw [show A.in1.handled = none from hh]
  refine wpAny_bind (wpAny_pure (wpAny_throw ?_))
  refine wpAny_bind (wpAny_isInstance (T := "StopIteration") (b := true) ⟨_, Heap.get?_push_size _ rfl, rfl⟩ isSubtype_stop ?_)
  exact wpAny_pure (hQ _ (((hs0.trans hs1).extBut.push _).push _))
end
theorem erase_perm {α : Type} : ∀ (l : List α) (i : Nat) (h : i < l.length), (l[i] :: l.eraseIdx i).Perm l
  | x :: l, 0, _ => .refl _
  | x :: l, i + 1, h => by
    have := erase_perm l i (by simpa using h)
    exact (List.Perm.swap x _ _).trans (List.Perm.cons x this)
theorem pickOrder_go {α : Type} (next : Nat → Nat) : ∀ (f k : Nat) (left : List α) (out : Array α), left.length ≤ f → (pickOrder.go next f k left out).toList.Perm (out.toList ++ left) := by
  intro f
  induction f with
  | zero =>
    intro k left out h
    have : left = [] := List.length_eq_zero_iff.mp (by omega)
    subst this
    simp [pickOrder.go]
  | succ f ih =>
    intro k left out h
    unfold pickOrder.go
    cases q : left[next k % left.length]? with
    | none =>
      have : left = [] := by
        cases left with
        | nil => rfl
        | cons x l =>
          have hlt : next k % (x :: l).length < (x :: l).length := Nat.mod_lt _ (by simp)
          rw [List.getElem?_eq_getElem hlt] at q
          cases q
      subst this
      simp
    | some x =>
      obtain ⟨hlt, hx⟩ := List.getElem?_eq_some_iff.mp q
      dsimp only
      refine (ih _ _ _ (by rw [List.length_eraseIdx, if_pos hlt]; omega)).trans ?_
      rw [Array.toList_push, List.append_assoc]
      refine List.Perm.append_left _ ?_
      rw [List.singleton_append]
      have := erase_perm left _ hlt
      rw [hx] at this
      exact this
theorem pickOrder_perm {α : Type} (next : Nat → Nat) (xs : Array α) : (pickOrder next xs).toList.Perm xs.toList := by
  have := pickOrder_go next xs.size 0 xs.toList #[] (by simp)
  simpa [pickOrder] using this
section
variable {prog : Program} {w : World} {A : Around} {E : Value → Shared → Prop} {s : Shared}
theorem byText_e {Q : Bool → Shared → Prop} (h : Q (w.params.followText "set-order") s) : wpAny (model prog w) A setsByText Q E s := by
  unfold setsByText
  exact wpAny_bind (wpAny_askSetting (wpAny_pure h))
theorem choose_e {src : Source} {n : Nat} {Q : Nat → Shared → Prop} (hn : n ≠ 0) (h : ∀ i d, i < n → Q i { s with drawn := d }) : wpAny (model prog w) A (choose src n) Q E s :=
  fun _ _ _ => ⟨hn, h _ _ (Nat.mod_lt _ (Nat.pos_of_ne_zero hn))⟩
theorem drawOrder_e {α : Type} : ∀ (n : Nat) (xs : List α) (s : Shared) (Q : List α → Shared → Prop), xs.length ≤ n → (∀ ys d, ys.Perm xs → Q ys { s with drawn := d }) → wpAny (model prog w) A (drawOrder n xs) Q E s := by
  intro n
  induction n with
  | zero =>
    intro xs s Q hx h
    have : xs = [] := List.length_eq_zero_iff.mp (by omega)
    subst this
    unfold drawOrder
    exact wpAny_pure (h [] s.drawn .nil)
  | succ n ih =>
    intro xs s Q hx h
    cases xs with
    | nil =>
      unfold drawOrder
      exact wpAny_pure (h [] s.drawn .nil)
    | cons x l =>
      unfold drawOrder
      refine wpAny_bind (choose_e (by simp) fun i d hi => ?_)
      rw [List.getElem?_eq_getElem hi]
      dsimp only
      refine wpAny_bind (ih _ _ _ (by rw [List.length_eraseIdx, if_pos hi]; omega) fun ys d' hp => ?_)
      exact wpAny_pure (h _ _ ((List.Perm.cons _ hp).trans (erase_perm _ _ hi)))
variable {a : Addr} {o : Obj} {es : Array (Int × Value)} {ep : Nat} {t : SetTable}
theorem next_text {slot i : Nat} {Q : Option (Value × Nat) → Shared → Prop} (hs : s.heap.get? a = some o) (hd : o.data = .set es ep t) (hf : t.fits es.size = true) (hb : w.params.followText "set-order" = true)
    (h : Q (((pickOrder (w.params.setOrder a ep) es)[i]?).map fun e => (e.2, slot)) s) : wpAny (model prog w) A (setNext a slot i ep) Q E s := by
  unfold setNext
  refine wpAny_bind (wpAny_setState_of hs hd hf ?_)
  dsimp only
  refine wpAny_bind (byText_e ?_)
  rw [if_pos hb, if_neg (by simp)]
  refine wpAny_bind ?_
  unfold setWalk
  refine wpAny_bind (wpAny_setState_of hs hd hf ?_)
  dsimp only
  refine wpAny_bind (byText_e ?_)
  rw [if_pos hb]
  exact wpAny_bind (wpAny_askSetting (wpAny_pure (wpAny_pure h)))
theorem next_place {slot i : Nat} {Q : Option (Value × Nat) → Shared → Prop} (hs : s.heap.get? a = some o) (hd : o.data = .set es ep t) (hf : t.fits es.size = true) (hb : w.params.followText "set-order" = false)
    (hdr : (!t.plain && decide (es.size > 1)) = false) (hl : t.led = true)
    (h : Q (match es[SetTable.below t.place slot]?, t.place[SetTable.below t.place slot]? with
      | some (_, x), some j => some (x, j + 1)
      | _, _ => none) s) : wpAny (model prog w) A (setNext a slot i ep) Q E s := by
  unfold setNext
  refine wpAny_bind (wpAny_setState_of hs hd hf ?_)
  dsimp only
  refine wpAny_bind (byText_e ?_)
  rw [if_neg (by rw [hb]; exact Bool.false_ne_true)]
  show wpAny _ _ (if (!t.plain && decide (es.size > 1)) = true then _ else _) _ _ _
  rw [if_neg (by rw [hdr]; exact Bool.false_ne_true)]
  refine wpAny_bind ?_
  show wpAny _ _ (if (!t.led && !es.isEmpty) = true then _ else _) _ _ _
  rw [if_neg (by rw [hl]; simp)]
  exact wpAny_pure (wpAny_pure h)
theorem setDrawn_e {Q : Bool → Shared → Prop} (hs : s.heap.get? a = some o) (hd : o.data = .set es ep t) (hf : t.fits es.size = true)
    (h : Q (!w.params.followText "set-order" && (!t.plain && decide (es.size > 1))) s) : wpAny (model prog w) A (setDrawn a) Q E s := by
  unfold setDrawn
  refine wpAny_bind (wpAny_setState_of hs hd hf ?_)
  dsimp only
  refine wpAny_bind (byText_e ?_)
  exact wpAny_pure h
end
section
variable {prog : Program} {w : World} {A : Around} {E : Value → Shared → Prop} {s : Shared}
variable {a : Addr} {o : Obj} {es : Array (Int × Value)} {ep : Nat} {t : SetTable}
abbrev vals (es : Array (Int × Value)) : List Value := es.toList.map (·.2)
/-- by the world's own order -/
theorem walk_text (hh : A.handled = none) {I : Addr} (hne : a ≠ I) (hd : o.data = .set es ep t) (hf : t.fits es.size = true) (hb : w.params.followText "set-order" = true) (ord : List Value) (ho : ord = vals (pickOrder (w.params.setOrder a ep) es)) :
    Walks prog w A I [I, a] [I] ord.length (fun i v => ord[i]? = some v) (fun i h => h.get? I = some (sitO (rawInt 0) i a es.size ep) ∧ h.get? a = some o) where
  sub := fun b hb => by simp at hb; simp [hb]
  frame := fun _ _ _ st hk => ⟨hk I (by simp) _ st.1, hk a (by simp) _ st.2⟩
  item := fun i s Q E hi st hQ => by
    obtain ⟨v, hv⟩ : ∃ v, ord[i]? = some v := ⟨ord[i], by simp [hi]⟩
    have hv' := hv
    rw [ho, List.getElem?_map, Array.getElem?_toList] at hv'
    refine sit_item_s (slot := 0) (nx := 0) (v := v) st.1 st.2 hd hf (fun A E Q' hq => next_text st.2 hd hf hb ?_) fun h' hs' hI' => ?_
    · rw [Option.map_eq_some_iff] at hv'
      obtain ⟨e, he, rfl⟩ := hv'
      rw [he]
      exact hq
    · exact hQ v h' s.toks hv ⟨hI', (hs'.2 a hne).trans st.2⟩ fun b o hb e => hs'.extBut b o (fun h => hb (by simp [h])) e
  done := fun s Q E st hQ => by
    refine sit_done_s hh (slot := 0) st.1 st.2 hd hf (fun A E Q' hq => next_text st.2 hd hf hb ?_) fun h' he' => hQ h' s.toks fun b o hb e => he' b o (fun h => hb (by simp [h])) e
    have : (pickOrder (w.params.setOrder a ep) es)[ord.length]? = none := by
      rw [ho]; simp
    rw [this]
    exact hq
  self := fun _ _ _ _ st hQ => sit_self st.1 hQ
def slotAt (t : SetTable) : Nat → Nat
  | 0 => 0
  | i + 1 => t.place.getD i 0 + 1
theorem below_slotAt (hR : Rise t.place) : ∀ i, i ≤ t.place.size → SetTable.below t.place (slotAt t i) = i
  | 0, _ => below_zero hR
  | i + 1, h => below_next hR (by omega)
/-- by the table's places -/
theorem walk_place (hh : A.handled = none) {I : Addr} (hne : a ≠ I) (hd : o.data = .set es ep t) (hf : t.fits es.size = true) (hb : w.params.followText "set-order" = false) (hdr : (!t.plain && decide (es.size > 1)) = false) (hl : t.led = true) (hR : t.plain = true → Rise t.place) :
    Walks prog w A I [I, a] [I] (vals es).length (fun i v => (vals es)[i]? = some v) (fun i h => h.get? I = some (sitO (rawInt (slotAt t i)) i a es.size ep) ∧ h.get? a = some o) := by
  have hsz : t.place.size = es.size := by
    simp only [SetTable.fits, Bool.and_eq_true, beq_iff_eq] at hf
    exact hf.1
  have hR' : Rise t.place := by
    cases hp : t.plain with
    | true => exact hR hp
    | false =>
      rw [hp] at hdr
      simp at hdr
      intro i j hij hj
      omega
  have hlen : (vals es).length = es.size := by simp [vals]
  exact {
    sub := fun b hb => by simp at hb; simp [hb]
    frame := fun _ _ _ st hk => ⟨hk I (by simp) _ st.1, hk a (by simp) _ st.2⟩
    item := fun i s Q E hi st hQ => by
      have hi' : i < es.size := by rw [← hlen]; exact hi
      have hip : i < t.place.size := by omega
      refine sit_item_s (slot := slotAt t i) (nx := slotAt t (i + 1)) (v := es[i].2) st.1 st.2 hd hf (fun A E Q' hq => next_place st.2 hd hf hb hdr hl ?_) fun h' hs' hI' => ?_
      · rw [below_slotAt hR' i (by omega), Array.getElem?_eq_getElem hi', Array.getElem?_eq_getElem hip]
        have : t.place[i] + 1 = slotAt t (i + 1) := by simp [slotAt, Array.getD, hip]
        dsimp only
        rw [this]
        exact hq
      · exact hQ _ h' s.toks (by simp [vals, hi']) ⟨hI', (hs'.2 a hne).trans st.2⟩ fun b o hb e => hs'.extBut b o (fun h => hb (by simp [h])) e
    done := fun s Q E st hQ => by
      refine sit_done_s hh (slot := slotAt t (vals es).length) st.1 st.2 hd hf (fun A E Q' hq => next_place st.2 hd hf hb hdr hl ?_) fun h' he' => hQ h' s.toks fun b o hb e => he' b o (fun h => hb (by simp [h])) e
      rw [below_slotAt hR' _ (by omega), hlen, Array.getElem?_eq_none (Nat.le_refl _)]
      exact hq
    self := fun _ _ _ _ st hQ => sit_self st.1 hQ }
/-- by drawn places -/
theorem walk_drawn (hh : A.handled = none) {I T : Addr} {oT : Obj} (hne : a ≠ I) (hTI : T ≠ I) (hd : o.data = .set es ep t) (hf : t.fits es.size = true) {ys : List Nat} (hy : ys.Perm (List.range es.size)) {c : Nat} (hdT : oT.data = .seq (ys.map fun (i : Nat) => rawInt i).toArray c) (ord : List Value) (ho : ord = ys.map fun p => (es.getD p (0, .none)).2) :
    Walks prog w A I [I, a, T] [I] ord.length (fun i v => ord[i]? = some v) (fun i h => h.get? I = some (sitO (.ref T) i a es.size ep) ∧ h.get? a = some o ∧ h.get? T = some oT) where
  sub := fun b hb => by simp at hb; simp [hb]
  frame := fun _ _ _ st hk => ⟨hk I (by simp) _ st.1, hk a (by simp) _ st.2.1, hk T (by simp) _ st.2.2⟩
  item := fun i s Q E hi st hQ => by
    subst ho
    have hi' : i < ys.length := by simpa using hi
    have hp : ys[i] < es.size := by
      have := hy.subset (List.getElem_mem hi')
      simpa using this
    refine sit_item_d (p := ys[i]) (e := es[ys[i]]) st.1 st.2.1 hd hf st.2.2 hdT (by simp [hi']) (by simp [hp]) fun h' hs' hI' => ?_
    exact hQ _ h' s.toks (by simp [hi', hp, Array.getD]) ⟨hI', (hs'.2 a hne).trans st.2.1, (hs'.2 T hTI).trans st.2.2⟩ fun b o hb e => hs'.extBut b o (fun h => hb (by simp [h])) e
  done := fun s Q E st hQ => by
    subst ho
    exact sit_done_d hh st.1 st.2.1 hd hf st.2.2 hdT (by simp) fun h' he' => hQ h' s.toks fun b o hb e => he' b o (fun h => hb (by simp [h])) e
  self := fun _ _ _ _ st hQ => sit_self st.1 hQ
theorem drawn_perm {ys : List Nat} (hy : ys.Perm (List.range es.size)) : (ys.map fun p => (es.getD p (0, .none)).2).Perm (vals es) := by
  refine (hy.map _).trans ?_
  have : (List.range es.size).map (fun p => (es.getD p (0, .none)).2) = vals es := by
    refine List.ext_getElem (by simp [vals]) fun i h1 h2 => ?_
    have : i < es.size := by simpa using h1
    simp [vals, Array.getD, this]
  rw [this]
theorem iter_set {Q : Value → Shared → Prop} (hs : s.heap.get? a = some o) (hex : o.ExactSet) (hd : o.data = .set es ep t) (hf : t.fits es.size = true) (hz : es.size < scanBound) (hR : t.plain = true → Rise t.place) (hl : t.led = !w.params.followText "set-order")
    (h : ∀ d h' I fp St (ord : List Value), ord.Perm (vals es) → (∀ A : Around, A.handled = none → Walks prog w A I fp [I] ord.length (fun i v => ord[i]? = some v) St) → St 0 h' → (∀ b o, s.heap.get? b = some o → h'.get? b = some o) →
      s.heap.get? I = none → (∀ b ∈ fp, b = a ∨ s.heap.get? b = none) → Q (.ref I) { s with heap := h', drawn := d }) :
    wpAny (model prog w) A (pyIter (.ref a)) Q E s := by
  have hT : s.TypeIs (.ref a) "set" := ⟨o, hs, hex.1⟩
  have haI : ∀ {n : Nat}, s.heap.objs.size ≤ n → a ≠ n := fun hn e => Nat.lt_irrefl _ (Nat.lt_of_lt_of_le (e ▸ Heap.lt_size hs) hn)
  refine wpAny_pyIter_slot hT PySem.F.slot_set_iter (wpAny_call_entry PySem.F.slot_set_iter hT set_iter_entry ?_ (PySem.F.args_set_iter_1 _))
  unfold Builtin.«frozenset.__iter__»
  refine wpAny_bind (m := Builtin.Frozenset.slot0 "__iter__" _) (wpAny_pure ?_)
  refine wpAny_bind (wpAny_bind (wpAny_setEntries_of hs hd hf (wpAny_pure ?_)))
  refine wpAny_bind (setDrawn_e hs hd hf ?_)
  cases hb : w.params.followText "set-order" with
  | true =>
    rw [if_neg (by simp)]
    refine wpAny_bind (wpAny_pure ?_)
    refine wpAny_bind (wpAny_setEpoch_of hs hd hf ?_)
    refine wpAny_bind (wpAny_newObj_type (wpAny_pure ⟨_, rfl, "set_iterator", _, ⟨_, Heap.get?_push_size _ rfl, rfl⟩, sit_next.lookup, ?_⟩))
    refine h s.drawn _ s.heap.objs.size _ _ _ ((pickOrder_perm (w.params.setOrder a ep) es).map _) (fun A hh => walk_text hh (haI (Nat.le_refl _)) hd hf hb _ rfl) ⟨Heap.get?_push_size _ rfl, Heap.get?_push_of_some _ hs⟩ (fun b o e => Heap.get?_push_of_some _ e) (get?_size _) ?_
    intro b hb
    rcases List.mem_cons.mp hb with rfl | hb
    · exact .inr (get?_size _)
    · exact .inl (List.mem_singleton.mp hb)
  | false =>
    cases hdr : (!t.plain && decide (es.size > 1)) with
    | false =>
      rw [if_neg (by simp)]
      refine wpAny_bind (wpAny_pure ?_)
      refine wpAny_bind (wpAny_setEpoch_of hs hd hf ?_)
      refine wpAny_bind (wpAny_newObj_type (wpAny_pure ⟨_, rfl, "set_iterator", _, ⟨_, Heap.get?_push_size _ rfl, rfl⟩, sit_next.lookup, ?_⟩))
      refine h s.drawn _ s.heap.objs.size _ _ _ (.refl _) (fun A hh => walk_place hh (haI (Nat.le_refl _)) hd hf hb hdr (by rw [hl, hb]; rfl) hR) ⟨Heap.get?_push_size _ rfl, Heap.get?_push_of_some _ hs⟩ (fun b o e => Heap.get?_push_of_some _ e) (get?_size _) ?_
      intro b hb
      rcases List.mem_cons.mp hb with rfl | hb
      · exact .inr (get?_size _)
      · exact .inl (List.mem_singleton.mp hb)
    | true =>
      rw [if_pos (by simp)]
      refine wpAny_bind (drawOrder_e _ _ _ _ (by simp) fun ys d hy => ?_)
      have hly : ys.length = es.size := by rw [hy.length_eq]; simp
      refine wpAny_bind (wpAny_newObj_type ?_ (by show (ys.map _).toArray.size ≤ _; rw [List.size_toArray, List.length_map, hly]; exact fits_of_scanBound hz))
      have hs1 : (s.heap.push { cls := .type "tuple", data := .seq (ys.map fun (i : Nat) => rawInt i).toArray }).get? a = some o := Heap.get?_push_of_some _ hs
      refine wpAny_bind (wpAny_setEpoch_of hs1 hd hf ?_)
      refine wpAny_bind (wpAny_newObj_type (wpAny_pure ⟨_, rfl, "set_iterator", _, ⟨_, Heap.get?_push_size _ rfl, rfl⟩, sit_next.lookup, ?_⟩))
      have hsz : (s.heap.push { cls := .type "tuple", data := .seq (ys.map fun (i : Nat) => rawInt i).toArray }).objs.size = s.heap.objs.size + 1 := size_push' _ _
      refine h d _ _ _ _ _ (drawn_perm hy) (fun A hh => walk_drawn (T := s.heap.objs.size) hh (haI (by rw [hsz]; omega)) (by rw [hsz]; exact Nat.ne_of_lt (Nat.lt_succ_self _)) hd hf hy rfl _ rfl) ⟨Heap.get?_push_size _ rfl, Heap.get?_push_of_some _ hs1, Heap.get?_push_of_some _ (Heap.get?_push_size _ rfl)⟩ (fun b o e => Heap.get?_push_of_some _ (Heap.get?_push_of_some _ e)) (get?_above (by rw [hsz]; omega)) ?_
      intro b hb
      rcases List.mem_cons.mp hb with rfl | hb
      · exact .inr (get?_above (by rw [hsz]; omega))
      · rcases List.mem_cons.mp hb with rfl | hb
        · exact .inl rfl
        · rw [List.mem_singleton.mp hb]; exact .inr (get?_size _)
end
section
variable {prog : Program} {w : World} {A : Around} {E : Value → Shared → Prop} {s : Shared}
variable {a : Addr} {o : Obj} {es : Array (Int × Value)} {ep : Nat} {t : SetTable}
theorem hint_set {r : Addr} {Q : Bool → Shared → Prop} (hT : s.TypeIs (.ref r) "set") (h : Q false s) : wpAny (model prog w) A (Builtin.List.listLengthHint (.ref r)) Q E s := by
  unfold Builtin.List.listLengthHint
  refine wpAny_bind (wpAny_specialOf hT PySem.F.slot_set_len.lookup ?_)
  generalize hid : ("set.__len__" : String) = id0
  wp_delta
  rw [show splitId id0 = some ("set", "__len__") from by subst hid; decide +kernel]
  subst hid
  refine wpAny_bind (wpAny_isInstance (T := "set") (b := true) hT (by rw [isSubtype_type]; kernel_rfl) ?_)
  refine wpAny_ite_split (fun hab => absurd hab (by decide)) (fun _ => ?_)
  refine wpAny_ite_split (fun _ => ?_) (fun hab => absurd (by decide +kernel) hab)
  refine wpAny_bind (wpAny_typeOf hT ?_)
  exact wpAny_pure h
theorem collect_set {Q : List Value → Shared → Prop} (hh : A.handled = none) (hs : s.heap.get? a = some o) (hex : o.ExactSet) (hd : o.data = .set es ep t) (hf : t.fits es.size = true) (hz : es.size < scanBound) (hR : t.plain = true → Rise t.place) (hl : t.led = !w.params.followText "set-order")
    (h : ∀ d h' tk (ord : List Value), ord.Perm (vals es) → (∀ b o, s.heap.get? b = some o → h'.get? b = some o) → Q ord { s with heap := h', toks := tk, drawn := d }) :
    wpAny (model prog w) A (collect (.ref a)) Q E s := by
  have ha := Heap.lt_size hs
  unfold collect
  refine wpAny_bind (wpAny_runValue (codeAny_builtin entry_proto_collect' ?_))
  rw [Around.under_plainId PySem.F.plain_proto_collect _]
  show wpAny _ A.in1 (newList [] >>= fun l => again (.builtin "list.__iadd__" ⟨[l, .ref a], []⟩)) _ _ s
  refine wpAny_bind (wpAny_newObj_type ?_)
  refine wpAny_pure ⟨plainId_quiet PySem.F.plain_list_iadd _, codeAny_builtin entry_list_iadd' ?_⟩
  rw [Around.under_plainId PySem.F.plain_list_iadd _]
  have hS₁ : (s.heap.push { cls := .type "list", data := .seq ([] : List Value).toArray }).get? s.heap.objs.size = some { cls := .type "list", data := .seq #[] } := Heap.get?_push_size _ rfl
  have hs₁ : (s.heap.push { cls := .type "list", data := .seq ([] : List Value).toArray }).get? a = some o := Heap.get?_push_of_some _ hs
  show wpAny _ A.in1 (Builtin.List.listExtendWith (.ref s.heap.objs.size) (.ref a) (.ref s.heap.objs.size)) _ _ _
  unfold Builtin.List.listExtendWith
  refine wpAny_bind (wpAny_typeOf (T := "set") ⟨o, hs₁, hex.1⟩ ?_)
  have hSa : s.heap.objs.size ≠ a := Nat.ne_of_gt ha
  have h1 : Builtin.List.listSameRef (.ref s.heap.objs.size) (.ref a) = false := by simp [Builtin.List.listSameRef, hSa]
  have h2 : (Value.type "set" == Value.type "list") = false := by decide
  have h3 : (Value.type "set" == Value.type "tuple") = false := by decide
  simp only [h1, h2, h3, Bool.or_false, Bool.false_eq_true, if_false]
  refine wpAny_bind (iter_set hs₁ hex hd hf hz hR hl fun d h₂ I fp St ord hp W st hk hI hfp => ?_)
  have hSf : s.heap.objs.size ∉ fp := fun hm => by
    rcases hfp _ hm with e | e
    · exact hSa e
    · rw [hS₁] at e; cases e
  have hSI : I ≠ s.heap.objs.size := fun e => by rw [e, hS₁] at hI; cases hI
  have hS₂ := hk _ _ hS₁
  have hlen : ord.length ≤ sizeLine := by
    rw [hp.length_eq]
    simp only [vals, List.length_map, Array.length_toList]
    exact fits_of_scanBound hz
  refine wpAny_bind (wpAny_holding (hint_set ⟨o, hk _ _ hs₁, hex.1⟩ ?_))
  show wpAny _ A.in1 (rule "list.extend.makes-room" >>= fun _ => Builtin.List.listTouch (.ref s.heap.objs.size) >>= fun _ =>
    again (.builtin "list.extend.loop" ⟨[.ref s.heap.objs.size, .ref I, .ref s.heap.objs.size], []⟩)) _ _ _
  refine wpAny_bind (wpAny_rule ?_)
  refine wpAny_bind ?_
  show wpAny _ A.in1 (updateSeq s.heap.objs.size (·.push .none) >>= fun _ => updateSeq s.heap.objs.size (·.pop)) _ _ _
  refine wpAny_bind (wpAny_updateSeq hS₂ rfl ?_)
  have hS₃ := Heap.get?_update_self (Obj.mapSeq (·.push Value.none)) hS₂ rfl
  refine wpAny_updateSeq (hz := by seq_fits) hS₃ rfl ?_
  have hS₄ := Heap.get?_update_self (Obj.mapSeq (·.pop)) hS₃ rfl
  have oth : ∀ b o, b ≠ s.heap.objs.size → h₂.get? b = some o → ((h₂.update s.heap.objs.size (Obj.mapSeq (·.push Value.none))).update s.heap.objs.size (Obj.mapSeq (·.pop))).get? b = some o :=
    fun b o hb e => (Heap.get?_update_other _ _ (Ne.symm hb)).trans ((Heap.get?_update_other _ _ (Ne.symm hb)).trans e)
  refine wpAny_pure ⟨plainId_quiet PySem.F.plain_extend_loop _, codeAny_extend_loopS (W A.in1 hh).toS hlen _ hSf _ ord.length 0 _ _ _ rfl (Nat.zero_le _)
    ((W A.in1 hh).frame 0 _ _ st fun b hb o e => oth b o (fun h => hSf (h ▸ hb)) e) hS₄ (ItemsOf.nil _) fun s' acc' c' hm hS' hacc => ?_⟩
  show wpAny _ A (load s.heap.objs.size >>= _) _ _ s'
  refine wpAny_bind (wpAny_load hS' ?_)
  have hord : acc'.toList = ord := by
    refine List.ext_getElem? fun i => ?_
    cases q : acc'.toList[i]? with
    | some v => rw [hacc.2 i v (by rw [← Array.getElem?_toList]; exact q)]
    | none =>
      have : acc'.size ≤ i := by simpa using q
      rw [hacc.1] at this
      rw [List.getElem?_eq_none this]
  have e := Moved.eq_with hm
  rw [e]
  have hfin := h d s'.heap s'.toks ord hp fun b o e => hm.heap b o (fun hmem => ?_) (oth b o (Nat.ne_of_lt (Heap.lt_size e)) (hk _ _ (Heap.get?_push_of_some _ e)))
  · show wpAny _ _ (pure acc'.toList) _ _ _
    rw [hord]
    exact wpAny_pure hfin
  · rcases List.mem_cons.mp hmem with e' | hmem
    · exact absurd e' (Nat.ne_of_lt (Heap.lt_size e))
    · rw [List.mem_singleton.mp hmem] at e
      rw [Heap.get?_push_of_some _ e] at hI
      cases hI
end
def ival : Value → Int
  | .int n _ => n
  | _ => 0
theorem ints_ival : ∀ {vs : List Value}, (∀ v ∈ vs, ∃ n t, v = .int n t) → Ints vs (vs.map ival)
  | [], _ => .nil
  | v :: vs, h => by
    obtain ⟨n, t, rfl⟩ := h v (.head _)
    exact .cons (ints_ival fun u hu => h u (.tail _ hu))
theorem nodup_perm : ∀ {a b : List Int}, a.Nodup → (∀ k ∈ a, k ∈ b) → b.length ≤ a.length → a.Perm b
  | [], b, _, _, hl => by
    have : b = [] := List.length_eq_zero_iff.mp (by simpa using hl)
    subst this; exact .nil
  | x :: a, b, hn, hs, hl => by
    rw [List.nodup_cons] at hn
    have hx := hs x (.head _)
    have hp := List.perm_cons_erase hx
    have hlen := hp.length_eq
    simp only [List.length_cons] at hlen hl
    refine (List.Perm.cons x (nodup_perm hn.2 (fun k hk => ?_) (by omega))).trans hp.symm
    have : k ≠ x := fun e => hn.1 (e ▸ hk)
    exact (List.mem_erase_of_ne this).mpr (hs k (.tail _ hk))
/-- the numbers of some row, in order -/
def OkZ (X0 X1 X2 : List Int) (Z : List Int) : Prop := Z.Pairwise (· < ·) ∧ ∀ k, k ∈ Z ↔ ∃ p, p < 3 ∧ k ∈ of3 X0 X1 X2 p
theorem lt_of_le_nodup : ∀ {Z : List Int}, Z.Pairwise (· ≤ ·) → Z.Nodup → Z.Pairwise (· < ·)
  | [], _, _ => .nil
  | z :: Z, h, hn => by
    rw [List.pairwise_cons] at h ⊢
    rw [List.nodup_cons] at hn
    refine ⟨fun y hy => ?_, lt_of_le_nodup h.2 hn.2⟩
    have := h.1 y hy
    have : z ≠ y := fun e => hn.1 (e ▸ hy)
    omega
section
variable {prog : Program} {w : World} {A : Around} {σ : Shared} {h₀ : Heap} {N : Led} {s : Shared} {env : Env} {E : Value → Shared → Prop} {mg mb : Str → Option Value} {n : Nat} {ad : Ads}
theorem St.draw (S : St σ h₀ N s) {d : Drawn} : St { σ with drawn := d } h₀ N { s with drawn := d } := ⟨S.keep, S.led, S.nd, S.gens, rfl, S.os⟩
theorem sorted_set {a : Addr} {D : List Int} {Q : Value → Shared → Prop} (S : St σ h₀ N s) (hh : A.handled = none) (hS : SetR prog w s.heap a (fun k => D.any (· == k)) D.length) (hD : D.Nodup) (hz : D.length < 64)
    (h : ∀ d s' l vs Z, Ints vs Z → Z.Pairwise (· < ·) → (∀ k, k ∈ Z ↔ k ∈ D) → St { σ with drawn := d } h₀ ((l, .lst vs) :: N) s' → Q (.ref l) s') : wpAny (model prog w) A (call (.builtin "sorted") [.ref a]) Q E s := by
  obtain ⟨o, es, ep, t, ho, hex, hd, hel, hmem, hb, hf, hn, hR, hl⟩ := hS
  refine Calls.call_function_entry kind_sorted plain_sorted entry_sorted (args_sorted1 _) ?_
  unfold Builtin.«sorted»
  refine wpAny_bind (m := checkCount "sorted" 1 1 _) (wpAny_pure ?_)
  refine wpAny_bind (collect_set (A := A.in1) hh ho hex hd hf hb hR hl fun d h' tk ord hp hk => ?_)
  have hint : ∀ v ∈ vals es, ∃ n t, v = .int n t := by
    intro v hv
    obtain ⟨e, he, rfl⟩ := List.mem_map.mp hv
    obtain ⟨⟨k, hk, _⟩, _⟩ := hel e he
    cases hv2 : e.2 with
    | int n t => exact ⟨n, t, rfl⟩
    | _ => rw [hv2] at hk; simp [intKind, Value.isInt] at hk
  have hI : Ints ord (ord.map ival) := ints_ival fun v hv => hint v (hp.subset hv)
  have hK : ∀ k, k ∈ (vals es).map ival ↔ k ∈ D := by
    intro k
    have := hmem k
    simp only [List.any_eq_true, beq_iff_eq, exists_eq_right] at this
    rw [this]
    constructor
    · intro hk
      obtain ⟨v, hv, rfl⟩ := List.mem_map.mp hk
      obtain ⟨n, t, rfl⟩ := hint v hv
      obtain ⟨e, he, e2⟩ := List.mem_map.mp hv
      exact ⟨e, he, by rw [e2]; exact intKind_is prog w n t⟩
    · rintro ⟨e, he, hk⟩
      refine List.mem_map.mpr ⟨e.2, List.mem_map.mpr ⟨e, he, rfl⟩, ?_⟩
      obtain ⟨n, t, q⟩ := hint e.2 (List.mem_map.mpr ⟨e, he, rfl⟩)
      rw [q] at hk ⊢
      simp [intKind, Value.isInt] at hk
      exact hk
  have hDK : D.Perm ((vals es).map ival) := nodup_perm hD (fun k hk => (hK k).mpr hk) (by simp [vals]; omega)
  have hlen : ord.length = D.length := by rw [hp.length_eq]; simp [vals]; omega
  refine wpAny_bind (wpAny_newList ?_ (by rw [hlen]; simp [sizeLine]; omega))
  have hoL : (h'.push (seqObj "list" ord.toArray 0)).get? h'.objs.size = some (seqObj "list" ord.toArray 0) := Heap.get?_push_size _ rfl
  refine wpAny_bind (wpAny_holding (wpAny_call_entry slot_list_sort ⟨_, hoL, rfl⟩ entry_list_sort (list_sort_tree hoL hI.are (by rw [hlen]; exact hz) fun out ns' a1 a2 a3 => ⟨_, rfl, ?_⟩) (args_list_sort _)))
  have hperm : ns'.Perm D := a2.trans ((hp.map ival).trans hDK.symm)
  refine wpAny_pure ⟨_, rfl, h d _ _ out.toList ns' (.of a1) (lt_of_le_nodup a3 (hperm.symm.nodup hD)) (fun k => hperm.mem_iff) ?_⟩
  obtain ⟨e, he⟩ := sortedHeap_at (out := out) hoL
  refine (S.draw (d := d)).new (tk := tk) (fun b o hbo => ?_) ?_ ⟨_, he, e, by simp [W.listOf, seqObj]⟩
  · have h1 := hk b o hbo
    have h2 := Heap.get?_push_of_some (seqObj "list" ord.toArray 0) h1
    rw [sortedHeap_old (Nat.ne_of_lt (Heap.lt_size h1)) (Heap.lt_size h2)]
    exact h2
  · cases q : s.heap.get? h'.objs.size with
    | none => rfl
    | some o => exact absurd (Heap.lt_size (hk _ _ q)) (Nat.lt_irrefl _)
theorem it17_e {L a c rl r0 r1 r2 : Addr} {v0 v1 v2 : List Value} {X0 X1 X2 : List Int} {Q : Value → Shared → Prop} (S : St σ h₀ N s) (W : Wd ad mg mb h₀) (Rm : Room A 100) (h1 : (L + 1, .cel (some (.ref rl))) ∈ N) (hr : (rl, .lst [.ref r0, .ref r1, .ref r2]) ∈ N) (m0 : (r0, .lst v0) ∈ N) (m1 : (r1, .lst v1) ∈ N) (m2 : (r2, .lst v2) ∈ N)
    (i0 : Ints v0 X0) (i1 : Ints v1 X1) (i2 : Ints v2 X2) (z0 : v0.length ≤ 13) (z1 : v1.length ≤ 13) (z2 : v2.length ≤ 13)
    (h : ∀ d s' l vs Z, OkZ X0 X1 X2 Z → Ints vs Z → St { σ with drawn := d } h₀ ((l, .lst vs) :: N) s' → Q (.ref l) s') :
    wpAny (model prog w) A (eval it17 (lenv L a c)) Q NoE s := by
  show wpAny _ _ (eval (.Call _ _ _ _) _) _ _ _
  repeat walk_at "nd"
  refine sub_n 0 (by walk_at "st") hr rfl (by show (0 : Nat) < 3; decide) (by show (3 : Nat) < _; decide) ?_
  repeat walk_at "nd"
  refine sub_n 1 (by walk_at "st") hr rfl (by show (1 : Nat) < 3; decide) (by show (3 : Nat) < _; decide) ?_
  show wpAny _ _ (binaryOp .Add (.ref r0) (.ref r1)) _ _ _
  repeat walk_at "nd"
  refine sub_n 2 (by walk_at "st") (.tail _ hr) rfl (by show (2 : Nat) < 3; decide) (by show (3 : Nat) < _; decide) ?_
  show wpAny _ _ (binaryOp .Add _ (.ref r2)) _ _ _
  repeat walk_at "nd"
  rename_i S3
  have ia := (i0.append i1).append i2
  have hl := S3.isList (.head _)
  refine set_of_list (ns := X0 ++ X1 ++ X2) Rm.h hl ia.are (by rw [List.size_toArray]; simp [scanBound]; omega) ?_
  intro h' tk hS hk
  have e : firstMet (fun i => (X0 ++ X1 ++ X2).getD i 0) (v0 ++ v1 ++ v2).toArray.size = (X0 ++ X1 ++ X2).foldl step_dedup [] := by
    unfold firstMet
    rw [List.size_toArray, ia.length, map_range_getD]
  rw [e] at hS
  have S4 := S3.ext (tk := tk) hk
  refine args_nil ?_
  obtain ⟨d1, d2⟩ := dedup_facts (X0 ++ X1 ++ X2) [] .nil
  have q1 := foldl_step_dedup_nil_length_le (X0 ++ X1 ++ X2)
  have q2 := i0.length
  have q3 := i1.length
  have q4 := i2.length
  simp only [List.length_append] at q1
  refine sorted_set S4 Rm.h hS d1 (by omega) ?_
  intro d s' l vs Z hi hs hm S5
  refine h _ _ _ _ _ ⟨hs, fun k => ?_⟩ hi (S5.sub ?_)
  · rw [hm, d2]
    simp only [List.not_mem_nil, false_or, List.mem_append]
    constructor
    · rintro ((h | h) | h)
      · exact ⟨0, by decide, h⟩
      · exact ⟨1, by decide, h⟩
      · exact ⟨2, by decide, h⟩
    · rintro ⟨p, hp, h⟩
      have : p = 0 ∨ p = 1 ∨ p = 2 := by omega
      rcases this with rfl | rfl | rfl
      · exact .inl (.inl h)
      · exact .inl (.inr h)
      · exact .inr h
  · exact List.Sublist.cons_cons _ (List.Sublist.cons _ (List.Sublist.cons _ (List.Sublist.refl _)))
end
theorem Pairs.of_at {Es : Led} : ∀ {vs : List Value}, (∀ v ∈ vs, PairAt Es (kyE Es) v) → Pairs Es vs (vs.map (kyE Es))
  | [], _ => .nil
  | v :: vs, h => by
    obtain ⟨p, a, i, ta, ti, rfl, hm, hk⟩ := h v (.head _)
    rw [List.map_cons, hk]
    exact .cons hm (Pairs.of_at fun u hu => h u (.tail _ hu))
section
variable {prog : Program} {w : World} {A : Around} {σ : Shared} {h₀ : Heap} {N : Led} {s : Shared} {env : Env} {E : Value → Shared → Prop} {mg mb : Str → Option Value} {n : Nat} {ad : Ads}
theorem OkZ.len {X0 X1 X2 Z : List Int} (h : OkZ X0 X1 X2 Z) (z0 : X0.length ≤ 13) (z1 : X1.length ≤ 13) (z2 : X2.length ≤ 13) : Z.length < 1000 := by
  have hn : Z.Nodup := h.1.imp fun h e => by omega
  have h1 := dedup_len hn h.2
  have h2 := foldl_step_dedup_nil_length_le (X0 ++ X1 ++ X2)
  simp only [List.length_append] at h2
  omega
set_option maxHeartbeats 2000000 in
theorem body2 {L a c td rl q0 q1 q2 r0 r1 r2 P Pk : Addr} {k1 k2 : Nat} {K : KD} {m : Str → Option Value} {y2 y3 y5 y6 : Option Value} {u0 u1 u2 v0 v1 v2 : List Value} {X0 X1 X2 : List Int}
    (S : St σ h₀ ((L, .ns m) :: (L + 3, .cel y3) :: (L + 5, .cel y5) :: (L + 6, .cel y6) :: (L + 4, .cel (some (.ref td))) :: (td, .lst [.ref q0, .ref q1, .ref q2]) :: (q0, .lst u0) :: (q1, .lst u1) :: (q2, .lst u2) ::
      (L + 1, .cel (some (.ref rl))) :: (L + 2, .cel y2) :: (rl, .lst [.ref r0, .ref r1, .ref r2]) :: (r0, .lst v0) :: (r1, .lst v1) :: (r2, .lst v2) :: (P, tbE k1) :: (Pk, tbE k2) :: K.led mg) s) (W : Wd ad mg mb h₀) (Rm : Room A 200)
    (hb : m "by_length" = some (.ref K.C)) (i0 : Ints u0 X0) (i1 : Ints u1 X1) (i2 : Ints u2 X2) (j0 : Ints v0 X0) (j1 : Ints v1 X1) (j2 : Ints v2 X2) (R0 : Row X0) (R1 : Row X1) (R2 : Row X2) :
    wpAny (model prog w) A (execs [lstm 9, lstm 10, lstm 11, lstm 12, lstm 13, lstm 14, lstm 15, lstm 16, lstm 17, lstm 18] (lenv L a c)) (fun f s' => f = .ret (.bool true) ∧ ∃ d, St { σ with drawn := d } h₀ [(P, tbE k1), (Pk, tbE k2)] s') NoE s := by
  have hi : ∀ p, Ints (of3 u0 u1 u2 p) (of3 X0 X1 X2 p) := fun p => by unfold of3; split <;> assumption
  have hj : ∀ p, Ints (of3 v0 v1 v2 p) (of3 X0 X1 X2 p) := fun p => by unfold of3; split <;> assumption
  have hR : ∀ p, Row (of3 X0 X1 X2 p) := fun p => by unfold of3; split <;> assumption
  have hzX : ∀ p, (of3 X0 X1 X2 p).length < 1000 := fun p => by have := (hR p).len; omega
  have nd : ((K.led mg).map (·.1)).Nodup := by
    have := S.nd
    simp only [List.map_cons, List.nodup_cons] at this
    exact this.2.2.2.2.2.2.2.2.2.2.2.2.2.2.2.2.2
  have zl0 := j0.length
  have zl1 := j1.length
  have zl2 := j2.length
  have zr0 := R0.len
  have zr1 := R1.len
  have zr2 := R2.len
  refine wpAny_execs_cons ?_
  refine law9 S ?_
  intro s1 t1 S1
  refine wpAny_execs_cons ?_
  refine law10 (K := K) S1 W Rm (fun p hp => .tail _ (.tail _ (.tail _ (.tail _ (.tail _ (.tail _ (.tail _ (.tail _ hp)))))))) nd (by exact hb) (by exact rfl) i0 i1 i2 R0 R1 R2 ?_
  intro s2 m2 y3' y5' y6' t2 ht S2
  refine wpAny_execs_cons ?_
  refine law11 S2 ?_
  intro s3 hl S3
  refine wpAny_execs_cons ?_
  generalize K.led mg = KL at S3
  have S3' : St σ h₀ ((L, .ns fun y => if y = "heap" then some (.ref hl) else m2 y) :: (L + 3, .cel y3') :: (hl, .lst []) :: (L + 4, .cel (some (.ref td))) :: (td, .lst [.ref q0, .ref q1, .ref q2]) :: (q0, .lst u0) :: (q1, .lst u1) :: (q2, .lst u2) ::
      (L + 1, .cel (some (.ref rl))) :: (L + 2, .cel y2) :: (rl, .lst [.ref r0, .ref r1, .ref r2]) :: (r0, .lst v0) :: (r1, .lst v1) :: (r2, .lst v2) :: (P, tbE k1) :: (Pk, tbE k2) :: []) s3 := S3.sel (by walk_at "sel")
  refine law12 S3' W Rm (by exact rfl) hi hzX ?_
  intro s4 m4 y3a hl4 hv Es hP hm4 hk4 S4
  refine wpAny_execs_cons ?_
  generalize hB : ((L + 4, Ent.cel (some (.ref td))) :: (td, .lst [.ref q0, .ref q1, .ref q2]) :: (q0, .lst u0) :: (q1, .lst u1) :: (q2, .lst u2) ::
      (L + 1, .cel (some (.ref rl))) :: (L + 2, .cel y2) :: (rl, .lst [.ref r0, .ref r1, .ref r2]) :: (r0, .lst v0) :: (r1, .lst v1) :: (r2, .lst v2) :: (P, tbE k1) :: (Pk, tbE k2) :: []) = B at S4
  have S4' : St σ h₀ ((L, .ns m4) :: (hl4, .lst hv) :: (Es ++ B)) s4 := S4.sel (by walk_at "sel")
  have ndE : (Es.map (·.1)).Nodup := by
    have := S4'.nd
    simp only [List.map_cons, List.nodup_cons, List.map_append] at this
    exact (List.nodup_append.mp this.2.2).1
  obtain ⟨hky, hpa⟩ := hP.ky ndE
  have zhv : hv.length < 1000 := by
    rw [hP.length]
    have : (prsF (of3 X0 X1 X2) 3).length = X0.length + X1.length + X2.length := by
      simp [prsF, List.range_succ, of3]
      omega
    omega
  refine law13 S4' W Rm hm4 hpa zhv ?_
  intro s5 hv' hHp hpm S5
  refine wpAny_execs_cons ?_
  refine law14 S5 ?_
  intro s6 ln S6
  refine wpAny_execs_cons ?_
  have S6' : St σ h₀ ((L, .ns fun y => if y = "line" then some (.ref ln) else m4 y) :: (hl4, .lst hv') :: (ln, .lst []) :: (Es ++ B)) s6 := S6.sel (by walk_at "sel")
  refine law15 S6' W Rm (by exact hm4) (by exact rfl) (fun v hv => hpa v (hpm.subset hv)) (by rw [hpm.length_eq]; exact zhv) hHp ?_
  intro s7 ov hov hso S7
  refine wpAny_execs_cons ?_
  refine law16 S7 ?_
  intro s8 du S8
  refine wpAny_execs_cons ?_
  have hPo : Pairs Es ov (ov.map (kyE Es)) := Pairs.of_at fun v hv => hpa v (hpm.subset (hov.subset hv))
  have S8p : St σ h₀ ((L, .ns fun y => if y = "due" then some (.ref du) else if y = "line" then some (.ref ln) else m4 y) :: (du, .lst []) :: (ln, .lst ov) :: (B ++ Es)) s8 := S8.perm (((List.perm_append_comm.cons _).cons _).cons _)
  subst hB
  have S8' : St σ h₀ ((L, .ns fun y => if y = "due" then some (.ref du) else if y = "line" then some (.ref ln) else m4 y) :: (L + 2, .cel y2) :: (du, .lst []) :: ((L + 1, .cel (some (.ref rl))) :: (rl, .lst [.ref r0, .ref r1, .ref r2]) :: (r0, .lst v0) :: (r1, .lst v1) :: (r2, .lst v2) :: (ln, .lst ov) :: (P, tbE k1) :: (Pk, tbE k2) :: Es)) s8 := S8p.sel (by walk_at "sel")
  refine law17 (okZ := OkZ X0 X1 X2) S8' W Rm (by exact rfl) (by walk_at "mem") (by walk_at "mem") (fun p => by unfold of3; split <;> walk_at "mem") hj (fun Z hZ => hZ.len zr0 zr1 zr2) ?_ ?_
  · intro Q' hQ'
    exact it17_e S8' W (Rm.le (by decide)) (by walk_at "mem") (by walk_at "mem") (by walk_at "mem") (by walk_at "mem") (by walk_at "mem") j0 j1 j2 (by omega) (by omega) (by omega) hQ'
  intro d9 s9 m9 y2' du9 dv Es9 Z hZ hP9 hd9 hk9 S9
  have hZn : Z.Nodup := hZ.1.imp fun h e => by omega
  refine wpAny_execs_cons ?_
  have hline : ov.map (kyE Es) = Z.flatMap fun k => dueF (of3 X0 X1 X2) k 3 := by
    refine line_due (fun p => (hR p).nd) hZ.1 hZ.2 ?_ ?_
    · rw [← hky]
      exact (hov.trans hpm).map _
    · rw [List.pairwise_map]
      exact hso
  rw [hline] at hPo
  have htot : totS (of3 X0 X1 X2) 7 = (Z.length : Int) := total_eq (fun p => (hR p).nd) hZn hZ.2
  have e1 : m9 "line" = some (.ref ln) := by rw [hk9 _ (by decide)]; exact rfl
  have e2 : m9 "total" = some (.int (Z.length : Int) t2) := by
    rw [hk9 _ (by decide)]
    show m4 "total" = _
    rw [hk4 _ (by decide)]
    show m2 "total" = _
    rw [ht, htot]
  refine law18 S9 Rm e1 hd9 e2 (List.mem_cons_of_mem _ (List.mem_cons_of_mem _ (List.mem_append.mpr (.inr (by walk_at "mem"))))) (by walk_at "mem") hPo hP9 (fun e he => List.mem_cons_of_mem _ (List.mem_cons_of_mem _ (List.mem_append.mpr (.inr (.tail _ (.tail _ (.tail _ (.tail _ (.tail _ (.tail _ (.tail _ (.tail _ he))))))))))))
    (fun e he => List.mem_cons_of_mem _ (List.mem_cons_of_mem _ (List.mem_append.mpr (.inl he)))) ?_ ?_
  · intro s Sx Q' hQ'
    have mB : ∀ {x e1 e2 e3 : Addr × Ent} {B : Led}, x ∈ B → x ∈ e1 :: e2 :: e3 :: (Es9 ++ B) := fun hx => .tail _ (.tail _ (.tail _ (List.mem_append.mpr (.inr hx))))
    refine len18_e Sx W (Rm.le (by decide)) (mB (by walk_at "mem")) (mB (by walk_at "mem")) (mB (by walk_at "mem")) (mB (by walk_at "mem")) (mB (by walk_at "mem")) j0 j1 j2 (by omega) (by omega) (by omega) ?_
    intro s' t Sy
    rw [dedup_len hZn hZ.2]
    exact hQ' _ _ Sy
  · intro s' Sz
    refine ⟨rfl, d9, Sz.sub ?_⟩
    exact .cons _ (.cons _ (.cons _ (List.Sublist.trans (.cons _ (.cons _ (.cons _ (.cons _ (.cons _ (.cons _ (.cons₂ _ (.cons₂ _ (List.nil_sublist _))))))))) (List.sublist_append_right _ _))))
end
theorem tapeB_none (l : List Nat) : (tapeB l)[l.length]? = none := by
  unfold tapeB byteArr
  simp
theorem Row.tow {S R : List Int} (h : Row R) (p : Srt S R) : Tow (S.map Int.toNat) where
  lt := fun x hx => by
    obtain ⟨k, hk, rfl⟩ := List.mem_map.mp hx
    have := (h.srt p).nn k hk
    omega
  up := by
    rw [List.pairwise_map]
    exact p.2.imp fun {a b} h => by omega
  len := by rw [List.length_map]; exact (h.srt p).len
theorem reord {α : Type} (k X : List α) (a b c d : α) : (k ++ (a :: b :: c :: d :: X)).Perm (X ++ (d :: a :: (k ++ [b, c]))) := by
  have e1 : (k ++ (a :: b :: c :: d :: X)).Perm (a :: b :: c :: d :: (X ++ k)) := List.perm_append_comm
  have e2 : (X ++ (d :: a :: (k ++ [b, c]))).Perm (d :: a :: ((k ++ [b, c]) ++ X)) := List.perm_append_comm
  have e3 : ((k ++ [b, c]) ++ X).Perm (b :: c :: (X ++ k)) := by
    rw [List.append_assoc]
    exact List.perm_append_comm
  have e4 : (a :: b :: c :: d :: (X ++ k)).Perm (d :: a :: b :: c :: (X ++ k)) := List.perm_middle (l₁ := [a, b, c])
  exact e1.trans (e4.trans (((e3.cons a).cons d).symm.trans e2.symm))
section
variable {prog : Program} {w : World} {A : Around} {σ : Shared} {h₀ : Heap} {N : Led} {s : Shared} {env : Env} {E : Value → Shared → Prop} {mg mb : Str → Option Value} {n : Nat} {ad : Ads}
set_option maxHeartbeats 2000000 in
theorem body1 {L a c P Pk ck scr : Addr} {m : Str → Option Value} {x1 x2 x3 x4 x5 x6 : Option Value} {vs : List Value} {ns : List Int}
    (S : St σ h₀ ((L, .ns m) :: (L + 1, .cel x1) :: (L + 2, .cel x2) :: (L + 3, .cel x3) :: (L + 4, .cel x4) :: (L + 5, .cel x5) :: (L + 6, .cel x6) :: (P, tbE 0) :: (Pk, tbE 0) :: []) s) (W : Wd ad mg mb h₀) (Rm : Room A 305)
    (B : Bm mg h₀) (C : CodeHd h₀ c P) (hnm : (mg "__name__").isSome = true) (hsm : (h₀.get? sysModules).isSome = true) (hcs : Cs h₀) (F : FnC h₀ ad.ck 3 ck Pk)
    (hm : m "script" = some (.ref scr)) (hs : h₀.IsList scr vs.toArray) (hi : Ints vs ns) (hz : vs.length < 64) :
    wpAny (model prog w) A (execs (fdef 15).2.2.1 (lenv L a c)) (fun f s' => f = .ret (.bool true) ∧ ∃ d k1 k2, St { σ with drawn := d } h₀ [(P, tbE k1), (Pk, tbE k2)] s') NoE s := by
  show wpAny _ _ (execs [lstm 0, lstm 1, lstm 2, lstm 3, lstm 4, lstm 5, lstm 6, lstm 7, lstm 8, lstm 9, lstm 10, lstm 11, lstm 12, lstm 13, lstm 14, lstm 15, lstm 16, lstm 17, lstm 18] _) _ _ _
  refine wpAny_execs_cons ?_
  have Sa : St σ h₀ ((L + 1, .cel x1) :: (L, .ns m) :: (L + 2, .cel x2) :: (L + 3, .cel x3) :: (L + 4, .cel x4) :: (L + 5, .cel x5) :: (L + 6, .cel x6) :: (P, tbE 0) :: (Pk, tbE 0) :: []) s := S.sel (by walk_at "sel")
  refine law0 Sa ?_
  intro s0 rl r0 r1 r2 S0
  refine wpAny_execs_cons ?_
  have S0' : St σ h₀ ((L, .ns m) :: (L + 1, .cel (some (.ref rl))) :: (L + 2, .cel x2) :: (L + 3, .cel x3) :: (rl, .lst [.ref r0, .ref r1, .ref r2]) :: (r0, .lst []) :: (r1, .lst []) :: (r2, .lst []) :: (L + 4, .cel x4) :: (L + 5, .cel x5) :: (L + 6, .cel x6) :: (P, tbE 0) :: (Pk, tbE 0) :: []) s0 := S0.sel (by walk_at "sel")
  refine law1 S0' W (Rm.le (by decide)) hm hs hi hz ?_
  intro s1 m1 y2 y3 v0 v1 v2 hm1 i0 i1 i2 S1
  refine wpAny_execs_cons ?_
  refine law2 S1 ?_
  intro s2 tl S2
  refine wpAny_execs_cons ?_
  have S2' : St σ h₀ ((L, .ns fun y => if y = "tape" then some (.ref tl) else m1 y) :: (L + 2, .cel y2) :: (tl, .lst []) :: (L + 1, .cel (some (.ref rl))) :: (rl, .lst [.ref r0, .ref r1, .ref r2]) :: (r0, .lst v0) :: (r1, .lst v1) :: (r2, .lst v2) :: (L + 3, .cel y3) :: (L + 4, .cel x4) :: (L + 5, .cel x5) :: (L + 6, .cel x6) :: (P, tbE 0) :: (Pk, tbE 0) :: []) s2 := S2.sel (by walk_at "sel")
  have g0 := row_cells 0 ns
  have g1 := row_cells 1 ns
  have g2 := row_cells 2 ns
  refine law3 S2' W (Rm.le (by decide)) (by exact rfl) i0 i1 i2 g0 g1 g2 ?_
  intro s3 m3 y2a tl3 vt u0 u1 u2 Z0 Z1 Z2 p0 p1 p2 k0 k1' k2' it zt hm3 S3
  refine wpAny_execs_cons ?_
  have S3' : St σ h₀ ((L, .ns m3) :: (tl3, .lst vt) :: (L + 4, .cel x4) :: (L + 3, .cel y3) :: (L + 1, .cel (some (.ref rl))) :: (L + 2, .cel y2a) :: (rl, .lst [.ref r0, .ref r1, .ref r2]) :: (r0, .lst u0) :: (r1, .lst u1) :: (r2, .lst u2) :: (L + 5, .cel x5) :: (L + 6, .cel x6) :: (P, tbE 0) :: (Pk, tbE 0) :: []) s3 := S3.sel (by walk_at "sel")
  refine law4 S3' W (Rm.le (by decide)) hm3 it zt (tapeF_lt _ _ _) ?_
  intro s4 oc tb S4
  refine wpAny_execs_cons ?_
  have S4' : St σ h₀ ((L + 4, .cel x4) :: (L, .ns fun y => if y = "octets" then some (.ref oc) else m3 y) :: (L + 3, .cel y3) :: (oc, biE (tapeB (tapeF Z0 Z1 Z2)) tb 0) :: (L + 1, .cel (some (.ref rl))) :: (L + 2, .cel y2a) :: (rl, .lst [.ref r0, .ref r1, .ref r2]) :: (r0, .lst u0) :: (r1, .lst u1) :: (r2, .lst u2) :: (L + 5, .cel x5) :: (L + 6, .cel x6) :: (P, tbE 0) :: (Pk, tbE 0) :: []) s4 := S4.sel (by walk_at "sel")
  refine law5 S4' ?_
  intro s5 td S5
  refine wpAny_execs_cons ?_
  have S5' : St σ h₀ ((L, .ns fun y => if y = "octets" then some (.ref oc) else m3 y) :: (L + 3, .cel y3) :: (oc, biE (tapeB (rowTape (Z0.map Int.toNat) ++ rowTape (Z1.map Int.toNat) ++ rowTape (Z2.map Int.toNat))) tb 0) :: (L + 4, .cel (some (.ref td))) :: (td, .lst []) :: (L + 1, .cel (some (.ref rl))) :: (L + 2, .cel y2a) :: (rl, .lst [.ref r0, .ref r1, .ref r2]) :: (r0, .lst u0) :: (r1, .lst u1) :: (r2, .lst u2) :: (L + 5, .cel x5) :: (L + 6, .cel x6) :: (P, tbE 0) :: (Pk, tbE 0) :: []) s5 := S5.sel (by walk_at "sel")
  refine law6 S5' W (Rm.le (by decide)) (by exact rfl) (g0.tow p0) (g1.tow p1) (g2.tow p2) ?_
  intro s6 m6 y3a q0 q1 q2 w0 w1 w2 l0 l1 l2 hm6 S6
  rw [← (g0.srt p0).nats] at l0
  rw [← (g1.srt p1).nats] at l1
  rw [← (g2.srt p2).nats] at l2
  refine wpAny_execs_cons ?_
  have hnone := tapeB_none (rowTape (Z0.map Int.toNat) ++ rowTape (Z1.map Int.toNat) ++ rowTape (Z2.map Int.toNat))
  generalize (rowTape (Z0.map Int.toNat) ++ rowTape (Z1.map Int.toNat) ++ rowTape (Z2.map Int.toNat)).length = tn at S6 hnone
  generalize tapeB (rowTape (Z0.map Int.toNat) ++ rowTape (Z1.map Int.toNat) ++ rowTape (Z2.map Int.toNat)) = bt at S6 hnone
  have S6' : St σ h₀ ((oc, biE bt tb tn) :: (L, .ns m6) :: (L + 1, .cel (some (.ref rl))) :: (L + 4, .cel (some (.ref td))) :: (td, .lst [.ref q0, .ref q1, .ref q2]) :: (rl, .lst [.ref r0, .ref r1, .ref r2]) :: (q0, .lst w0) :: (q1, .lst w1) :: (q2, .lst w2) :: (r0, .lst u0) :: (r1, .lst u1) :: (r2, .lst u2) ::
      (L + 2, .cel y2a) :: (L + 3, .cel y3a) :: (L + 5, .cel x5) :: (L + 6, .cel x6) :: (P, tbE 0) :: (Pk, tbE 0) :: []) s6 := S6.sel (by walk_at "sel")
  refine law7 S6' W (Rm.le (by decide)) hm6 hnone l0 l1 l2 k0 k1' k2' ?_
  intro s7 S7
  refine wpAny_execs_cons ?_
  have S7' : St σ h₀ ((P, tbE 0) :: (Pk, tbE 0) :: (L, .ns m6) :: (L + 3, .cel y3a) :: (L + 5, .cel x5) :: (L + 6, .cel x6) :: (L + 4, .cel (some (.ref td))) :: (td, .lst [.ref q0, .ref q1, .ref q2]) :: (q0, .lst w0) :: (q1, .lst w1) :: (q2, .lst w2) ::
      (L + 1, .cel (some (.ref rl))) :: (L + 2, .cel y2a) :: (rl, .lst [.ref r0, .ref r1, .ref r2]) :: (r0, .lst u0) :: (r1, .lst u1) :: (r2, .lst u2) :: []) s7 := S7.sel (by walk_at "sel")
  refine law8 S7' W Rm B C hnm hsm hcs F ?_
  intro s8 k1 k2 lam cl Pl Cc nsC md bt8 q t t2 t3 t4 t5 sl f1 f2 f3 f4 f5 f6 c1 c2 c4 P1 P2 P4 sa mc S8
  let K : KD := ⟨Cc, nsC, md, bt8, sl, f1, f2, f3, f4, f5, f6, c1, c2, c4, P1, P2, P4, sa, mc, lam, cl, Pl, q, (lenv L a c).qual ++ "<lambda>", t, t2, t3, t4, t5⟩
  have S9 : St σ h₀ (((L, .ns fun y => if y = "by_length" then some (.ref Cc) else m6 y) :: (L + 3, .cel y3a) :: (L + 5, .cel x5) :: (L + 6, .cel x6) :: (L + 4, .cel (some (.ref td))) :: (td, .lst [.ref q0, .ref q1, .ref q2]) :: (q0, .lst w0) :: (q1, .lst w1) :: (q2, .lst w2) ::
      (L + 1, .cel (some (.ref rl))) :: (L + 2, .cel y2a) :: (rl, .lst [.ref r0, .ref r1, .ref r2]) :: (r0, .lst u0) :: (r1, .lst u1) :: (r2, .lst u2) :: []) ++ ((P, tbE k1) :: (Pk, tbE k2) :: K.led mg)) s8 := S8.perm (reord _ _ _ _ _ _).symm
  refine wpAny_mono (body2 (K := K) S9 W (Rm.le (by decide)) (by exact rfl) l0 l1 l2 k0 k1' k2' (g0.srt p0) (g1.srt p1) (g2.srt p2)) (fun f s' hf => ⟨hf.1, ?_⟩) fun _ _ e => e
  obtain ⟨d, Sd⟩ := hf.2
  exact ⟨d, k1, k2, Sd⟩
end
section
variable {prog : Program} {w : World} {A : Around} {σ : Shared} {h₀ : Heap} {N : Led} {s : Shared} {env : Env} {E : Value → Shared → Prop} {mg mb : Str → Option Value} {n : Nat} {ad : Ads}
/-- the call of a def with cells, to its end -/
theorem code_at_c {i : Nat} {a c P : Addr} {args : List Value} {R : Result → Shared → Prop} (S : St σ h₀ N s) (G : Gl mg mb h₀) (Rm : Room A (n + 1)) (F : FnC h₀ a i c P)
    (hb : ∀ pm cd doc, bindArgs (docDef (fdef i).1 (fdef i).2.1 (fdef i).2.2.1 (fdef i).2.2.2 pm cd doc) ⟨args, []⟩ = pure (fbinds i args))
    (hkind : ∀ L, ∀ x ∈ fbinds i args, (fdef i).2.2.2.names.lookup x.1 = some .local ∨ ((fdef i).2.2.2.names.lookup x.1 = some .cell ∧ ((fcells i L).lookup x.1).isSome = true))
    (hcs : ∀ L, ∀ p ∈ fcells i L, (fcells i L).lookup p.1 = some p.2)
    (h : ∀ L s' A', Room A' n → St σ h₀ (((L, .ns (bindL (fenvC i L a (.ref c)).kindOf (fbinds i args) fun _ => none)) :: (fcells i L).map fun p => (p.2, Ent.cel (bindC (fenvC i L a (.ref c)).kindOf (fbinds i args) (fun _ => none) p.1))) ++ N) s' →
      wpAny (model prog w) A' (execs (fdef i).2.2.1 (fenvC i L a (.ref c))) (fun f s'' => R (.ok (.ret (match f with | .ret v => v | _ => .none))) s'') NoE s')
    (hco : (fdef i).2.2.2.isCoroutine = false := by rfl) (hgen : (fdef i).2.2.2.isGenerator = false := by rfl) (hk : (fdef i).2.2.2.kind = .function := by rfl) : codeAny (model prog w) A (.call (.ref a) ⟨args, []⟩) R s := by
  obtain ⟨o, pm, doc, h1, h2, h3, h4⟩ := F
  refine call_cells_ret Rm.room (S.keep _ _ h1) h2 (G.lim.keeps S.keep) (h3.keeps S.keep) (hb pm (.ref c) doc) (hkind _) (fun h₁ tk Fr₁ X => ?_) hco hgen hk
  refine h _ _ _ Rm.deeper (S.many Fr₁.keep ?_ ?_ ?_)
  · intro p hp
    rcases List.mem_cons.mp hp with rfl | hp
    · exact get?_size _
    · obtain ⟨q, hq, rfl⟩ := List.mem_map.mp hp
      exact get?_above (Nat.le_of_lt (X.above q.1 q.2 hq))
  · rw [List.map_cons, List.nodup_cons, List.map_map]
    refine ⟨fun hm => ?_, ?_⟩
    · obtain ⟨q, hq, e⟩ := List.mem_map.mp hm
      have := X.above q.1 q.2 hq
      have e' : q.2 = s.heap.objs.size := e
      rw [e'] at this
      exact Nat.lt_irrefl _ this
    · exact List.pairwise_map.mpr X.apart
  · intro p hp
    rcases List.mem_cons.mp hp with rfl | hp
    · obtain ⟨o, es, ep, e1, e2, e3, e4⟩ := Fr₁.ns
      exact ⟨o, e1, es, ep, e2, e3, e4⟩
    · obtain ⟨q, hq, rfl⟩ := List.mem_map.mp hp
      exact X.cell q.1 q.2 (hcs _ q hq)
theorem lcells (L : Addr) : fcells 15 L = [(("chosen" : Str), L + 6), (("word" : Str), L + 5), (("told" : Str), L + 4), (("place" : Str), L + 3), (("number" : Str), L + 2), (("rows" : Str), L + 1)] := rfl
/-- law(script) -/
theorem law_any {law c P ck Pk scr : Addr} {vs : List Value} {ns : List Int} {R : Result → Shared → Prop} (S : St σ h₀ [(P, tbE 0), (Pk, tbE 0)] s) (W : Wd ad mg mb h₀) (Rm : Room A 306) (B : Bm mg h₀) (hnm : (mg "__name__").isSome = true)
    (hsm : (h₀.get? sysModules).isSome = true) (hcs : Cs h₀) (F : FnC h₀ law 15 c P) (Fk : FnC h₀ ad.ck 3 ck Pk) (hs : h₀.IsList scr vs.toArray) (hi : Ints vs ns) (hz : vs.length < 64)
    (h : ∀ d k1 k2 s', St { σ with drawn := d } h₀ [(P, tbE k1), (Pk, tbE k2)] s' → R (.ok (.ret (.bool true))) s') : codeAny (model prog w) A (.call (.ref law) ⟨[.ref scr], []⟩) R s := by
  refine code_at_c S W.G Rm F (fun _ _ _ => rfl) ?_ ?_ ?_
  · intro L x hx
    rcases List.mem_singleton.mp hx with rfl
    exact .inl rfl
  · intro L p hp
    rw [lcells] at hp ⊢
    simp only [List.mem_cons, List.not_mem_nil, or_false] at hp
    rcases hp with rfl | rfl | rfl | rfl | rfl | rfl <;> rfl
  intro L s1 A1 R1 S1
  have S2 : St σ h₀ ((L, .ns (bindL (fenvC 15 L law (.ref c)).kindOf (fbinds 15 [.ref scr]) fun _ => none)) :: (L + 1, .cel none) :: (L + 2, .cel none) :: (L + 3, .cel none) :: (L + 4, .cel none) :: (L + 5, .cel none) :: (L + 6, .cel none) :: (P, tbE 0) :: (Pk, tbE 0) :: []) s1 := by
    rw [lcells] at S1
    have S1' : St σ h₀ ((L, .ns (bindL (fenvC 15 L law (.ref c)).kindOf (fbinds 15 [.ref scr]) fun _ => none)) :: (L + 6, .cel none) :: (L + 5, .cel none) :: (L + 4, .cel none) :: (L + 3, .cel none) :: (L + 2, .cel none) :: (L + 1, .cel none) :: (P, tbE 0) :: (Pk, tbE 0) :: []) s1 := S1
    exact S1'.sel (by walk_at "sel")
  obtain ⟨o, pm, doc, h1, h2, h3, h4⟩ := F
  refine wpAny_mono (body1 (c := c) (a := law) S2 W R1 B h4 hnm hsm hcs Fk rfl hs hi hz) (fun f s' hf => ?_) fun _ _ e => e
  obtain ⟨rfl, d, k1, k2, Sd⟩ := hf
  exact h d k1 k2 s' Sd
end
/-- facts that the written part tells of a def -/
def funcOf (o : Obj) : Option FuncData := match o.data with
  | .func fd => some fd
  | _ => none
def nameIn (K : Frag) (c : Addr) : Option Str := match K.lookup c with
  | some ⟨_, _, .fields vs, _⟩ => (match (vs[1]? : Option Value) with
    | some (.str q _) => some q
    | _ => none)
  | _ => none
theorem rec_in {K : Frag} {h : Heap} {c : Addr} {x : Str} (X : K.In h) (e : nameIn K c = some x) : h.CodeRec (.ref c) x := by
  unfold nameIn at e
  split at e
  · rename_i vs _ hk
    split at e
    · rename_i q t hq
      cases e
      exact ⟨c, _, vs, t, rfl, X _ _ hk, rfl, hq⟩
    · cases e
  · cases e
def seqIn (K : Frag) (a : Addr) : Option (Array Value) := match K.lookup a with
  | some ⟨_, _, .seq vs _, _⟩ => some vs
  | _ => none
theorem seq_in {K : Frag} {h : Heap} {a : Addr} {vs : Array Value} (X : K.In h) (e : seqIn K a = some vs) : ∃ o n, h.get? a = some o ∧ o.data = .seq vs n := by
  unfold seqIn at e
  split at e
  · rename_i hk
    cases e
    exact ⟨_, _, X _ _ hk, rfl⟩
  · cases e
def bareNs (K : Frag) (a : Addr) : Bool := match K.lookup a with
  | some ⟨_, _, .dict es _, _⟩ => es.isEmpty
  | _ => false
theorem bare_in {K : Frag} {h : Heap} {a : Addr} (X : K.In h) (e : bareNs K a = true) : h.Ns a fun _ => none := by
  unfold bareNs at e
  split at e
  · rename_i es _ _ hk
    have : es = #[] := Array.isEmpty_iff.mp e
    subst this
    exact ⟨_, _, _, X _ _ hk, rfl, fun e he => by simp at he, fun _ => rfl⟩
  · cases e
/-- what the head looks at in the heap that the text's top leaves -/
def funcAt (h : Heap) (a : Addr) : Option FuncData := ((h.get? a).bind funcOf).map fun fd => { fd with pyModule := .none }
def nameAt (h : Heap) (c : Addr) : Option Str := match h.get? c with
  | some o => nameIn [(c, o)] c
  | none => none
def nsAt (h : Heap) (a : Addr) (x : Str) : Option (Option Value) := match h.get? a with
  | some ⟨_, _, .dict es _, _⟩ => some (nsFind es x)
  | _ => none
def bareAt (h : Heap) (a : Addr) : Bool := match h.get? a with
  | some o => bareNs [(a, o)] a
  | none => false
def seqAt (h : Heap) (a : Addr) : Option (Array Value) := match h.get? a with
  | some o => seqIn [(a, o)] a
  | none => none
def hdAt (h : Heap) (c P : Addr) : Bool := match h.get? c with
  | some o => codeHdIn [(c, o)] c P
  | none => false
/-- a def: where it stands, its code object, its statement in the text -/
def fns : List (Addr × Addr × Nat) := [(21, 20, 1), (28, 27, 3), (44, 43, 7), (51, 50, 8), (58, 57, 9), (65, 64, 10), (72, 71, 11), (79, 78, 13), (84, 83, 14), (89, 88, 15)]
def named : List (Str × Value) := [("_parse_varint", .ref 21), ("cmp_to_key", .ref 28), ("reduce", .ref 37), ("_initial_missing", .ref 29), ("heappush", .ref 44), ("heappop", .ref 51), ("heapify", .ref 58), ("_siftdown", .ref 65), ("_siftup", .ref 72), ("_law_octets", .ref 79), ("_law_met", .ref 84), ("law", .ref 89)]
abbrev docAt (i : Nat) (pm : Value) (c : Addr) : FuncData := docDef (fdef i).1 (fdef i).2.1 (fdef i).2.2.1 (fdef i).2.2.2 pm (.ref c) .none
abbrev Seen := List (Option FuncData) × List (Option Str) × List (Option (Option Value)) × List Bool × Option (Array Value) × List (Option Obj)
def obs (s : Shared) : Seen :=
  (funcAt s.heap 37 :: fns.map (fun p => funcAt s.heap p.1), nameAt s.heap 36 :: fns.map (fun p => nameAt s.heap p.2.1), named.map (fun p => nsAt s.heap mainGlobals p.1) ++ bnames.map (fun x => nsAt s.heap mainGlobals x),
    [((nsAt s.heap mainGlobals "__name__").getD none).isSome, bareAt s.heap cStatics, hdAt s.heap 88 86, hdAt s.heap 27 23], seqAt s.heap 30, [s.heap.get? 86, s.heap.get? 23])
def val (_ : World) : Seen :=
  (some { docAt 5 .none 36 with defaults := .ref 30 } :: fns.map (fun p => some (docAt p.2.2 .none p.2.1)), some (fdef 5).1 :: fns.map (fun p => some (fdef p.2.2).1), named.map (fun p => some (some p.2)) ++ bnames.map (fun _ => some none),
    [true, true, true, true], some #[.ref 29], [some (tabObj #[]), some (tabObj #[])])
structure Says (h : Heap) : Prop where
  rd : ∃ o pm, h.get? 37 = some o ∧ o.data = .func { docAt 5 pm 36 with defaults := .ref 30 }
  fn : ∀ p ∈ fns, ∃ o pm, h.get? p.1 = some o ∧ o.data = .func (docAt p.2.2 pm p.2.1)
  rrc : h.CodeRec (.ref 36) (fdef 5).1
  rc : ∀ p ∈ fns, h.CodeRec (.ref p.2.1) (fdef p.2.2).1
  ns : ∃ o es ep, h.get? mainGlobals = some o ∧ o.data = .dict es ep ∧ (∀ p ∈ named, nsFind es p.1 = some p.2) ∧ (∀ x ∈ bnames, nsFind es x = none) ∧ (nsFind es "__name__").isSome = true
  st : h.Ns cStatics fun _ => none
  hd : CodeHd h 88 86 ∧ CodeHd h 27 23
  dflt : ∃ o n, h.get? 30 = some o ∧ o.data = .seq #[.ref 29] n
  tabs : h.get? 86 = some (tabObj #[]) ∧ h.get? 23 = some (tabObj #[])
theorem In.one {h : Heap} {a : Addr} {o : Obj} (e : h.get? a = some o) : Frag.In [(a, o)] h := by
  intro b o' q
  rw [List.lookup_cons] at q
  cases hb : b == a with
  | true => rw [hb] at q; cases q; rw [eq_of_beq hb]; exact e
  | false => rw [hb] at q; cases q
theorem funcAt_of {h : Heap} {a : Addr} {fd : FuncData} (e : funcAt h a = some fd) : ∃ o pm, h.get? a = some o ∧ o.data = .func { fd with pyModule := pm } := by
  unfold funcAt at e
  obtain ⟨fd', h1, h2⟩ := Option.map_eq_some_iff.mp e
  obtain ⟨o, ho, hf⟩ := Option.bind_eq_some_iff.mp h1
  refine ⟨o, fd'.pyModule, ho, ?_⟩
  rw [← h2]
  unfold funcOf at hf
  split at hf
  · rename_i q
    rw [q]
    cases hf
    rfl
  · cases hf
theorem nameAt_of {h : Heap} {c : Addr} {x : Str} (e : nameAt h c = some x) : h.CodeRec (.ref c) x := by
  unfold nameAt at e
  split at e
  · rename_i q
    exact rec_in (In.one q) e
  · cases e
theorem nsAt_of {h : Heap} {a : Addr} {x : Str} {r : Option Value} (e : nsAt h a x = some r) : ∃ o es ep, h.get? a = some o ∧ o.data = .dict es ep ∧ nsFind es x = r := by
  unfold nsAt at e
  split at e
  · rename_i q
    cases e
    exact ⟨_, _, _, q, rfl, rfl⟩
  · cases e
theorem says_of (w : World) (s : Shared) (e : obs s = val w) : Says s.heap := by
  obtain ⟨e1, e⟩ := Prod.mk.inj e
  obtain ⟨e2, e⟩ := Prod.mk.inj e
  obtain ⟨e3, e⟩ := Prod.mk.inj e
  obtain ⟨e4, e⟩ := Prod.mk.inj e
  obtain ⟨e5, e6⟩ := Prod.mk.inj e
  obtain ⟨r1, f1⟩ := List.cons.inj e1
  obtain ⟨r2, f2⟩ := List.cons.inj e2
  obtain ⟨n1, n2⟩ := List.append_inj e3 (by rw [List.length_map, List.length_map])
  obtain ⟨b1, e4⟩ := List.cons.inj e4
  obtain ⟨b2, e4⟩ := List.cons.inj e4
  obtain ⟨b3, e4⟩ := List.cons.inj e4
  obtain ⟨b4, -⟩ := List.cons.inj e4
  obtain ⟨t1, e6⟩ := List.cons.inj e6
  obtain ⟨t2, -⟩ := List.cons.inj e6
  have hN := List.map_inj_left.mp n1
  have hB := List.map_inj_left.mp n2
  refine ⟨?_, fun p hp => ?_, nameAt_of r2, fun p hp => nameAt_of (List.map_inj_left.mp f2 p hp), ?_, ?_, ⟨?_, ?_⟩, ?_, t1, t2⟩
  · obtain ⟨o, pm, h1, h2⟩ := funcAt_of r1
    exact ⟨o, pm, h1, h2⟩
  · obtain ⟨o, pm, h1, h2⟩ := funcAt_of (List.map_inj_left.mp f1 p hp)
    exact ⟨o, pm, h1, h2⟩
  · obtain ⟨o, es, ep, h1, h2, h3⟩ := nsAt_of (hN ("law", .ref 89) (.tail _ (.tail _ (.tail _ (.tail _ (.tail _ (.tail _ (.tail _ (.tail _ (.tail _ (.tail _ (.tail _ (.head _)))))))))))))
    have key : ∀ {x : Str} {r : Option Value}, nsAt s.heap mainGlobals x = some r → nsFind es x = r := fun {x r} q => by
      obtain ⟨o', es', ep', k1, k2, k3⟩ := nsAt_of q
      rw [h1] at k1
      cases k1
      rw [h2] at k2
      cases k2
      exact k3
    refine ⟨o, es, ep, h1, h2, fun p hp => key (hN p hp), fun x hx => key (hB x hx), ?_⟩
    cases q : nsAt s.heap mainGlobals "__name__" with
    | none => rw [q] at b1; cases b1
    | some r =>
      rw [q] at b1
      rw [key q]
      exact b1
  · unfold bareAt at b2
    split at b2
    · rename_i q
      exact bare_in (In.one q) b2
    · cases b2
  · unfold hdAt at b3
    split at b3
    · rename_i q
      exact codeHd_of_K (In.one q) b3
    · cases b3
  · unfold hdAt at b4
    split at b4
    · rename_i q
      exact codeHd_of_K (In.one q) b4
    · cases b4
  · unfold seqAt at e5
    split at e5
    · rename_i q
      exact seq_in (In.one q) e5
    · cases e5
theorem says_keeps (_ : World) (h h' : Heap) (S : Says h) (k : ∀ b o, h.get? b = some o → h'.get? b = some o) : Says h' where
  rd := let ⟨o, pm, h1, h2⟩ := S.rd; ⟨o, pm, k _ _ h1, h2⟩
  fn := fun p hp => let ⟨o, pm, h1, h2⟩ := S.fn p hp; ⟨o, pm, k _ _ h1, h2⟩
  rrc := S.rrc.keeps k
  rc := fun p hp => (S.rc p hp).keeps k
  ns := let ⟨o, es, ep, h1, r⟩ := S.ns; ⟨o, es, ep, k _ _ h1, r⟩
  st := S.st.keeps k
  hd := ⟨S.hd.1.keeps k, S.hd.2.keeps k⟩
  dflt := let ⟨o, n, h1, h2⟩ := S.dflt; ⟨o, n, k _ _ h1, h2⟩
  tabs := ⟨k _ _ S.tabs.1, k _ _ S.tabs.2⟩
/-- the text's statements that the head looks at -/
def vw : Program := { PySem.Challenge.pw_of0014_01 with main := { PySem.Challenge.pw_of0014_01.main with body := [1, 3, 4, 7, 8, 9, 10, 11, 13, 14, 15].filterMap fun i => PySem.Challenge.pw_of0014_01.main.body[i]? } }
def looseL : List Str := ["_initial_missing", "reduce"]
def rwW : RowW := PySem.Challenge.rw_of0014_01.row.toRowW
def xt (s : Shared) : Bool := xlAt vw [] s && recOk (RowW.records rwW) s
theorem left : LeftO PySem.Challenge.pw_of0014_01 vw looseL xt obs val 934 := by
  intro w
  kernel_rfl
section
variable {h : Heap} {tabs : List (Addr × Addr)} {mg mb : Str → Option Value}
theorem rec_ghost {c : Value} {x : Str} (hT : TabsAt tabs h) (R : h.CodeRec c x) : (ghostOf h tabs).CodeRec c x := by
  obtain ⟨a, o, vs, t, e1, e2, e3, e4⟩ := R
  exact ⟨a, o, vs, t, e1, ghost_get hT e2 (fun q => by rw [q] at e3; cases e3; cases e4), e3, e4⟩
theorem func_ghost {a : Addr} {o : Obj} {fd : FuncData} (hT : TabsAt tabs h) (e : h.get? a = some o) (d : o.data = .func fd) : (ghostOf h tabs).get? a = some o := ghost_get hT e fun q => by rw [q] at d; cases d
theorem Says.at (S : Says h) (hT : TabsAt tabs h) (p : Addr × Addr × Nat) (hp : p ∈ fns) : Fn (ghostOf h tabs) p.1 p.2.2 := by
  obtain ⟨o, pm, e1, e2⟩ := S.fn p hp
  exact ⟨o, pm, _, _, func_ghost hT e1 e2, e2, rec_ghost hT (S.rc p hp)⟩
theorem Says.atC (S : Says h) (hT : TabsAt tabs h) (p : Addr × Addr × Nat) (hp : p ∈ fns) {P : Addr} (C : CodeHd (ghostOf h tabs) p.2.1 P) : FnC (ghostOf h tabs) p.1 p.2.2 p.2.1 P := by
  obtain ⟨o, pm, e1, e2⟩ := S.fn p hp
  exact ⟨o, pm, _, func_ghost hT e1 e2, e2, rec_ghost hT (S.rc p hp), C⟩
theorem Says.names (S : Says h) (G : h.Ns mainGlobals mg) : (∀ p ∈ named, mg p.1 = some p.2) ∧ (∀ x ∈ bnames, mg x = none) ∧ (mg "__name__").isSome = true := by
  obtain ⟨o, es, ep, e1, e2, e3, e4, e5⟩ := S.ns
  obtain ⟨o', es', ep', k1, k2, _, k4⟩ := G
  rw [e1] at k1
  cases k1
  rw [e2] at k2
  cases k2
  refine ⟨fun p hp => ?_, fun x hx => ?_, ?_⟩
  · rw [← k4]
    exact e3 p hp
  · rw [← k4]
    exact e4 x hx
  · rw [← k4]
    exact e5
def ads : Ads := ⟨21, 28, 37, 44, 51, 58, 65, 72, 79, 84, 29⟩
theorem Says.wd (S : Says h) (hT : TabsAt tabs h) (G0 : h.Ns mainGlobals mg) (G : Gl mg mb (ghostOf h tabs)) : Wd ads mg mb (ghostOf h tabs) := by
  obtain ⟨n, b, -⟩ := S.names G0
  obtain ⟨o, pm, e1, e2⟩ := S.rd
  obtain ⟨od, nd, d1, d2⟩ := S.dflt
  have f := S.at hT
  exact {
    G := G
    pv := n ("_parse_varint", .ref 21) (.head _)
    pvF := f (21, 20, 1) (.head _)
    ck := n ("cmp_to_key", .ref 28) (.tail _ (.head _))
    rd := n ("reduce", .ref 37) (.tail _ (.tail _ (.head _)))
    rdF := ⟨o, pm, _, _, 30, od, nd, func_ghost hT e1 e2, e2, rec_ghost hT S.rrc, ghost_get hT d1 (fun q => by rw [q] at d2; cases d2), d2⟩
    im := n ("_initial_missing", .ref 29) (.tail _ (.tail _ (.tail _ (.head _))))
    push := n ("heappush", .ref 44) (.tail _ (.tail _ (.tail _ (.tail _ (.head _)))))
    pushF := f (44, 43, 7) (.tail _ (.tail _ (.head _)))
    pop := n ("heappop", .ref 51) (.tail _ (.tail _ (.tail _ (.tail _ (.tail _ (.head _))))))
    popF := f (51, 50, 8) (.tail _ (.tail _ (.tail _ (.head _))))
    hfy := n ("heapify", .ref 58) (.tail _ (.tail _ (.tail _ (.tail _ (.tail _ (.tail _ (.head _)))))))
    hfyF := f (58, 57, 9) (.tail _ (.tail _ (.tail _ (.tail _ (.head _)))))
    sd := n ("_siftdown", .ref 65) (.tail _ (.tail _ (.tail _ (.tail _ (.tail _ (.tail _ (.tail _ (.head _))))))))
    sdF := f (65, 64, 10) (.tail _ (.tail _ (.tail _ (.tail _ (.tail _ (.head _))))))
    su := n ("_siftup", .ref 72) (.tail _ (.tail _ (.tail _ (.tail _ (.tail _ (.tail _ (.tail _ (.tail _ (.head _)))))))))
    suF := f (72, 71, 11) (.tail _ (.tail _ (.tail _ (.tail _ (.tail _ (.tail _ (.head _)))))))
    oct := n ("_law_octets", .ref 79) (.tail _ (.tail _ (.tail _ (.tail _ (.tail _ (.tail _ (.tail _ (.tail _ (.tail _ (.head _))))))))))
    octF := f (79, 78, 13) (.tail _ (.tail _ (.tail _ (.tail _ (.tail _ (.tail _ (.tail _ (.head _))))))))
    met := n ("_law_met", .ref 84) (.tail _ (.tail _ (.tail _ (.tail _ (.tail _ (.tail _ (.tail _ (.tail _ (.tail _ (.tail _ (.head _)))))))))))
    metF := f (84, 83, 14) (.tail _ (.tail _ (.tail _ (.tail _ (.tail _ (.tail _ (.tail _ (.tail _ (.head _)))))))))
    nb := b }
end
theorem ghost_st {s : Shared} {c P ck Pk : Addr} (hT : TabsAt [(c, P), (ck, Pk)] s.heap) (hne : P ≠ Pk) : St s (ghostOf s.heap [(c, P), (ck, Pk)]) [(P, tbE 0), (Pk, tbE 0)] s := by
  refine ⟨fun b o e => of_hideAll _ e, fun p hp => ?_, by simpa using hne, rfl, rfl, rfl⟩
  have key : ∀ q ∈ [(c, P), (ck, Pk)], At s.heap q.2 (tbE 0) ∧ (ghostOf s.heap [(c, P), (ck, Pk)]).get? q.2 = none := fun q hq =>
    ⟨⟨_, (hT q hq).2, #[], rfl, trivial, fun _ _ => rfl⟩, hideAll_none _ (List.mem_map_of_mem (f := (·.2)) hq)⟩
  rcases List.mem_cons.mp hp with rfl | hp
  · exact key _ (.head _)
  · rcases List.mem_singleton.mp hp with rfl
    exact key _ (.tail _ (.head _))
/-- law(script) from the heap that the text's top leaves: its end -/
theorem law_end {prog : Program} {w : World} {s : Shared} {mg mb : Str → Option Value} {scr : Addr} {vs : List Value} {ns : List Int} {R : Result → Shared → Prop} (Y : Says s.heap) (g : s.heap.Ns mainGlobals mg) (b : s.heap.Ns builtinsNs mb) (hb : ∀ x : Str, x ≠ "__name__" → mb x = bootBuiltins x) (hl : s.heap.NoLimit)
    (B : Bm mg s.heap) (hsm : s.heap.NoSeer) (hT : TabsAt [(88, 86), (27, 23)] s.heap) (hs : s.heap.IsList scr vs.toArray) (hi : Ints vs ns) (hz : vs.length < 64)
    (h : ∀ d k1 k2 s', St { s with drawn := d } (ghostOf s.heap [(88, 86), (27, 23)]) [(86, tbE k1), (23, tbE k2)] s' → R (.ok (.ret (.bool true))) s') : codeAny (model prog w) callerA (.call (.ref 89) ⟨[.ref scr], []⟩) R s := by
  have Gm : Gl mg mb (ghostOf s.heap [(88, 86), (27, 23)]) := ⟨ghost_ns hT g, ghost_ns hT b, hb, let ⟨mc, a, r⟩ := hl; ⟨mc, ghost_ns hT a, r⟩⟩
  have B' : Bm mg (ghostOf s.heap [(88, 86), (27, 23)]) := let ⟨bm, ob, a1, a2, a3, a4, r⟩ := B; ⟨bm, ob, a1, a2, ghost_get hT a3 (fun q => by rw [q] at a4; cases a4), a4, r⟩
  have hsm' : ((ghostOf s.heap [(88, 86), (27, 23)]).get? sysModules).isSome = true := by
    obtain ⟨mm, ⟨om, es, ep, e1, e2, _⟩, _⟩ := hsm.mods
    rw [ghost_get hT e1 (fun q => by rw [q] at e2; cases e2)]
    rfl
  obtain ⟨c1, c2, _⟩ := ghost_code hT
  exact law_any (ad := ads) (ghost_st hT (by decide)) (Y.wd hT g Gm) ⟨rfl, by decide, by decide⟩ B' (Y.names g).2.2 hsm' ⟨_, ghost_ns hT Y.st, rfl⟩ (Y.atC hT (89, 88, 15) (.tail _ (.tail _ (.tail _ (.tail _ (.tail _ (.tail _ (.tail _ (.tail _ (.tail _ (.head _)))))))))) c1) (Y.atC hT (28, 27, 3) (.tail _ (.head _)) c2) (ghost_list hT hs) hi hz h
end Mine
set_option maxHeartbeats 4000000 in
theorem PySem.Challenge.cw_of0014_01_holds : PySem.Challenge.rw_of0014_01.Holds := by
  refine holds_law (by kernel_rfl) fun said => ?_
  refine holds_open (q := Mine.vw) (loose := Mine.looseL) (Xt := Mine.xt) (XP := XL Mine.vw []) (Yf := Mine.obs) (Ya := Mine.val) (YP := fun _ h => Mine.Says h) (d := ⟨(Mine.fdef 15).1, (Mine.fdef 15).2.1, (Mine.fdef 15).2.2.1, (Mine.fdef 15).2.2.2, ⟨100, 0, 153, 73⟩⟩) (kwd := []) (N := 934)
    Mine.left Mine.says_of Mine.says_keeps (fun s e => xl_of s (Bool.and_eq_true_iff.mp e).1) XL.keeps (by kernel_rfl) (by kernel_rfl) (by kernel_rfl) (fun s e => recFacts_of (Bool.and_eq_true_iff.mp e).2) (by rfl) (by assumption) (by decide +kernel) ⟨rfl, rfl, rfl, rfl, rfl, by decide +kernel⟩ (by w_witness2) ?_
  intro w s₀ s₁ mg mb G Y fa o pm cd doc dV kV ho hd hcd hD hmg hg args vals as hpre hlay hrd hwl hlo
  have T := G.T
  have hT : TabsAt [(88, 86), (27, 23)] s₁.heap := List.forall_mem_cons.mpr ⟨⟨Y.hd.1, Y.tabs.1⟩, List.forall_mem_cons.mpr ⟨⟨Y.hd.2, Y.tabs.2⟩, fun _ h => nomatch h⟩⟩
  have hfa : fa = 89 := by
    have e : (some (Value.ref fa) : Option Value) = some (.ref 89) := hmg.symm.trans ((Y.names T.g).1 ("law", .ref 89) (.tail _ (.tail _ (.tail _ (.tail _ (.tail _ (.tail _ (.tail _ (.tail _ (.tail _ (.tail _ (.tail _ (.head _)))))))))))))
    cases e
    rfl
  subst hfa
  clear hd ho hcd hD hmg
  wrow_args hpre hlay hrd hwl hlo
  rename Heap.IsList _ _ _ => hL
  rename IntsAre _ _ => hI
  rename ¬ _ => hlen
  refine enter_call ?_
  refine kn_post hT (fun _ _ => rfl) ?_
  refine Mine.law_end Y T.g T.b T.builtins T.nolimit T.bmain (T.seer (by kernel_rfl)) hT hL (.of hI) ?_ ?_
  · have := hI.length
    omega
  · intro d k1 k2 s' S'
    obtain ⟨o1, h1, p1, q1, _⟩ := S'.at (.head _)
    obtain ⟨o2, h2, p2, q2, _⟩ := S'.at (.tail _ (.head _))
    refine ⟨⟨.inl ⟨_, .bool true, [], rfl, raisesW_false (by wrow_none_raised), .bool true, postW_of (by wrow_shape) (by wtm_val) (by w_fin), unshared_nil⟩, S'.keep, S'.os, S'.gens.trans hg⟩, ⟨p1, q1 ▸ h1⟩, ⟨p2, q2 ▸ h2⟩, trivial⟩
