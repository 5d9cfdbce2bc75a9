import PyProof.Rows.All
import Wide.All
import OpenK.AllK
import Wide.FinOn
import PySem.Challenge.RW_mj0153_01
set_option Elab.async false
set_option maxRecDepth 100000

section
open PySem PySem.W PySem.Calls PyProof.Rows
namespace Mine

/-! the text's statements, by their number -/
def stm (i : Nat) : Stmt := PySem.Challenge.pw_mj0153_01.main.body.getD i (.Pass ⟨0, 0, 0, 0⟩)

abbrev Kp (h h' : Heap) : Prop := ∀ b o, h.get? b = some o → h'.get? b = some o
abbrev Kb (a : Addr) (h h' : Heap) : Prop := ∀ b o, b ≠ a → h.get? b = some o → h'.get? b = some o
theorem Kp.kb {a : Addr} {h h' : Heap} (k : Kp h h') : Kb a h h' := fun b o _ e => k b o e
theorem Kp.push (h : Heap) (o : Obj) : Kp h (h.push o) := fun _ _ e => Heap.get?_push_of_some _ e
theorem Kp.trans {h h' h'' : Heap} (x : Kp h h') (y : Kp h' h'') : Kp h h'' := fun b o e => y b o (x b o e)
theorem Kp.rfl {h : Heap} : Kp h h := fun _ _ e => e
theorem lt_of_get {h : Heap} {a : Addr} {o : Obj} (e : h.get? a = some o) : a < h.objs.size := Heap.lt_size e
theorem none_size (h : Heap) : h.get? h.objs.size = none := Heap.get?_none_of_le (Nat.le_refl _)
theorem none_of_none {h h' : Heap} {a : Addr} (k : Kp h h') (e : h'.get? a = none) : h.get? a = none := by
  cases q : h.get? a with
  | none => exact Eq.refl _
  | some o => rw [k a o q] at e; cases e

/-! what stands around -/
structure Ar (k : Nat) (A : Around) : Prop where
  hh : A.handled = none
  dp : A.depth + k ≤ 900
  un : A.units + 10 * k ≤ 9000
section
variable {k j : Nat} {A : Around} {env : Env}
theorem Ar.deeper (x : Ar (k + 1) A) : Ar k (A.deeper env) :=
  ⟨x.hh, by have := x.dp; show A.depth + 1 + k ≤ 900; omega, by have := x.un; show A.units + 3 + 10 * k ≤ 9000; omega⟩
theorem Ar.in1 (x : Ar (k + 1) A) : Ar k A.in1 :=
  ⟨x.hh, by have := x.dp; show A.depth + k ≤ 900; omega, by have := x.un; show A.units + 1 + 10 * k ≤ 9000; omega⟩
theorem Ar.le (x : Ar k A) (h : j ≤ k) : Ar j A := ⟨x.hh, by have := x.dp; omega, by have := x.un; omega⟩
theorem Ar.room (x : Ar k A) : A.depth < recursionLimit := by have := x.dp; show A.depth < 1000; omega
theorem Ar.units (x : Ar k A) : A.units < cLine := by have := x.un; show A.units < 9900; omega
end

/-! a frame: what the call has of its own -/
structure Fm (s₀ : Shared) (h₀ : Heap) (env : Env) (m cm : Str → Option Value) (news : List (Addr × Obj)) (s : Shared) : Prop where
  same : ∃ h tk, s = { s₀ with heap := h, toks := tk }
  ns : s.heap.Ns env.locals m
  keep : Kp h₀ s.heap
  fresh : h₀.get? env.locals = none
  cell : ∀ n c, env.cells.lookup n = some c → s.heap.IsCell c (cm n)
  apart : env.cells.Pairwise fun x y => x.2 ≠ y.2
  cfresh : ∀ p ∈ env.cells, p.2 ≠ env.locals ∧ h₀.get? p.2 = none
  look : ∀ p ∈ env.cells, env.cells.lookup p.1 = some p.2
  nws : ∀ p ∈ news, s.heap.get? p.1 = some p.2 ∧ p.1 ≠ env.locals ∧ (∀ q ∈ env.cells, p.1 ≠ q.2) ∧ h₀.get? p.1 = none
  nd : (news.map (·.1)).Nodup

section
variable {s₀ s : Shared} {h₀ h' : Heap} {env : Env} {m cm m' : Str → Option Value} {news news' : List (Addr × Obj)} {a : Addr} {o o' : Obj} {tk : Nat}

abbrev Fm.ev (_ : Fm s₀ h₀ env m cm news s) : Env := env
theorem Fm.get (F : Fm s₀ h₀ env m cm news s) (hm : (a, o) ∈ news) : s.heap.get? a = some o := (F.nws _ hm).1

theorem Fm.same' (F : Fm s₀ h₀ env m cm news s) (h' : Heap) (tk : Nat) : ∃ h t, ({ s with heap := h', toks := tk } : Shared) = { s₀ with heap := h, toks := t } := by
  obtain ⟨h, t, rfl⟩ := F.same; exact ⟨h', tk, rfl⟩

theorem Fm.keeps (F : Fm s₀ h₀ env m cm news s) (k : Kp s.heap h') : Fm s₀ h₀ env m cm news { s with heap := h', toks := tk } :=
  ⟨F.same' _ _, F.ns.keeps k, F.keep.trans k, F.fresh, fun n c e => (F.cell n c e).keeps k, F.apart, F.cfresh, F.look, fun p hp => ⟨k _ _ (F.nws p hp).1, (F.nws p hp).2⟩, F.nd⟩

theorem Fm.tok (F : Fm s₀ h₀ env m cm news s) : Fm s₀ h₀ env m cm news { s with toks := tk } := F.keeps (h' := s.heap) Kp.rfl

/-- fewer (or in another order) told -/
theorem Fm.drop (F : Fm s₀ h₀ env m cm news s) (h : List.Sublist news' news) : Fm s₀ h₀ env m cm news' s :=
  ⟨F.same, F.ns, F.keep, F.fresh, F.cell, F.apart, F.cfresh, F.look, fun p hp => F.nws p (h.subset hp), F.nd.sublist (h.map _)⟩
theorem Fm.perm (F : Fm s₀ h₀ env m cm news s) (h : news'.Perm news) : Fm s₀ h₀ env m cm news' s :=
  ⟨F.same, F.ns, F.keep, F.fresh, F.cell, F.apart, F.cfresh, F.look, fun p hp => F.nws p (h.subset hp), (h.map (·.1)).nodup_iff.mpr F.nd⟩

/-- one that is told is changed -/
theorem Fm.upd {pre post : List (Addr × Obj)} (F : Fm s₀ h₀ env m cm (pre ++ (a, o) :: post) s) (k : Kb a s.heap h') (ho : h'.get? a = some o') :
    Fm s₀ h₀ env m cm (pre ++ (a, o') :: post) { s with heap := h', toks := tk } := by
  have A := F.nws (a, o) (List.mem_append_right _ (.head _))
  have nd := F.nd
  rw [List.map_append, List.map_cons] at nd
  have ne : ∀ p, p ∈ pre ∨ p ∈ post → p.1 ≠ a := by
    intro p hp e
    have hnd := List.nodup_append.mp nd
    rcases hp with hp | hp
    · exact hnd.2.2 _ (List.mem_map_of_mem hp) _ (.head _) e
    · exact (List.nodup_cons.mp hnd.2.1).1 (by have q := List.mem_map_of_mem (f := fun p : Addr × Obj => p.1) hp; rw [e] at q; exact q)
  refine ⟨F.same' _ _, F.ns.at' fun o e => k _ o (fun q => A.2.1 q.symm) e, fun b x e => k b x (fun q => ?_) (F.keep b x e), F.fresh, fun n c e => ?_, F.apart, F.cfresh, F.look, fun p hp => ?_, ?_⟩
  · have := A.2.2.2; rw [← q, e] at this; cases this
  · obtain ⟨x, hx, hd⟩ := F.cell n c e
    exact ⟨x, k _ _ (fun q => A.2.2.1 _ (mem_of_lookup e) q.symm) hx, hd⟩
  · rcases List.mem_append.mp hp with q | q
    · have P := F.nws p (List.mem_append_left _ q); exact ⟨k _ _ (ne p (.inl q)) P.1, P.2⟩
    · rcases List.mem_cons.mp q with rfl | q
      · exact ⟨ho, A.2⟩
      · have P := F.nws p (List.mem_append_right _ (.tail _ q)); exact ⟨k _ _ (ne p (.inr q)) P.1, P.2⟩
  · rw [List.map_append, List.map_cons]; exact nd

/-- new ones -/
def Made (h h' : Heap) (tl : List (Addr × Obj)) : Prop := (∀ p ∈ tl, h'.get? p.1 = some p.2 ∧ h.get? p.1 = none) ∧ (tl.map (·.1)).Nodup
theorem Made.nil {h h' : Heap} : Made h h' [] := ⟨(by intro _ q; cases q), List.nodup_nil⟩

theorem Fm.more {tl : List (Addr × Obj)} (F : Fm s₀ h₀ env m cm news s) (k : Kp s.heap h') (M : Made s.heap h' tl) : Fm s₀ h₀ env m cm (tl ++ news) { s with heap := h', toks := tk } := by
  have F' := F.keeps (tk := tk) k
  refine ⟨F'.same, F'.ns, F'.keep, F'.fresh, F'.cell, F'.apart, F'.cfresh, F'.look, fun p hp => ?_, ?_⟩
  · rcases List.mem_append.mp hp with q | q
    · have := M.1 p q
      refine ⟨this.1, fun e => ?_, fun c hc e => ?_, none_of_none F.keep this.2⟩
      · obtain ⟨x, _, _, hx, _⟩ := F.ns
        rw [← e, this.2] at hx; cases hx
      · obtain ⟨x, hx, _⟩ := F.cell c.1 c.2 (F.look c hc)
        rw [← e, this.2] at hx; cases hx
    · exact F'.nws p q
  · rw [List.map_append, List.nodup_append]
    refine ⟨M.2, F.nd, fun x hx y hy e => ?_⟩
    obtain ⟨p, hp, rfl⟩ := List.mem_map.mp hx
    obtain ⟨q, hq, rfl⟩ := List.mem_map.mp hy
    have h1 := (M.1 p hp).2
    rw [e, (F.nws q hq).1] at h1; cases h1

theorem Fm.push (F : Fm s₀ h₀ env m cm news s) (o : Obj) (ho : o.isFreed = false := by rfl) : Fm s₀ h₀ env m cm ((s.heap.objs.size, o) :: news) { s with heap := s.heap.push o, toks := tk } :=
  F.more (tl := [(s.heap.objs.size, o)]) (Kp.push _ _) ⟨fun p hp => by rw [List.mem_singleton.mp hp]; exact ⟨Heap.get?_push_size _ ho, none_size _⟩, by simp⟩
end

section
variable {prog : Program} {w : World} {M : Model} {A : Around} {E : Value → Shared → Prop} {s₀ s : Shared} {h₀ : Heap} {env : Env} {m cm : Str → Option Value} {news : List (Addr × Obj)} {x : Str} {v : Value} {pos : Pos}

/-- a local name is read -/
theorem nmL {Q : Value → Shared → Prop} (F : Fm s₀ h₀ env m cm news s) (hv : m x = some v) (h : Q v s) (hl : env.kindOf x = some .local := by rfl) (hk : env.scope.kind = .function := by rfl)
    (hd : (x == ("__debug__" : Str)) = false := by decide) : wpAny M A (eval (.Name x pos) env) Q E s := wpAny_Name (wpAny_loadName_local hk hl F.ns hv h) hd
/-- a cell's name is read -/
theorem nmC {Q : Value → Shared → Prop} {c : Addr} (F : Fm s₀ h₀ env m cm news s) (hc : env.cells.lookup x = some c) (hv : cm x = some v) (h : Q v s) (hl : env.kindOf x = some .cell := by rfl) (hk : env.scope.kind = .function := by rfl)
    (hd : (x == ("__debug__" : Str)) = false := by decide) : wpAny M A (eval (.Name x pos) env) Q E s := wpAny_Name (wpAny_loadName_cell hk hl hc (hv ▸ F.cell x c hc) h) hd

/-- a local name is stored -/
theorem stL {Q : Unit → Shared → Prop} (F : Fm s₀ h₀ env m cm news s) (h : ∀ s', Fm s₀ h₀ env (fun y => if y = x then some v else m y) cm news s' → Kb env.locals s.heap s'.heap → Q () s')
    (hl : env.kindOf x = some .local := by rfl) (hk : env.scope.kind = .function := by rfl) : wpAny M A (storeName env x v) Q E s := by
  refine wpAny_storeName_local hl F.ns (fun h' hn hs => h _ ⟨F.same' _ _, hn, fun b o e => ?_, F.fresh, fun n c e => ?_, F.apart, F.cfresh, F.look, fun p hp => ?_, F.nd⟩ fun b o hb e => hs.extBut b o hb e) (by rw [hk]; rfl)
  · exact hs.extBut b o (fun q => by rw [q, F.fresh] at e; cases e) (F.keep b o e)
  · exact (F.cell n c e).sameBut hs (F.cfresh _ (mem_of_lookup e)).1
  · exact ⟨hs.extBut _ _ (F.nws p hp).2.1 (F.nws p hp).1, (F.nws p hp).2⟩

/-- a cell's name is stored -/
theorem stC {Q : Unit → Shared → Prop} {c : Addr} (F : Fm s₀ h₀ env m cm news s) (hc : env.cells.lookup x = some c) (h : ∀ s', Fm s₀ h₀ env m (fun y => if y = x then some v else cm y) news s' → Kb c s.heap s'.heap → Q () s')
    (hl : env.kindOf x = some .cell := by rfl) (hk : env.scope.kind = .function := by rfl) : wpAny M A (storeName env x v) Q E s := by
  have hm := mem_of_lookup hc
  refine wpAny_storeName_cell hk hl hc (F.cell x c hc) fun h' hc' hs => h _ ⟨F.same' _ _, F.ns.sameBut hs (F.cfresh _ hm).1.symm, fun b o e => ?_, F.fresh, fun n c' e => ?_, F.apart, F.cfresh, F.look, fun p hp => ?_, F.nd⟩ fun b o hb e => hs.extBut b o hb e
  · exact hs.extBut b o (fun q => by rw [q, (F.cfresh _ hm).2] at e; cases e) (F.keep b o e)
  · by_cases hn : n = x
    · subst hn
      rw [hc] at e; cases e
      simpa using hc'
    · simp only [if_neg hn]
      exact (F.cell n c' e).sameBut hs fun q => hn (name_of_addr F.apart (mem_of_lookup e) (q ▸ hm))
  · exact ⟨hs.extBut _ _ ((F.nws p hp).2.2.1 _ hm) (F.nws p hp).1, (F.nws p hp).2⟩
end

/-! the world: the text's defs, names and table -/
def FnAt (h : Heap) (a : Addr) : Stmt → Prop
  | .FunctionDef name args body _ _ _ scope _ _ _ =>
    ∃ o pm cd doc, h.get? a = some o ∧ o.data = .func (docDef name args body scope pm cd doc) ∧ h.CodeRec cd name
  | _ => False
theorem FnAt.keeps {h h' : Heap} {a : Addr} (k : Kp h h') : ∀ {st : Stmt}, FnAt h a st → FnAt h' a st := by
  intro st x
  cases st <;> first | exact x.elim | (obtain ⟨o, pm, cd, doc, h1, h2, h3⟩ := x; exact ⟨o, pm, cd, doc, k _ _ h1, h2, h3.keeps k⟩)

def oneS : Str := "( ) [ ] : , ; + - * / | & < > = . % { } == != <= >= ~ ^ << >> ** "
def twoS : Str := "+= -= *= /= %= &= |= ^= <<= >>= **= // //= @ @= -> ... := !"
/-- the row of operators -/
def rowL : List Str := (["(", ")", "[", "]", ":", ",", ";", "+", "-", "*", "/", "|", "&", "<", ">", "=", ".", "%", "{", "}", "==", "!=", "<=", ">=", "~", "^", "<<", ">>", "**",
  "+=", "-=", "*=", "/=", "%=", "&=", "|=", "^=", "<<=", ">>=", "**=", "//", "//=", "@", "@=", "->", "...", ":=", "!"] : List String).map Str.ofString
theorem rowL_length : rowL.length = 48 := rfl
/-- an operator's number -/
def num (x : Str) : Int := 7 + (rowL.idxOf x : Nat)

structure Wd (prog : Program) (w : World) (mg mb : Str → Option Value) (h : Heap) : Prop where
  g : h.Ns mainGlobals mg
  b : h.Ns builtinsNs mb
  nolimit : h.NoLimit
  len : mg "len" = none ∧ mb "len" = some (.builtin "len")
  range : mg "range" = none ∧ mb "range" = some (.type "range")
  min : mg "min" = none ∧ mb "min" = some (.builtin "min")
  heappush : ∃ a, mg "heappush" = some (.ref a) ∧ FnAt h a (stm 1)
  heappop : ∃ a, mg "heappop" = some (.ref a) ∧ FnAt h a (stm 2)
  siftdown : ∃ a, mg "_siftdown" = some (.ref a) ∧ FnAt h a (stm 3)
  siftup : ∃ a, mg "_siftup" = some (.ref a) ∧ FnAt h a (stm 4)
  row : ∃ a, mg "_law_row" = some (.ref a) ∧ FnAt h a (stm 55)
  picks : ∃ a, mg "_law_picks" = some (.ref a) ∧ FnAt h a (stm 56)
  ready : ∃ a, mg "_law_ready" = some (.ref a) ∧ FnAt h a (stm 57)
  byHeap : ∃ a, mg "_law_by_heap" = some (.ref a) ∧ FnAt h a (stm 58)
  orders : ∃ a, mg "_law_orders" = some (.ref a) ∧ FnAt h a (stm 59)
  tok : ∃ a f, mg "EXACT_TOKEN_TYPES" = some (.ref a) ∧ h.MapOf (strKind prog w) a f ∧ ∀ x ∈ rowL, ∃ t, f x = some (.int (num x) t)

section
variable {prog : Program} {w : World} {mg mb : Str → Option Value} {h h' : Heap}
theorem Wd.keeps (W : Wd prog w mg mb h) (k : Kp h h') : Wd prog w mg mb h' where
  g := W.g.keeps k
  b := W.b.keeps k
  nolimit := W.nolimit.keeps k
  len := W.len
  range := W.range
  min := W.min
  heappush := let ⟨a, x, y⟩ := W.heappush; ⟨a, x, y.keeps k⟩
  heappop := let ⟨a, x, y⟩ := W.heappop; ⟨a, x, y.keeps k⟩
  siftdown := let ⟨a, x, y⟩ := W.siftdown; ⟨a, x, y.keeps k⟩
  siftup := let ⟨a, x, y⟩ := W.siftup; ⟨a, x, y.keeps k⟩
  row := let ⟨a, x, y⟩ := W.row; ⟨a, x, y.keeps k⟩
  picks := let ⟨a, x, y⟩ := W.picks; ⟨a, x, y.keeps k⟩
  ready := let ⟨a, x, y⟩ := W.ready; ⟨a, x, y.keeps k⟩
  byHeap := let ⟨a, x, y⟩ := W.byHeap; ⟨a, x, y.keeps k⟩
  orders := let ⟨a, x, y⟩ := W.orders; ⟨a, x, y.keeps k⟩
  tok := let ⟨a, f, x, ⟨o, es, ep, ho, r⟩, z⟩ := W.tok; ⟨a, f, x, ⟨o, es, ep, k _ _ ho, r⟩, z⟩
end

section
variable {prog : Program} {w : World} {M : Model} {A : Around} {E : Value → Shared → Prop} {s₀ s : Shared} {h₀ : Heap} {env : Env} {m cm mg mb : Str → Option Value} {news : List (Addr × Obj)} {x : Str} {v : Value} {pos : Pos}

/-- a global name -/
theorem nmG {Q : Value → Shared → Prop} (W : Wd prog w mg mb s.heap) (hv : mg x = some v) (h : Q v s) (hg : env.globals = mainGlobals := by rfl) (hl : env.kindOf x = some .globalImplicit := by rfl) (hk : env.scope.kind = .function := by rfl)
    (hd : (x == ("__debug__" : Str)) = false := by decide) : wpAny M A (eval (.Name x pos) env) Q E s :=
  Name_function_global hk hl (loadGlobal_global (hg ▸ W.g) hv h) hd
/-- a built-in name -/
theorem nmB {Q : Value → Shared → Prop} (W : Wd prog w mg mb s.heap) (hv : mg x = none ∧ mb x = some v) (h : Q v s) (hg : env.globals = mainGlobals := by rfl) (hb : env.builtins = builtinsNs := by rfl) (hl : env.kindOf x = some .globalImplicit := by rfl)
    (hk : env.scope.kind = .function := by rfl) (hd : (x == ("__debug__" : Str)) = false := by decide) : wpAny M A (eval (.Name x pos) env) Q E s :=
  Name_function_global hk hl (loadGlobal_builtin (hg ▸ W.g) hv.1 (hb ▸ W.b) hv.2 h) hd
end

theorem look_of_nodup : ∀ {cs : List (Str × Addr)} {p : Str × Addr}, (cs.map (·.1)).Nodup → p ∈ cs → cs.lookup p.1 = some p.2
  | [], _, _, hp => nomatch hp
  | q :: r, p, hn, hp => by
    rw [List.map_cons, List.nodup_cons] at hn
    rw [List.lookup_cons]
    rcases List.mem_cons.mp hp with rfl | hp
    · simp
    · have : (p.1 == q.1) = false := by
        rw [beq_eq_false_iff_ne]
        intro e
        exact hn.1 (e ▸ List.mem_map_of_mem (f := fun p : Str × Addr => p.1) hp)
      rw [this]; exact look_of_nodup hn.2 hp

abbrev envC (name : Str) (scope : Scope) (cd : Value) (L a : Addr) : Env := newEnv scope L mainGlobals (cellsFrom (L + 1) scope.names []) (name ++ ".<locals>.") (some a) cd none builtinsNs

section
variable {prog : Program} {w : World} {A : Around} {E : Value → Shared → Prop} {s : Shared} {k : Nat}

theorem enter {name : Str} {args : Arguments} {body : List Stmt} {scope : Scope} {pm cd doc : Value} {a : Addr} {o : Obj} {vals : List Value} {binds : List (Str × Value)} {Q : Value → Shared → Prop}
    (hA : Ar (k + 1) A) (ho : s.heap.get? a = some o) (hd : o.data = .func (docDef name args body scope pm cd doc)) (hcd : s.heap.CodeRec cd name) (hlim : s.heap.NoLimit)
    (hbind : bindArgs (docDef name args body scope pm cd doc) ⟨vals, []⟩ = pure binds)
    (hkind : (binds.all fun y => scope.names.lookup y.1 == some .local || scope.names.lookup y.1 == some .cell) = true)
    (hnd : ((cellsFrom 0 scope.names []).map (·.1)).Nodup)
    (h : ∀ A' L s₁, Ar k A' → Fm s s.heap (envC name scope cd L a) (bindL (envC name scope cd L a).kindOf binds fun _ => none) (bindC (envC name scope cd L a).kindOf binds fun _ => none) [] s₁ →
      wpAny (model prog w) A' (execs body (envC name scope cd L a)) (fun f s' => Q (match f with | .ret v => v | _ => .none) s') (fun _ _ => False) s₁)
    (hco : scope.isCoroutine = false := by rfl) (hgen : scope.isGenerator = false := by rfl) (hk : scope.kind = .function := by rfl) :
    wpAny (model prog w) A (call (.ref a) vals) Q E s := by
  refine wpAny_call (codeAny_call_cells (binds := binds) (body := body) hA.room ho hd hlim hcd rfl hbind rfl (kindsX hkind _) (fun s₁ x => ?_) hco hgen hk)
  refine wpAny_mono (h _ s.heap.objs.size s₁ hA.deeper ⟨x.toInCall.same, x.toInCall.ns, x.toInCall.keep, Heap.get?_none_of_le x.toInCall.fresh, x.cell, x.apart, fun p hp => ⟨Nat.ne_of_gt (x.above p.1 p.2 hp), Heap.get?_none_of_le (Nat.le_of_lt (Nat.lt_of_le_of_lt x.toInCall.fresh (x.above p.1 p.2 hp)))⟩, ?_, (by intro p hp; cases hp), List.nodup_nil⟩) (fun f s' q => q) fun _ _ e => e.elim
  intro p hp
  have hn : ((callEnvC (docDef name args body scope pm cd doc) s.heap.objs.size a).cells.map (·.1)).Nodup := by
    show ((cellsFrom (s.heap.objs.size + 1) scope.names []).map (·.1)).Nodup
    rw [cellsFrom_names scope.names (s.heap.objs.size + 1) 0 [] [] rfl]; exact hnd
  exact look_of_nodup hn hp
end
end Mine
end

section
open PySem PySem.W PySem.Calls PyProof.Rows
namespace Mine

section
variable {prog : Program} {w : World} {M : Model} {A : Around} {E : Value → Shared → Prop} {s₀ s : Shared} {h₀ : Heap} {env : Env} {m cm mg mb : Str → Option Value} {news : List (Addr × Obj)} {x : Str} {v : Value} {pos : Pos}

/-- a def of the text is called -/
theorem callFn {f : Str} {p : Pos} {e : Expr} {rest : List Expr} {a : Addr} {o : Obj} {fd : FuncData} {Q : Value → Shared → Prop} (W : Wd prog w mg mb s.heap) (hv : mg f = some (.ref a)) (hfd : o.data = .func fd)
    (h : wpAny M A (spliced (backTo pos (starEach (e :: rest) env))) (fun vs s₁ => s₁.heap.get? a = some o ∧ wpAny M A (call (.ref a) vs) Q E s₁) E s)
    (he : starEach (e :: rest) env = (false, eval e env) :: starEach rest env := by rfl)
    (hg : env.globals = mainGlobals := by rfl) (hl : env.kindOf f = some .globalImplicit := by rfl) (hk : env.scope.kind = .function := by rfl)
    (hd : (f == ("__debug__" : Str)) = false := by decide) : wpAny M A (eval (.Call (.Name f p) (e :: rest) [] pos) env) Q E s := by
  refine wpAny_Call_NameR (nmG W hv ?_ hg hl hk hd)
  rw [he] at h ⊢
  exact callWith_function (o := o) (fd := fd) (evalArgs_plain (wpAny_mono h (fun vs s₁ q => ⟨⟨q.1, hfd⟩, q.2⟩) fun _ _ x => x))

theorem callFn0 {f : Str} {p : Pos} {a : Addr} {o : Obj} {fd : FuncData} {Q : Value → Shared → Prop} (W : Wd prog w mg mb s.heap) (hv : mg f = some (.ref a)) (ho : s.heap.get? a = some o) (hfd : o.data = .func fd)
    (h : wpAny M A (call (.ref a) []) Q E s)
    (hg : env.globals = mainGlobals := by rfl) (hl : env.kindOf f = some .globalImplicit := by rfl) (hk : env.scope.kind = .function := by rfl)
    (hd : (f == ("__debug__" : Str)) = false := by decide) : wpAny M A (eval (.Call (.Name f p) [] [] pos) env) Q E s := by
  refine wpAny_Call_NameR (nmG W hv ?_ hg hl hk hd)
  exact callWith_function (o := o) (fd := fd) (PySem.evalArgs_none ⟨⟨ho, hfd⟩, h⟩)

/-- a built-in function is called -/
theorem callBf {f : Str} {id : String} {p : Pos} {e : Expr} {rest : List Expr} {Q : Value → Shared → Prop} (W : Wd prog w mg mb s.heap) (hv : mg f = none ∧ mb f = some (.builtin id))
    (h : wpAny M A (spliced (backTo pos (starEach (e :: rest) env))) (fun vs s₁ => wpAny M A (call (.builtin id) vs) Q E s₁) E s)
    (he : starEach (e :: rest) env = (false, eval e env) :: starEach rest env := by rfl) (hpl : (backTo pos (starEach rest env)).any (·.1) = false := by rfl)
    (hg : env.globals = mainGlobals := by rfl) (hb : env.builtins = builtinsNs := by rfl) (hl : env.kindOf f = some .globalImplicit := by rfl) (hk : env.scope.kind = .function := by rfl)
    (hd : (f == ("__debug__" : Str)) = false := by decide) : wpAny M A (eval (.Call (.Name f p) (e :: rest) [] pos) env) Q E s :=
  wpAny_Call_NameR (nmB W hv (PyProof.Rows.callWith_builtin1 h he hpl) hg hb hl hk hd)

/-- a type of the built-ins is called -/
theorem callTy {f : Str} {T : String} {p : Pos} {e : Expr} {rest : List Expr} {Q : Value → Shared → Prop} (W : Wd prog w mg mb s.heap) (hv : mg f = none ∧ mb f = some (.type T))
    (h : wpAny M A (spliced (backTo pos (starEach (e :: rest) env))) (fun vs s₁ => wpAny M A (call (.type T) vs) Q E s₁) E s)
    (he : starEach (e :: rest) env = (false, eval e env) :: starEach rest env := by rfl) (hpl : (backTo pos (starEach rest env)).any (·.1) = false := by rfl)
    (hg : env.globals = mainGlobals := by rfl) (hb : env.builtins = builtinsNs := by rfl) (hl : env.kindOf f = some .globalImplicit := by rfl) (hk : env.scope.kind = .function := by rfl)
    (hd : (f == ("__debug__" : Str)) = false := by decide) : wpAny M A (eval (.Call (.Name f p) (e :: rest) [] pos) env) Q E s :=
  wpAny_Call_NameR (nmB W hv (PyProof.Rows.callWith_type1 h he hpl) hg hb hl hk hd)
end

/-- a call's end, said of the state it began in -/
theorem Fm.done {s₀ s : Shared} {h₀ : Heap} {env : Env} {m cm : Str → Option Value} {nw : List (Addr × Obj)} {Q : Value → Shared → Prop} {v : Value} (F : Fm s₀ h₀ env m cm nw s) (h : Q v { s₀ with heap := s.heap, toks := s.toks }) : Q v s := by
  obtain ⟨h', tk, rfl⟩ := F.same; exact h

/-- one that is told is forgotten -/
theorem Fm.lose {s₀ s : Shared} {h₀ h' : Heap} {env : Env} {m cm : Str → Option Value} {nw : List (Addr × Obj)} {a : Addr} {o : Obj} {tk : Nat} (F : Fm s₀ h₀ env m cm ((a, o) :: nw) s) (k : Kb a s.heap h') :
    Fm s₀ h₀ env m cm nw { s with heap := h', toks := tk } := by
  have A := F.nws (a, o) (.head _)
  have ne : ∀ p ∈ nw, p.1 ≠ a := fun p hp e => (List.nodup_cons.mp F.nd).1 (by have q := List.mem_map_of_mem (f := fun p : Addr × Obj => p.1) hp; rw [e] at q; exact q)
  refine ⟨F.same' _ _, F.ns.at' fun o e => k _ o (fun q => A.2.1 q.symm) e, fun b x e => k b x (fun q => ?_) (F.keep b x e), F.fresh, fun n c e => ?_, F.apart, F.cfresh, F.look, fun p hp => ?_, (List.nodup_cons.mp F.nd).2⟩
  · have := A.2.2.2; rw [← q, e] at this; cases this
  · obtain ⟨x, hx, hd⟩ := F.cell n c e
    exact ⟨x, k _ _ (fun q => A.2.2.1 _ (mem_of_lookup e) q.symm) hx, hd⟩
  · have P := F.nws p (.tail _ hp); exact ⟨k _ _ (ne p hp) P.1, P.2⟩

/-! the loops -/
section
variable {prog : Program} {w : World} {A : Around} {E : Value → Shared → Prop} {s₀ s : Shared} {h₀ : Heap} {env : Env} {m cm : Str → Option Value} {news : List (Addr × Obj)} {pos : Pos}

theorem whileFm {test : Expr} {body : List Stmt} {Q : Flow → Shared → Prop} (J : Nat → (Str → Option Value) → (Str → Option Value) → List (Addr × Obj) → Prop) (n : Nat) (F : Fm s₀ h₀ env m cm news s) (hj : J n m cm news)
    (turn : ∀ (E' : Value → Shared → Prop) n m cm nw s, J n m cm nw → Fm s₀ h₀ env m cm nw s →
      wpAny (model prog w) A (isTrue test env (eval test env)) (fun b s₂ =>
        if b then wpAny (model prog w) A (execs body env) (fun f s₃ => match f with
            | .next | .cont => ∃ n' m' cm' nw', Fm s₀ h₀ env m' cm' nw' s₃ ∧ n' < n ∧ J n' m' cm' nw'
            | .brk => Q .next s₃
            | .ret v => Q (.ret v) s₃) E' s₂
        else Q .next s₂) E' s) :
    wpAny (model prog w) A (exec (.While test body [] pos) env) Q E s := by
  refine wpAny_While (codeAny_whileLoop (fun n s => ∃ m cm nw, J n m cm nw ∧ Fm s₀ h₀ env m cm nw s) (fun n s hI => ?_) n ⟨m, cm, news, hj, F⟩)
  obtain ⟨m, cm, nw, hj, F⟩ := hI
  refine wpAny_mono (turn _ n m cm nw s hj F) (fun b s₂ h₂ => ?_) fun _ _ e => e
  cases b with
  | false => exact wpAny_execs_nil h₂
  | true =>
    refine wpAny_mono h₂ (fun f s₃ h₃ => ?_) fun _ _ e => e
    cases f with
    | next => obtain ⟨n', m', cm', nw', c, a, b⟩ := h₃; exact ⟨n', a, m', cm', nw', b, c⟩
    | cont => obtain ⟨n', m', cm', nw', c, a, b⟩ := h₃; exact ⟨n', a, m', cm', nw', b, c⟩
    | brk => exact h₃
    | ret v => exact h₃

/-- a list's iterator at its place -/
def ItAt (o : Obj) (l : Addr) (i : Nat) : Prop := o.cls = .type "list_iterator" ∧ o.data = .fields #[.ref l, .int i 0]

/-- what a for asks of the list that it goes over -/
def ForOk (prog : Program) (w : World) (A : Around) (s₀ : Shared) (h₀ : Heap) (env : Env) (um uc : Value → (Str → Option Value) → (Str → Option Value)) (body : List Stmt) (Q : Flow → Shared → Prop) (v : Value) (s₁ : Shared) : Prop :=
  ∃ (l : Addr) (items : Array Value) (J : Nat → (Str → Option Value) → (Str → Option Value) → List (Addr × Obj) → Prop), v = .ref l ∧ s₁.heap.IsList l items ∧ (∃ m cm news, Fm s₀ h₀ env m cm news s₁ ∧ J 0 m cm news) ∧
    (∀ i m cm nw s, J i m cm nw → Fm s₀ h₀ env m cm nw s → s.heap.IsList l items) ∧
    (∀ (E' : Value → Shared → Prop) i v m cm nw s I o, items[i]? = some v → J i m cm nw → Fm s₀ h₀ env (um v m) (uc v cm) ((I, o) :: nw) s →
      wpAny (model prog w) A (execs body env) (fun f s₃ => match f with
            | .next | .cont => ∃ m' cm' nw', Fm s₀ h₀ env m' cm' ((I, o) :: nw') s₃ ∧ J (i + 1) m' cm' nw'
            | .brk => Q .next s₃
            | .ret v => Q (.ret v) s₃) E' s) ∧
    (∀ m cm nw s, J items.size m cm nw → Fm s₀ h₀ env m cm nw s → Q .next s)

theorem ForOk.intro {um uc : Value → (Str → Option Value) → (Str → Option Value)} {body : List Stmt} {Q : Flow → Shared → Prop} {l : Addr} {items : Array Value} (J : Nat → (Str → Option Value) → (Str → Option Value) → List (Addr × Obj) → Prop)
    (F : Fm s₀ h₀ env m cm news s) (hl : s.heap.IsList l items) (hj : J 0 m cm news)
    (hstay : ∀ i m cm nw s, J i m cm nw → Fm s₀ h₀ env m cm nw s → s.heap.IsList l items)
    (turn : ∀ (E' : Value → Shared → Prop) i v m cm nw s I o, items[i]? = some v → J i m cm nw → Fm s₀ h₀ env (um v m) (uc v cm) ((I, o) :: nw) s →
      wpAny (model prog w) A (execs body env) (fun f s₃ => match f with
            | .next | .cont => ∃ m' cm' nw', Fm s₀ h₀ env m' cm' ((I, o) :: nw') s₃ ∧ J (i + 1) m' cm' nw'
            | .brk => Q .next s₃
            | .ret v => Q (.ret v) s₃) E' s)
    (done : ∀ m cm nw s, J items.size m cm nw → Fm s₀ h₀ env m cm nw s → Q .next s) : ForOk prog w A s₀ h₀ env um uc body Q (.ref l) s :=
  ⟨l, items, J, rfl, hl, ⟨m, cm, news, F, hj⟩, hstay, turn, done⟩

theorem forFm {x : Str} {px : Pos} {iter : Expr} {body : List Stmt} {Q : Flow → Shared → Prop} {um uc : Value → (Str → Option Value) → (Str → Option Value)} (hh : A.handled = none)
    (hstore : ∀ (E' : Value → Shared → Prop) (Q' : Unit → Shared → Prop) v m cm nw s, Fm s₀ h₀ env m cm nw s → (∀ s', Fm s₀ h₀ env (um v m) (uc v cm) nw s' → Q' () s') → wpAny (model prog w) A (storeName env x v) Q' E' s)
    (hit : wpAny (model prog w) A (eval iter env) (ForOk prog w A s₀ h₀ env um uc body Q) E s)
    (hs : ∀ x, foldedSetIterable iter env x = pure x := by intro _; rfl) :
    wpAny (model prog w) A (exec (.For (.Name x px) iter body [] pos) env) Q E s := by
  refine wpAny_For (wpAny_mono hit (fun v s₁ h₁ => ?_) fun _ _ e => e) hs
  obtain ⟨l, items, J, rfl, hl, ⟨m, cm, news, F, hj⟩, hstay, turn, done⟩ := h₁
  refine wpAny_pyIter_list hl ?_
  let I := s₁.heap.objs.size
  have F1 := F.push (tk := s₁.toks) { cls := .type "list_iterator", data := .fields #[.ref l, .int 0 0] }
  refine codeAny_forLoop (fun n s => ∃ i m cm nw o, n = items.size - i ∧ i ≤ items.size ∧ J i m cm nw ∧ ItAt o l i ∧ Fm s₀ h₀ env m cm ((I, o) :: nw) s) (fun n s hI => ?_) (items.size - 0) ⟨0, m, cm, news, _, rfl, Nat.zero_le _, hj, ⟨rfl, rfl⟩, F1⟩
  obtain ⟨i, m, cm, nw, o, rfl, hle, hj, hio, F⟩ := hI
  have hls : s.heap.IsList l items := hstay i m cm nw s hj (F.drop (List.sublist_cons_self _ _))
  have hits : s.heap.IsListIter I l i := ⟨o, F.get (.head _), hio.1, hio.2⟩
  rcases Nat.lt_or_ge i items.size with hlt | hge
  · refine wpAny_pyNext_list_item hits hls (x := items[i]) (by simp [hlt]) fun h' hit' hsb => ?_
    obtain ⟨o', ho', hc', hd'⟩ := hit'
    have F2 : Fm s₀ h₀ env m cm ((I, o') :: nw) { s with heap := h' } := Fm.upd (pre := []) (tk := s.toks) F (fun b x hb e => hsb.extBut b x hb e) ho'
    refine wpAny_assign_Name (hstore _ _ _ _ _ _ _ F2 fun s' F3 => ?_)
    refine wpAny_mono (turn _ i items[i] m cm nw s' I o' (by simp [hlt]) hj F3) (fun f s₃ h₃ => ?_) fun _ _ e => e
    have go : (∃ m' cm' nw', Fm s₀ h₀ env m' cm' ((I, o') :: nw') s₃ ∧ J (i + 1) m' cm' nw') → ∃ k, k < items.size - i ∧ ∃ i m cm nw o, k = items.size - i ∧ i ≤ items.size ∧ J i m cm nw ∧ ItAt o l i ∧ Fm s₀ h₀ env m cm ((I, o) :: nw) s₃ := by
      rintro ⟨m', cm', nw', F', hj'⟩
      exact ⟨items.size - (i + 1), by omega, i + 1, m', cm', nw', o', rfl, hlt, hj', ⟨hc', hd'⟩, F'⟩
    cases f with
    | next => exact go h₃
    | cont => exact go h₃
    | brk => exact h₃
    | ret v => exact h₃
  · refine wpAny_pyNext_list_end hh hits hls (by simp [hge]) fun h' hext => ?_
    have hi : i = items.size := Nat.le_antisymm hle hge
    subst hi
    refine wpAny_execs_nil (done m cm nw _ hj ?_)
    exact F.lose (tk := s.toks) fun b x hb e => hext b x hb e
end
abbrev upM (x : Str) : Value → (Str → Option Value) → (Str → Option Value) := fun v m y => if y = x then some v else m y
abbrev noM : Value → (Str → Option Value) → (Str → Option Value) := fun _ m => m
theorem storeL {prog : Program} {w : World} {A : Around} {s₀ : Shared} {h₀ : Heap} {env : Env} {x : Str} (hl : env.kindOf x = some .local := by rfl) (hk : env.scope.kind = .function := by rfl) :
    ∀ (E' : Value → Shared → Prop) (Q' : Unit → Shared → Prop) v m cm nw s, Fm s₀ h₀ env m cm nw s → (∀ s', Fm s₀ h₀ env (upM x v m) (noM v cm) nw s' → Q' () s') → wpAny (model prog w) A (storeName env x v) Q' E' s :=
  fun _ _ _ _ _ _ _ F h => stL F (fun s' F' _ => h s' F') hl hk
theorem storeC {prog : Program} {w : World} {A : Around} {s₀ : Shared} {h₀ : Heap} {env : Env} {x : Str} {c : Addr} (hc : env.cells.lookup x = some c) (hl : env.kindOf x = some .cell := by rfl) (hk : env.scope.kind = .function := by rfl) :
    ∀ (E' : Value → Shared → Prop) (Q' : Unit → Shared → Prop) v m cm nw s, Fm s₀ h₀ env m cm nw s → (∀ s', Fm s₀ h₀ env (noM v m) (upM x v cm) nw s' → Q' () s') → wpAny (model prog w) A (storeName env x v) Q' E' s :=
  fun _ _ _ _ _ _ _ F h => stC F hc (fun s' F' _ => h s' F') hl hk

abbrev tupO (k : Int) (t : Tok) (x : Str) (u : Tok) : Obj := { cls := .type "tuple", data := .seq #[.int k t, .str x u] }

section
variable {prog : Program} {w : World} {A : Around} {E : Value → Shared → Prop} {s : Shared}
theorem ltTup {a b : Addr} {k k' : Int} {t u t' u' : Tok} {x x' : Str} {Q : Value → Shared → Prop} (hu : A.units < cLine) (ha : s.heap.get? a = some (tupO k t x u)) (hb : s.heap.get? b = some (tupO k' t' x' u')) (hne : k ≠ k')
    (h : Q (.bool (decide (k < k'))) s) : wpAny (model prog w) A (compareOp .Lt (.ref a) (.ref b)) Q E s := by
  show wpAny _ _ (richCompare .Lt (.ref a) (.ref b)) Q E s
  refine wpAny_richCompare_same_room (op := .Lt) (T := "tuple") ⟨_, ha, rfl⟩ ⟨_, hb, rfl⟩ F.slot_tuple_lt (wpAny_call_entry F.slot_tuple_lt ⟨_, ha, rfl⟩ F.entry_tuple_lt ?_ (F.args_tuple_lt_2 _ _)) hu
  unfold Builtin.«tuple.__lt__»
  show wpAny _ _ (slotArgs "__lt__" 1 ⟨[.ref a, .ref b], []⟩ >>= _) _ _ s
  refine wpAny_bind (wpAny_of_eq (show slotArgs "__lt__" 1 ⟨[.ref a, .ref b], []⟩ = pure (.ref a, [.ref b]) from rfl) ?_)
  refine wpAny_bind (wpAny_isInstance (T := "tuple") (b := true) ⟨_, hb, rfl⟩ AutoSeq1.sub_tuple_tuple ?_)
  show wpAny _ _ (Builtin.Tuple.tupleItemsOf (.ref a) >>= _) _ _ s
  refine wpAny_bind (wpAny_tupleItemsOf ha rfl (wpAny_bind (wpAny_tupleItemsOf hb rfl ?_)))
  refine wpAny_bind ?_
  show wpAny _ _ (forIn ((Value.int k t, Value.int k' t') :: [(Value.str x u, Value.str x' u')]) _ _) _ _ s
  rw [List.forIn_cons]
  refine wpAny_bind (wpAny_bind (wpAny_eqBool_int ?_))
  rw [show (k == k') = false from beq_eq_false_iff_ne.mpr hne]
  simp only [Bool.not_false, if_true]
  refine wpAny_bind (wpAny_rule (wpAny_bind ?_))
  refine lt_int (wpAny_bind (wpAny_pure (wpAny_pure (wpAny_pure ?_))))
  exact wpAny_pure ⟨_, rfl, by simp, h⟩
end

section
variable {s₀ s : Shared} {h₀ : Heap} {env : Env} {m cm : Str → Option Value} {a : Addr} {o : Obj}
/-- one of the base's objects is laid among those that may be changed -/
theorem Fm.hide (F : Fm s₀ h₀ env m cm [] s) (ho : h₀.get? a = some o) : Fm s₀ (h₀.hide a) env m cm [(a, o)] s := by
  have nn : ∀ b, h₀.get? b = none → (h₀.hide a).get? b = none := fun b e => by
    cases q : (h₀.hide a).get? b with
    | none => rfl
    | some x => rw [Heap.of_hide q] at e; cases e
  refine ⟨F.same, F.ns, fun b x e => F.keep b x (Heap.of_hide e), nn _ F.fresh, F.cell, F.apart, fun p hp => ⟨(F.cfresh p hp).1, nn _ (F.cfresh p hp).2⟩, F.look, fun p hp => ?_, by simp⟩
  rw [List.mem_singleton.mp hp]
  refine ⟨F.keep _ _ ho, fun e => ?_, fun q hq e => ?_, Heap.hide_self _ _⟩
  · have := F.fresh; rw [← e, ho] at this; cases this
  · have := (F.cfresh q hq).2; rw [← e, ho] at this; cases this
theorem kp_hide {h h' : Heap} (k : Kp h h') (ha : h.get? a = none) : Kp h (h'.hide a) := fun b x e => by
  rw [Heap.hide_ne _ (fun q => by rw [q, ha] at e; cases e)]; exact k b x e
theorem kb_of_hide {h h' : Heap} (k : Kp (h.hide a) h') : Kb a h h' := fun b x hb e => k b x (by rw [Heap.hide_ne _ hb]; exact e)
end

/-! lists of the call's own -/
section
variable {prog : Program} {w : World} {A : Around} {E : Value → Shared → Prop} {s₀ s : Shared} {h₀ : Heap} {env : Env} {m cm mg mb : Str → Option Value} {news pre post : List (Addr × Obj)} {a : Addr} {vs : List Value} {n : Nat} {v : Value}

theorem isList_of {h : Heap} (e : h.get? a = some (listOf vs.toArray n)) : h.IsList a vs.toArray := ⟨_, e, rfl, n, rfl⟩

/-- an item of a list at an int -/
theorem subTail {value slice : Expr} {i : Nat} {t : Tok} {Q : Value → Shared → Prop} (hl : s.heap.IsList a vs.toArray) (hi : vs[i]? = some v) (hlen : vs.length < 2 ^ 62) (h : Q v s)
    (hs : subscripted slice false (.ref a) (.int i t) = operate [.ref a, .int i t] (getItem (.ref a) (.int i t)) := by with_unfolding_all rfl) :
    wpAny (model prog w) A (subscriptTail value slice (.ref a) (.int i t)) Q E s := by
  have hlt : i < vs.length := by
    rcases Nat.lt_or_ge i vs.length with q | q
    · exact q
    · rw [List.getElem?_eq_none q] at hi; cases hi
  exact tail_any hl.typeIs slot_list_getitem.lookup (wpAny_getItem_list hl (Int.natCast_nonneg _) (by omega) (by simpa using hi) h) hs

/-- an item of a list is stored -/
theorem setList {i : Nat} {t : Tok} {Q : Unit → Shared → Prop} (F : Fm s₀ h₀ env m cm (pre ++ (a, listOf vs.toArray n) :: post) s) (hi : i < vs.length) (hlen : vs.length < 2 ^ 62)
    (h : ∀ s', Fm s₀ h₀ env m cm (pre ++ (a, listOf (vs.set i v).toArray n) :: post) s' → Q () s') : wpAny (model prog w) A (setItem (.ref a) (.int i t) v) Q E s := by
  have ho := F.get (List.mem_append_right _ (.head _))
  refine ki_setAt ho (Int.natCast_nonneg _) (by omega) (by simpa using hi) (h _ (F.upd (tk := s.toks) (fun b x hb e => (Heap.SameBut.update ..).extBut b x hb e) ?_))
  have q := PySem.IsL.update (f := (·.setIfInBounds ((i : Int)).toNat v)) (show PySem.IsL s.heap a vs.toArray n from ho)
  have e1 : vs.toArray.setIfInBounds ((i : Int)).toNat v = (vs.set i v).toArray := by simp
  rw [e1] at q
  have e2 : (if ((vs.set i v).toArray.size == vs.toArray.size) = true then n else n + 1) = n := by simp
  rw [e2] at q
  exact q
end
end Mine
end

section
open PySem PySem.W PySem.Calls PyProof.Rows
namespace Mine

/-- a tuple of an int and a text, as a value -/
def TpV (h : Heap) (v : Value) (k : Int) : Prop := ∃ a t x u, v = .ref a ∧ h.get? a = some (tupO k t x u)
theorem TpV.keeps {h h' : Heap} {v : Value} {k : Int} (x : TpV h v k) (kp : Kp h h') : TpV h' v k := let ⟨a, t, y, u, e, g⟩ := x; ⟨a, t, y, u, e, kp _ _ g⟩

theorem ltV {prog : Program} {w : World} {A : Around} {E : Value → Shared → Prop} {s : Shared} {v v' : Value} {k k' : Int} {Q : Value → Shared → Prop} (hu : A.units < cLine) (hv : TpV s.heap v k) (hv' : TpV s.heap v' k') (hne : k ≠ k')
    (h : Q (.bool (decide (k < k'))) s) : wpAny (model prog w) A (compareOp .Lt v v') Q E s := by
  obtain ⟨a, t, x, u, rfl, g⟩ := hv
  obtain ⟨a', t', x', u', rfl, g'⟩ := hv'
  exact ltTup hu g g' hne h

/-- what _siftdown makes (from 0): the hole at pos, newitem nw -/
def sd (key : Value → Int) (nw : Value) (pos : Nat) (l : List Value) : List Value :=
  if 0 < pos then
    if key nw < key (l.getD ((pos - 1) / 2) .none) then sd key nw ((pos - 1) / 2) (l.set pos (l.getD ((pos - 1) / 2) .none)) else l.set pos nw
  else l.set pos nw
termination_by pos
decreasing_by omega

section
variable {prog : Program} {w : World} {A : Around} {E : Value → Shared → Prop} {s : Shared} {h₀ : Heap} {mg mb : Str → Option Value} {a : Addr} {vs : List Value} {n p : Nat} {key : Value → Int}

theorem getD_of {l : List Value} {i : Nat} (h : i < l.length) : l[i]? = some (l.getD i .none) := by
  rw [List.getD_eq_getElem?_getD, List.getElem?_eq_getElem h]; rfl
theorem mem_getD {l : List Value} {i : Nat} (h : i < l.length) : l.getD i .none ∈ l := List.mem_of_getElem? (getD_of h)

theorem siftdown_spec {f : Addr} {t0 tp : Tok} {Q : Value → Shared → Prop} (hA : Ar 3 A) (W : Wd prog w mg mb h₀) (hk : Kp h₀ s.heap) (ha : h₀.get? a = none) (ho : s.heap.get? a = some (listOf vs.toArray n))
    (htp : ∀ v ∈ vs, TpV h₀ v (key v)) (hp : p < vs.length) (hlen : vs.length ≤ 1000) (hdist : ∀ j, j < vs.length → j ≠ p → key (vs.getD j .none) ≠ key (vs.getD p .none)) (hf : mg "_siftdown" = some (.ref f))
    (hQ : ∀ h' tk n', Kb a s.heap h' → h'.get? a = some (listOf (sd key (vs.getD p .none) p vs).toArray n') → Q .none { s with heap := h', toks := tk }) :
    wpAny (model prog w) A (call (.ref f) [.ref a, .int 0 t0, .int p tp]) Q E s := by
  obtain ⟨f', hf', fn⟩ := W.siftdown
  rw [hf] at hf'
  obtain rfl : f = f' := by injection hf' with q; injection q
  obtain ⟨o, pm, cd, doc, hof, hdf, hcd⟩ := fn
  refine enter hA (hk _ _ hof) hdf (hcd.keeps hk) (W.nolimit.keeps hk) rfl rfl (by decide) fun A1 L s₁ hA1 F0 => ?_
  clear hdf hof
  have F := F0.hide ho
  clear F0
  obtain ⟨m, cm, ⟨m1, m2, m3⟩, F⟩ : ∃ m cm, (m (Str.ofString "heap") = some (.ref a) ∧ m (Str.ofString "startpos") = some (.int 0 t0) ∧ m (Str.ofString "pos") = some (.int p tp)) ∧ Fm s (s.heap.hide a) _ m cm _ s₁ :=
    ⟨_, _, ⟨rfl, rfl, rfl⟩, F⟩
  have hNt := htp _ (mem_getD hp)
  generalize hN : vs.getD p .none = N at *
  -- newitem = heap[pos]
  refine wpAny_execs_cons (wpAny_Assign_Name (Subscript_ (nmL F m1 (nmL F m3 (subTail (isList_of (F.get (.head _))) (getD_of hp) (by omega) ?_)))))
  rw [hN]
  refine stL F fun s₂ F _ => ?_
  -- the while
  let J : Nat → (Str → Option Value) → (Str → Option Value) → List (Addr × Obj) → Prop := fun k m _ nw => ∃ l e t, k < l.length ∧ m (Str.ofString "heap") = some (.ref a) ∧ m (Str.ofString "startpos") = some (.int 0 t0) ∧ m (Str.ofString "pos") = some (.int k t) ∧
    m (Str.ofString "newitem") = some N ∧ nw = [(a, listOf l.toArray e)] ∧ l.length = vs.length ∧ (∀ v ∈ l, TpV h₀ v (key v)) ∧ (∀ j, j < l.length → j ≠ k → key (l.getD j .none) ≠ key N) ∧ sd key N k l = sd key N p vs
  let P : Flow → Shared → Prop := fun fl s' => fl = .next ∧ ∃ (k : Nat) (l : List Value) (e : Nat) (t : Tok) (m cm : Str → Option Value), Fm s (s.heap.hide a) F.ev m cm [(a, listOf l.toArray e)] s' ∧ k < l.length ∧ l.length = vs.length ∧ m (Str.ofString "heap") = some (.ref a) ∧ m (Str.ofString "pos") = some (.int (k : Nat) t) ∧ m (Str.ofString "newitem") = some N ∧
    l.set k N = sd key N p vs
  refine wpAny_execs_cons (wpAny_mono (whileFm (Q := P) J p F ⟨vs, n, tp, hp, m1, m2, m3, rfl, rfl, rfl, htp, hdist, rfl⟩ ?_) ?_ fun _ _ x => x)
  · rintro E' k m cm nw s' ⟨l, e, t, hkl, m1, m2, m3, m4, rfl, hll, htl, hdl, hsd⟩ F
    refine wpAny_isTrue_Compare1 (nmL F m3 (nmL F m2 (gt_int (wpAny_truthy_bool ?_))))
    by_cases hk0 : 0 < k
    · rw [if_pos (by simpa using hk0)]
      have hpp : (k - 1) / 2 < l.length := by omega
      -- parentpos = pos - 1 >> 1
      refine wpAny_execs_cons (wpAny_Assign_Name (wpAny_BinOp (wpAny_BinOp (nmL F m3 (wpAny_Constant_int (sub_int (wpAny_Constant_int (wpAny_rshift1_int (by omega) ?_))))))))
      rw [show ((k : Int) - 1) / 2 = (((k - 1) / 2 : Nat) : Int) by omega]
      refine stL F.tok fun s1 F1 _ => ?_
      -- parent = heap[parentpos]
      refine wpAny_execs_cons (wpAny_Assign_Name (Subscript_ (nmL F1 m1 (nmL F1 rfl (subTail (isList_of (F1.get (.head _))) (getD_of hpp) (by omega) (stL F1 fun s2 F2 _ => ?_))))))
      have hkp : Kp h₀ s2.heap := (kp_hide hk ha).trans F2.keep
      have hne : key N ≠ key (l.getD ((k - 1) / 2) .none) := fun q => hdl _ hpp (by omega) q.symm
      -- if newitem < parent
      refine wpAny_execs_cons (wpAny_If (wpAny_isTrue_Compare1 (nmL F2 m4 (nmL F2 rfl (ltV hA1.units (hNt.keeps hkp) ((htl _ (mem_getD hpp)).keeps hkp) hne (wpAny_truthy_bool ?_))))))
      by_cases hlt : key N < key (l.getD ((k - 1) / 2) .none)
      · rw [if_pos (by simpa using hlt)]
        -- heap[pos] = parent; pos = parentpos; continue
        refine wpAny_execs_cons (wpAny_Assign_Subscript (nmL F2 rfl (nmL F2 m1 (nmL F2 m3 (setList (pre := []) F2 hkl (by omega) fun s3 F3 => ?_)))))
        refine wpAny_execs_cons (wpAny_Assign_Name (nmL F3 rfl (stL F3 fun s4 F4 _ => wpAny_execs_cons (wpAny_Continue ?_))))
        refine ⟨(k - 1) / 2, _, _, _, F4, by omega, ⟨l.set k (l.getD ((k - 1) / 2) .none), e, _, by simpa using hpp, m1, m2, rfl, m4, rfl, by simpa using hll, ?_, ?_, ?_⟩⟩
        · intro v hv
          rcases List.mem_or_eq_of_mem_set hv with q | q
          · exact htl v q
          · rw [q]; exact htl _ (mem_getD hpp)
        · intro j hj hjk
          rw [List.length_set] at hj
          by_cases hjk' : j = k
          · subst hjk'
            rw [List.getD_eq_getElem?_getD, List.getElem?_set_self hj]
            exact fun q => hne q.symm
          · rw [List.getD_eq_getElem?_getD, List.getElem?_set_ne (Ne.symm hjk'), ← List.getD_eq_getElem?_getD]
            exact hdl j hj hjk'
        · rw [← hsd, sd.eq_1 key N k l, if_pos hk0, if_pos hlt]
      · rw [if_neg (by simpa using hlt)]
        refine wpAny_execs_nil (wpAny_execs_cons (wpAny_Break ?_))
        refine ⟨rfl, k, l, e, t, _, _, F2, hkl, hll, m1, m3, m4, ?_⟩
        rw [← hsd, sd.eq_1 key N k l, if_pos hk0, if_neg hlt]
    · rw [if_neg (by simpa using hk0)]
      refine ⟨rfl, k, l, e, t, m, cm, F, hkl, hll, m1, m3, m4, ?_⟩
      rw [← hsd, sd.eq_1 key N k l, if_neg hk0]
  · rintro fl s' ⟨rfl, k, l, e, t, m, cm, F, hkl, hll, m1, m3, m4, he⟩
    refine wpAny_execs_cons (wpAny_Assign_Subscript (nmL F m4 (nmL F m1 (nmL F m3 (setList (pre := []) F hkl (by omega) fun s'' F => wpAny_execs_nil ?_)))))
    obtain ⟨h', tk, rfl⟩ := F.same
    rw [he] at F
    exact hQ h' tk e (kb_of_hide F.keep) (F.get (.head _))
end
end Mine
end

section
open PySem PySem.W PySem.Calls PyProof.Rows
namespace Mine

/-- the child that _siftup takes -/
def kid (key : Value → Int) (l : List Value) (pos : Nat) : Nat :=
  if 2 * pos + 2 < l.length ∧ ¬ key (l.getD (2 * pos + 1) .none) < key (l.getD (2 * pos + 2) .none) then 2 * pos + 2 else 2 * pos + 1
/-- what _siftup's loop makes: the list and the hole's place -/
def su (key : Value → Int) (l : List Value) (pos : Nat) : List Value × Nat :=
  if 2 * pos + 1 < l.length then su key (l.set pos (l.getD (kid key l pos) .none)) (kid key l pos) else (l, pos)
termination_by l.length - pos
decreasing_by
  have : pos < kid key l pos := by unfold kid; split <;> omega
  simp only [List.length_set]; omega

section
variable {prog : Program} {w : World} {A : Around} {E : Value → Shared → Prop} {s : Shared} {h₀ : Heap} {mg mb : Str → Option Value} {a : Addr} {vs : List Value} {n : Nat} {key : Value → Int}

theorem getD_set_ne {l : List Value} {i j : Nat} {v : Value} (h : i ≠ j) : (l.set i v).getD j .none = l.getD j .none := by
  rw [List.getD_eq_getElem?_getD, List.getElem?_set_ne h, ← List.getD_eq_getElem?_getD]
theorem getD_set_self {l : List Value} {i : Nat} {v : Value} (h : i < l.length) : (l.set i v).getD i .none = v := by
  rw [List.getD_eq_getElem?_getD, List.getElem?_set_self h]; rfl

theorem siftup_spec {f : Addr} {t0 : Tok} {Q : Value → Shared → Prop} (hA : Ar 5 A) (W : Wd prog w mg mb h₀) (hk : Kp h₀ s.heap) (ha : h₀.get? a = none) (ho : s.heap.get? a = some (listOf vs.toArray n))
    (htp : ∀ v ∈ vs, TpV h₀ v (key v)) (h1 : 0 < vs.length) (hlen : vs.length ≤ 1000) (hdist : ∀ i j, i < vs.length → j < vs.length → i ≠ j → key (vs.getD i .none) ≠ key (vs.getD j .none)) (hf : mg "_siftup" = some (.ref f))
    (hQ : ∀ h' tk n', Kb a s.heap h' → h'.get? a = some (listOf (sd key (vs.getD 0 .none) (su key vs 0).2 ((su key vs 0).1.set (su key vs 0).2 (vs.getD 0 .none))).toArray n') → Q .none { s with heap := h', toks := tk }) :
    wpAny (model prog w) A (call (.ref f) [.ref a, .int 0 t0]) Q E s := by
  obtain ⟨f', hf', fn⟩ := W.siftup
  rw [hf] at hf'
  obtain rfl : f = f' := by injection hf' with q; injection q
  obtain ⟨o, pm, cd, doc, hof, hdf, hcd⟩ := fn
  refine enter hA (hk _ _ hof) hdf (hcd.keeps hk) (W.nolimit.keeps hk) rfl rfl (by decide) fun A1 L s₁ hA1 F0 => ?_
  clear hdf hof
  have F := F0.hide ho
  clear F0
  have Wb : Wd prog w mg mb (s.heap.hide a) := W.keeps (kp_hide hk ha)
  obtain ⟨m, cm, ⟨m1, m2⟩, F⟩ : ∃ m cm, (m (Str.ofString "heap") = some (.ref a) ∧ m (Str.ofString "pos") = some (.int 0 t0)) ∧ Fm s (s.heap.hide a) _ m cm _ s₁ :=
    ⟨_, _, ⟨rfl, rfl⟩, F⟩
  have hNt := htp _ (mem_getD h1)
  generalize hN : vs.getD 0 .none = N at *
  -- endpos = len(heap)
  refine wpAny_execs_cons (wpAny_Assign_Name (callBf (Wb.keeps F.keep) W.len (wpAny_items_cons (nmL F m1 (wpAny_items_nil (call_len_list (isList_of (F.get (.head _))) (by simp; omega) (stL F.tok fun s2 F2 _ => ?_)))))))
  -- startpos = pos
  refine wpAny_execs_cons (wpAny_Assign_Name (nmL F2 m2 (stL F2 fun s3 F3 _ => ?_)))
  -- newitem = heap[pos]
  refine wpAny_execs_cons (wpAny_Assign_Name (Subscript_ (nmL F3 m1 (nmL F3 m2 (subTail (i := 0) (isList_of (F3.get (.head _))) (getD_of h1) (by omega) (stL F3 fun s4 F4 _ => ?_))))))
  rw [hN] at F4
  -- childpos = 2 * pos + 1
  refine wpAny_execs_cons (wpAny_Assign_Name (wpAny_BinOp (wpAny_BinOp (wpAny_Constant_int (nmL F4.tok m2 (mul_int (wpAny_Constant_int (add_int (stL F4.tok fun s5 F5 _ => ?_))) (IntMulOk.of_left (by decide))))))))
  -- the while
  let J : Nat → (Str → Option Value) → (Str → Option Value) → List (Addr × Obj) → Prop := fun k m _ nw => ∃ (l : List Value) (e pos : Nat) (tp tc te : Tok), k = l.length - pos ∧ pos < l.length ∧
    m (Str.ofString "heap") = some (.ref a) ∧ m (Str.ofString "endpos") = some (.int (vs.length : Nat) te) ∧ m (Str.ofString "pos") = some (.int (pos : Nat) tp) ∧ m (Str.ofString "childpos") = some (.int (2 * pos + 1 : Nat) tc) ∧
    m (Str.ofString "startpos") = some (.int 0 t0) ∧ m (Str.ofString "newitem") = some N ∧ nw = [(a, listOf l.toArray e)] ∧ l.length = vs.length ∧ (∀ v ∈ l, TpV h₀ v (key v)) ∧
    (∀ j, pos ≤ j → l.getD j .none = vs.getD j .none) ∧ (∀ j, j < l.length → j ≠ pos → ∃ i, 0 < i ∧ i < vs.length ∧ l.getD j .none = vs.getD i .none) ∧ su key l pos = su key vs 0
  let P : Flow → Shared → Prop := fun fl s' => fl = .next ∧ ∃ (k : Nat) (l : List Value) (e : Nat) (t : Tok) (m cm : Str → Option Value), Fm s (s.heap.hide a) F.ev m cm [(a, listOf l.toArray e)] s' ∧ k < l.length ∧ l.length = vs.length ∧
    m (Str.ofString "heap") = some (.ref a) ∧ m (Str.ofString "pos") = some (.int (k : Nat) t) ∧ m (Str.ofString "newitem") = some N ∧ m (Str.ofString "startpos") = some (.int 0 t0) ∧ (∀ v ∈ l, TpV h₀ v (key v)) ∧
    (∀ j, j < l.length → j ≠ k → ∃ i, 0 < i ∧ i < vs.length ∧ l.getD j .none = vs.getD i .none) ∧ su key vs 0 = (l, k)
  refine wpAny_execs_cons (wpAny_mono (whileFm (Q := P) J (vs.length - 0) F5 ⟨vs, n, 0, t0, _, _, rfl, h1, m1, rfl, m2, rfl, rfl, rfl, rfl, rfl, htp, fun _ _ => rfl, fun j hj hj0 => ⟨j, by omega, hj, rfl⟩, rfl⟩ ?_) ?_ fun _ _ x => x)
  · rintro E' k m cm nw s' ⟨l, e, pos, tp, tc, te, rfl, hpl, m1, m2, m3, m4, m5, m6, rfl, hll, htl, hge, hor, hsu⟩ F
    refine wpAny_isTrue_Compare1 (nmL F m4 (nmL F m2 (lt_int (wpAny_truthy_bool ?_))))
    by_cases hc : 2 * pos + 1 < l.length
    · rw [if_pos (by simp; omega)]
      -- rightpos = childpos + 1
      refine wpAny_execs_cons (wpAny_Assign_Name (wpAny_BinOp (nmL F m4 (wpAny_Constant_int (add_int (stL F.tok fun s1 F1 _ => ?_))))))
      have hkp : Kp h₀ s1.heap := (kp_hide hk ha).trans F1.keep
      -- the child
      let P1 : Flow → Shared → Prop := fun fl s' => fl = .next ∧ ∃ (m cm : Str → Option Value), Fm s (s.heap.hide a) F.ev m cm [(a, listOf l.toArray e)] s' ∧ (∃ t, m (Str.ofString "childpos") = some (.int (kid key l pos : Nat) t)) ∧
        m (Str.ofString "heap") = some (.ref a) ∧ m (Str.ofString "endpos") = some (.int (vs.length : Nat) te) ∧ m (Str.ofString "pos") = some (.int (pos : Nat) tp) ∧ m (Str.ofString "startpos") = some (.int 0 t0) ∧ m (Str.ofString "newitem") = some N
      refine wpAny_execs_cons (wpAny_mono (Q := P1) (wpAny_If (wpAny_isTrue_BoolOp (wpAny_allTrue_And_cons (wpAny_isTrue_Compare1 (nmL F1 rfl (nmL F1 m2 (lt_int (wpAny_truthy_bool ?_)))))))) ?_ fun _ _ x => x)
      · by_cases hr : 2 * pos + 2 < l.length
        · rw [if_pos (by simp; omega)]
          refine wpAny_allTrue_And_cons (wpAny_isTrue_Not (wpAny_isTrue_Compare1 (Subscript_ (nmL F1 m1 (nmL F1 m4 (subTail (isList_of (F1.get (.head _))) (getD_of hc) (by omega)
            (Subscript_ (nmL F1 m1 (nmL F1 rfl (subTail (i := 2 * pos + 2) (isList_of (F1.get (.head _))) (getD_of hr) (by omega) (ltV hA1.units ((htl _ (mem_getD hc)).keeps hkp) ((htl _ (mem_getD hr)).keeps hkp) ?_ (wpAny_truthy_bool ?_))))))))))))
          · rw [hge _ (by omega), hge _ (by omega)]
            exact hdist _ _ (by omega) (by omega) (by omega)
          · by_cases hlt : key (l.getD (2 * pos + 1) .none) < key (l.getD (2 * pos + 2) .none)
            · rw [if_neg (by simpa using hlt)]
              refine wpAny_execs_nil ⟨rfl, _, _, F1, ?_, m1, m2, m3, m5, m6⟩
              rw [show kid key l pos = 2 * pos + 1 by unfold kid; rw [if_neg (fun q => q.2 hlt)]]
              exact ⟨_, m4⟩
            · rw [if_pos (by simpa using hlt)]
              refine wpAny_allTrue_And_nil (wpAny_execs_cons (wpAny_Assign_Name (nmL F1 rfl (stL F1 fun s2 F2 _ => wpAny_execs_nil ⟨rfl, _, _, F2, ?_, m1, m2, m3, m5, m6⟩))))
              rw [show kid key l pos = 2 * pos + 2 by unfold kid; rw [if_pos ⟨hr, hlt⟩]]
              exact ⟨_, rfl⟩
        · rw [if_neg (by simp; omega)]
          refine wpAny_execs_nil ⟨rfl, _, _, F1, ?_, m1, m2, m3, m5, m6⟩
          rw [show kid key l pos = 2 * pos + 1 by unfold kid; rw [if_neg (fun q => hr q.1)]]
          exact ⟨_, m4⟩
      · rintro fl s2 ⟨rfl, m, cm, F, ⟨t, m4⟩, m1, m2, m3, m5, m6⟩
        have hkl : kid key l pos < l.length := by unfold kid; split <;> omega
        have hkg : pos < kid key l pos := by unfold kid; split <;> omega
        -- heap[pos] = heap[childpos]
        refine wpAny_execs_cons (wpAny_Assign_Subscript (Subscript_ (nmL F m1 (nmL F m4 (subTail (isList_of (F.get (.head _))) (getD_of hkl) (by omega) (nmL F m1 (nmL F m3 (setList (pre := []) F hpl (by omega) fun s3 F3 => ?_))))))))
        -- pos = childpos
        refine wpAny_execs_cons (wpAny_Assign_Name (nmL F3 m4 (stL F3 fun s4 F4 _ => ?_)))
        -- childpos = 2 * pos + 1
        refine wpAny_execs_cons (wpAny_Assign_Name (wpAny_BinOp (wpAny_BinOp (wpAny_Constant_int (nmL F4.tok rfl (mul_int (wpAny_Constant_int (add_int (stL F4.tok fun s5 F5 _ => ?_))) (IntMulOk.of_left (by decide))))))))
        refine wpAny_execs_nil ⟨_, _, _, _, F5, ?_, ⟨l.set pos (l.getD (kid key l pos) .none), e, kid key l pos, _, _, te, rfl, by simpa using hkl, m1, m2, rfl, rfl, m5, m6, rfl, by simpa using hll, ?_, ?_, ?_, ?_⟩⟩
        · simp only [List.length_set]; omega
        · intro v hv
          rcases List.mem_or_eq_of_mem_set hv with q | q
          · exact htl v q
          · rw [q]; exact htl _ (mem_getD hkl)
        · intro j hj
          rw [getD_set_ne (by omega)]; exact hge j (by omega)
        · intro j hj hjk
          rw [List.length_set] at hj
          by_cases hjp : j = pos
          · subst hjp
            rw [getD_set_self hj]
            exact ⟨kid key l j, by omega, by omega, hge _ (by omega)⟩
          · rw [getD_set_ne (Ne.symm hjp)]; exact hor j hj hjp
        · rw [← hsu, su.eq_1 key l pos, if_pos hc]
    · rw [if_neg (by simp; omega)]
      refine ⟨rfl, pos, l, e, tp, m, cm, F, hpl, hll, m1, m3, m6, m5, htl, hor, ?_⟩
      rw [← hsu, su.eq_1 key l pos, if_neg hc]
  · rintro fl s' ⟨rfl, k, l, e, t, m, cm, F, hkl, hll, m1, m3, m4, m5, htl, hor, hsu⟩
    -- heap[pos] = newitem
    refine wpAny_execs_cons (wpAny_Assign_Subscript (nmL F m4 (nmL F m1 (nmL F m3 (setList (pre := []) F hkl (by omega) fun s'' F => ?_)))))
    -- _siftdown(heap, startpos, pos)
    obtain ⟨g, hg, og, pmg, cdg, docg, hgo, hgd, _⟩ := Wb.siftdown
    refine wpAny_execs_cons (wpAny_Expr (callFn (Wb.keeps F.keep) hg hgd (wpAny_items_cons (nmL F m1 (wpAny_items_cons (nmL F m5 (wpAny_items_cons (nmL F m3 (wpAny_items_nil ⟨F.keep _ _ hgo, ?_⟩)))))))))
    have hk' : k < (l.set k N).length := by simpa using hkl
    have e0 : (l.set k N).getD k .none = N := getD_set_self hkl
    refine siftdown_spec (key := key) (vs := l.set k N) (hA1.le (by omega)) W ((kp_hide hk ha).trans F.keep) ha (F.get (.head _)) ?_ hk' (by simp; omega) ?_ hg ?_
    · intro v hv
      rcases List.mem_or_eq_of_mem_set hv with q | q
      · exact htl v q
      · rw [q]; exact hNt
    · intro j hj hjk
      rw [e0, getD_set_ne (Ne.symm hjk)]
      obtain ⟨i, hi0, hi, he⟩ := hor j (by simpa using hj) hjk
      rw [he, ← hN]
      exact hdist i 0 hi h1 (by omega)
    · intro h' tk n' hkb hget
      rw [e0] at hget
      have F' := F.upd (pre := []) (tk := tk) hkb hget
      refine wpAny_execs_nil ?_
      obtain ⟨h2, tk2, e2⟩ := F.same
      subst e2
      refine hQ h' tk n' (kb_of_hide F'.keep) ?_
      rw [hsu]; exact hget
end
end Mine
end

section
open PySem PySem.W PySem.Calls PyProof.Rows
namespace Mine

section
variable {prog : Program} {w : World} {A : Around} {E : Value → Shared → Prop} {s₀ s : Shared} {h₀ : Heap} {env : Env} {m cm mg mb : Str → Option Value} {news pre post : List (Addr × Obj)} {a : Addr} {vs : List Value} {n : Nat} {v : Value}

theorem apCall {Q : Value → Shared → Prop} (F : Fm s₀ h₀ env m cm (pre ++ (a, listOf vs.toArray n) :: post) s) (hlen : vs.length ≤ 100000)
    (h : ∀ s', Fm s₀ h₀ env m cm (pre ++ (a, listOf (vs ++ [v]).toArray (n + 1)) :: post) s' → Q .none s') : wpAny (model prog w) A (call (.builtin "list.append") [.ref a, v]) Q E s := by
  refine append_at (F.get (List.mem_append_right _ (.head _))) (fun h' hs ho' => h _ (F.upd (tk := s.toks) (fun b x hb e => hs.extBut b x hb e) ?_)) (by rw [List.size_toArray, sizeLine_eq]; omega)
  rw [ho']; simp

theorem plainL_of {h : Heap} (e : h.get? a = some (listOf vs.toArray n)) : PlainL h a vs.toArray := ⟨_, n, e, rfl, rfl, rfl⟩

/-- x.append(e) as a statement -/
theorem apStmt {x : Str} {px apos pos spos : Pos} {elt : Expr} {Q : Flow → Shared → Prop}
    (hx : wpAny (model prog w) A (eval (.Name x px) env) (fun ov s₁ => ∃ its, ov = .ref a ∧ PlainL s₁.heap a its ∧
      wpAny (model prog w) A (eval elt env) (fun y s₂ => wpAny (model prog w) A (call (.builtin "list.append") [.ref a, y]) (fun v s' => v = .none ∧ Q .next s') E s₂) E s₁) E s)
    (hfew : ((backTo pos (starEach [elt] env)).all (fun x => !x.1) && (backToKw pos (keywordEach [] env)).all (fun x => x.1.isSome)
      && decide (([elt] : List Expr).length + ([] : List Keyword).length + (if ([] : List Keyword).isEmpty then 0 else 1) < 30)) = true := by rfl)
    (hline : (apos.endLine == pos.line) = true := by rfl)
    (htrees : backTo pos (starEach [elt] env) = [(false, eval elt env)] := by rfl)
    (hi : interactive env = false := by rfl) (hs : swapsWith (.Call (.Attribute (.Name x px) "append" apos) [elt] [] pos) none spos.line env = pure false := by rfl) :
    wpAny (model prog w) A (exec (.Expr (.Call (.Attribute (.Name x px) "append" apos) [elt] [] pos) spos) env) Q E s := by
  refine wpAny_Expr (wpAny_Call_append rfl hfew hline htrees (wpAny_mono hx (fun ov s₁ h₁ => ?_) fun _ _ x => x)) hi hs
  obtain ⟨its, rfl, hp, h⟩ := h₁
  refine ⟨a, its, rfl, hp, wpAny_mono h (fun y s₂ h₂ => wpAny_mono h₂ (fun v s' q => ?_) fun _ _ x => x) fun _ _ x => x⟩
  obtain ⟨rfl, q⟩ := q
  exact q
end

section
variable {prog : Program} {w : World} {A : Around} {E : Value → Shared → Prop} {s : Shared} {h₀ : Heap} {mg mb : Str → Option Value} {a : Addr} {vs : List Value} {n : Nat} {key : Value → Int}

theorem getD_snoc {l : List Value} {v : Value} : (l ++ [v]).getD l.length .none = v := by
  rw [List.getD_eq_getElem?_getD]; simp
theorem getD_snoc_lt {l : List Value} {v : Value} {j : Nat} (h : j < l.length) : (l ++ [v]).getD j .none = l.getD j .none := by
  rw [List.getD_eq_getElem?_getD, List.getElem?_append_left h, ← List.getD_eq_getElem?_getD]

theorem heappush_spec {f : Addr} {v : Value} {Q : Value → Shared → Prop} (hA : Ar 5 A) (W : Wd prog w mg mb h₀) (hk : Kp h₀ s.heap) (ha : h₀.get? a = none) (ho : s.heap.get? a = some (listOf vs.toArray n))
    (htp : ∀ v ∈ vs, TpV h₀ v (key v)) (hv : TpV h₀ v (key v)) (hlen : vs.length ≤ 900) (hdist : ∀ x ∈ vs, key x ≠ key v) (hf : mg "heappush" = some (.ref f))
    (hQ : ∀ h' tk n', Kb a s.heap h' → h'.get? a = some (listOf (sd key v vs.length (vs ++ [v])).toArray n') → Q .none { s with heap := h', toks := tk }) :
    wpAny (model prog w) A (call (.ref f) [.ref a, v]) Q E s := by
  obtain ⟨f', hf', fn⟩ := W.heappush
  rw [hf] at hf'
  obtain rfl : f = f' := by injection hf' with q; injection q
  obtain ⟨o, pm, cd, doc, hof, hdf, hcd⟩ := fn
  refine enter hA (hk _ _ hof) hdf (hcd.keeps hk) (W.nolimit.keeps hk) rfl rfl (by decide) fun A1 L s₁ hA1 F0 => ?_
  clear hdf hof
  have F := F0.hide ho
  clear F0
  have Wb : Wd prog w mg mb (s.heap.hide a) := W.keeps (kp_hide hk ha)
  obtain ⟨m, cm, ⟨m1, m2⟩, F⟩ : ∃ m cm, (m (Str.ofString "heap") = some (.ref a) ∧ m (Str.ofString "item") = some v) ∧ Fm s (s.heap.hide a) _ m cm _ s₁ := ⟨_, _, ⟨rfl, rfl⟩, F⟩
  -- heap.append(item)
  refine wpAny_execs_cons (apStmt (nmL F m1 ⟨_, rfl, plainL_of (F.get (.head _)), nmL F m2 (apCall (pre := []) F (by omega) fun s2 F2 => ⟨rfl, ?_⟩)⟩))
  -- _siftdown(heap, 0, len(heap) - 1)
  obtain ⟨g, hg, og, pmg, cdg, docg, hgo, hgd, _⟩ := Wb.siftdown
  refine wpAny_execs_cons <| wpAny_Expr <| callFn (Wb.keeps F2.keep) hg hgd <| wpAny_items_cons <| nmL F2 m1 <| wpAny_items_cons <| wpAny_Constant_int <| wpAny_items_cons <| wpAny_BinOp <| callBf (Wb.keeps F2.keep) W.len <|
    wpAny_items_cons <| nmL F2.tok m1 <| wpAny_items_nil <| call_len_list (isList_of (F2.get (.head _))) (by simp; omega) <| wpAny_Constant_int <| sub_int <| wpAny_items_nil ⟨F2.keep _ _ hgo, ?_⟩
  rw [show (((vs ++ [v]).toArray.size : Nat) : Int) - 1 = (vs.length : Nat) by simp]
  refine siftdown_spec (key := key) (vs := vs ++ [v]) (hA1.le (by omega)) W ((kp_hide hk ha).trans F2.keep) ha (F2.get (.head _)) ?_ (by simp) (by simp; omega) ?_ hg ?_
  · intro x hx
    rcases List.mem_append.mp hx with q | q
    · exact htp x q
    · rw [List.mem_singleton.mp q]; exact hv
  · intro j hj hjn
    rw [getD_snoc]
    have hj' : j < vs.length := by simp at hj; omega
    rw [getD_snoc_lt hj']
    exact hdist _ (mem_getD hj')
  · intro h' tk n' hkb hget
    rw [getD_snoc] at hget
    have F' := F2.upd (pre := []) (tk := tk) hkb hget
    refine wpAny_execs_nil ?_
    obtain ⟨h2, tk2, e2⟩ := F2.same
    subst e2
    exact hQ h' tk n' (kb_of_hide F'.keep) hget
end

/-- what heappop leaves -/
def popL (key : Value → Int) (vs : List Value) : List Value :=
  match vs.dropLast with
  | [] => []
  | _ :: r => let l := (vs.getD (vs.length - 1) .none) :: r
    sd key (vs.getD (vs.length - 1) .none) (su key l 0).2 ((su key l 0).1.set (su key l 0).2 (vs.getD (vs.length - 1) .none))

section
variable {prog : Program} {w : World} {A : Around} {E : Value → Shared → Prop} {s : Shared} {h₀ : Heap} {mg mb : Str → Option Value} {a : Addr} {vs : List Value} {n : Nat} {key : Value → Int}

theorem heappop_spec {f : Addr} {Q : Value → Shared → Prop} (hA : Ar 7 A) (W : Wd prog w mg mb h₀) (hk : Kp h₀ s.heap) (ha : h₀.get? a = none) (ho : s.heap.get? a = some (listOf vs.toArray n))
    (htp : ∀ v ∈ vs, TpV h₀ v (key v)) (h1 : 0 < vs.length) (hlen : vs.length ≤ 900) (hdist : ∀ i j, i < vs.length → j < vs.length → i ≠ j → key (vs.getD i .none) ≠ key (vs.getD j .none)) (hf : mg "heappop" = some (.ref f))
    (hQ : ∀ h' tk n', Kb a s.heap h' → h'.get? a = some (listOf (popL key vs).toArray n') → Q (vs.getD 0 .none) { s with heap := h', toks := tk }) :
    wpAny (model prog w) A (call (.ref f) [.ref a]) Q E s := by
  obtain ⟨f', hf', fn⟩ := W.heappop
  rw [hf] at hf'
  obtain rfl : f = f' := by injection hf' with q; injection q
  obtain ⟨o, pm, cd, doc, hof, hdf, hcd⟩ := fn
  refine enter hA (hk _ _ hof) hdf (hcd.keeps hk) (W.nolimit.keeps hk) rfl rfl (by decide) fun A1 L s₁ hA1 F0 => ?_
  clear hdf hof
  have F := F0.hide ho
  clear F0
  have Wb : Wd prog w mg mb (s.heap.hide a) := W.keeps (kp_hide hk ha)
  obtain ⟨m, cm, m1, F⟩ : ∃ m cm, (m (Str.ofString "heap") = some (.ref a)) ∧ Fm s (s.heap.hide a) _ m cm _ s₁ := ⟨_, _, rfl, F⟩
  have hlast : vs.length - 1 < vs.length := by omega
  -- lastelt = heap.pop()
  refine wpAny_execs_cons <| wpAny_Assign_Name <| wpAny_Call_method rfl rfl rfl PySem.F.plainAttrs_list PySem.F.slot_list_pop PySem.F.type_list_pop <| nmL F m1 ⟨(isList_of (F.get (.head _))).typeIs, fun b e => ?_, P.pop_list (y := vs.getD (vs.length - 1) .none) (F.get (.head _)) ?_ ?_ ?_⟩
  · injection e with e; subst e; exact ⟨_, F.get (.head _), rfl⟩
  · simpa using getD_of hlast
  rotate_left
  · rw [List.size_toArray, sizeLine_eq]; omega
  have q := PySem.IsL.update (f := fun xs => xs.eraseIdxIfInBounds (vs.toArray.size - 1)) (show PySem.IsL s₁.heap a vs.toArray n from F.get (.head _))
  have e1 : vs.toArray.eraseIdxIfInBounds (vs.toArray.size - 1) = vs.dropLast.toArray := by
    apply Array.toList_inj.mp
    simp [Array.eraseIdxIfInBounds, hlast]
  rw [e1] at q
  have F2 := F.upd (pre := []) (tk := s₁.toks) (fun b x hb e => (Heap.SameBut.update ..).extBut b x hb e) q
  refine stL F2 fun s3 F3 _ => ?_
  generalize hl1 : vs.getD (vs.length - 1) .none = last at *
  have hsplit : vs = vs.dropLast ++ [last] := by
    have hne : vs ≠ [] := fun e => by rw [e] at h1; exact absurd h1 (by simp)
    have e0 := List.dropLast_concat_getLast hne
    rw [← hl1, List.getD_eq_getElem?_getD, ← List.getLast?_eq_getElem?, List.getLast?_eq_some_getLast hne]
    exact e0.symm
  -- if heap
  refine wpAny_execs_cons <| wpAny_If <| wpAny_isTrue_value <| nmL F3 m1 <| wpAny_truthy_list (isList_of (F3.get (.head _))) (by simp; omega) ?_
  cases hd : vs.dropLast with
  | nil =>
    rw [hd] at F3 hsplit
    rw [if_neg (by simp)]
    refine wpAny_execs_nil <| wpAny_execs_cons <| wpAny_Return_some <| nmL F3.tok rfl ?_
    obtain ⟨h2, tk2, e2⟩ := F3.same
    have hg := F3.get (.head _)
    have hkb := kb_of_hide F3.keep
    subst e2
    have e3 : vs.getD 0 .none = last := by rw [hsplit]; rfl
    rw [e3] at hQ
    have hp : popL key vs = [] := by unfold popL; rw [hd]
    rw [hp] at hQ
    exact hQ _ _ _ hkb hg
  | cons y r =>
    rw [hd] at F3 hsplit
    rw [if_pos (by simp)]
    have hlr : vs.length = r.length + 2 := by rw [hsplit]; simp
    have F4 := F3.tok (tk := s3.toks + 1 + 1)
    -- returnitem = heap[0]
    refine wpAny_execs_cons <| wpAny_Assign_Name <| Subscript_ <| nmL F4 m1 <| wpAny_Constant_int <| subTail (i := 0) (vs := y :: r) (isList_of (F4.get (.head _))) rfl (by simp; omega) <| stL F4.tok fun s5 F5 _ => ?_
    -- heap[0] = lastelt
    refine wpAny_execs_cons <| wpAny_Assign_Subscript <| nmL F5 rfl <| nmL F5 m1 <| wpAny_Constant_int <| setList (i := 0) (pre := []) (vs := y :: r) F5.tok (by simp) (by simp; omega) fun s6 F6 => ?_
    -- _siftup(heap, 0)
    obtain ⟨g, hg, og, pmg, cdg, docg, hgo, hgd, _⟩ := Wb.siftup
    refine wpAny_execs_cons <| wpAny_Expr <| callFn (Wb.keeps F6.keep) hg hgd <| wpAny_items_cons <| nmL F6 m1 <| wpAny_items_cons <| wpAny_Constant_int <| wpAny_items_nil ⟨F6.keep _ _ hgo, ?_⟩
    have hget : ∀ j, j < (last :: r).length → (last :: r).getD j .none = vs.getD (if j = 0 then vs.length - 1 else j) .none := by
      intro j hj
      cases j with
      | zero => simp only [if_true]; rw [hl1]; rfl
      | succ j =>
        rw [if_neg (by omega), hsplit]
        simp at hj
        show r.getD j .none = ((y :: r) ++ [last]).getD (j + 1) .none
        rw [getD_snoc_lt (by simp; omega)]; rfl
    refine siftup_spec (key := key) (vs := last :: r) (hA1.le (by omega)) W ((kp_hide hk ha).trans F6.keep) ha (F6.get (.head _)) ?_ (by simp) (by simp; omega) ?_ hg ?_
    · intro v hv
      refine htp v ?_
      rw [hsplit]
      rcases List.mem_cons.mp hv with q | q
      · rw [q]; simp
      · simp [q]
    · intro i j hi hj hij
      rw [hget i hi, hget j hj]
      simp only [List.length_cons] at hi hj
      refine hdist _ _ ?_ ?_ ?_ <;> split <;> (try split) <;> omega
    · intro h' tk n' hkb hget'
      have F7 := F6.upd (pre := []) (tk := tk) hkb hget'
      refine wpAny_execs_cons <| wpAny_Return_some <| nmL F7 rfl ?_
      have hkb' := kb_of_hide F7.keep
      obtain ⟨h2, tk2, e2⟩ := F6.same
      subst e2
      have e3 : vs.getD 0 .none = y := by rw [hsplit]; rfl
      rw [e3] at hQ
      refine hQ h' tk n' hkb' ?_
      unfold popL; rw [hd]
      show h'.get? a = some (listOf (List.toArray (sd key (vs.getD (vs.length - 1) .none) _ _)) n')
      rw [hl1]; exact hget'
end
end Mine
end

section
open PySem PySem.W PySem.Calls PyProof.Rows
namespace Mine

theorem strsAre_from : ∀ (tk : Nat) (xs : List Str), StrsAre (strsFrom tk xs) xs
  | _, [] => .nil
  | tk, x :: r => .cons x tk (strsAre_from (tk + 1) r)

section
variable {prog : Program} {w : World} {A : Around} {E : Value → Shared → Prop} {s : Shared} {mg mb : Str → Option Value} {M : Model} {env : Env}

theorem methArg1 {id : String} {ov : Value} {e : Expr} {pos : Pos} {Q : Value → Shared → Prop} (h : wpAny M A (eval e env) (fun v s₁ => wpAny M A (call (.builtin id) [ov, v]) Q E s₁) E s)
    (he : starEach [e] env = [(false, eval e env)] := by rfl) : wpAny M A (callWith pos (.builtin id) [ov] (backTo pos (starEach [e] env)) []) Q E s := by
  rw [he]
  exact Calls.callWith_builtin rfl (Calls.evalArgs_plain (Calls.spliced_cons (wpAny_mono h (fun y s₂ h₂ => Calls.spliced_nil h₂) fun _ _ e => e)))

theorem parts_row : Builtin.Str.partsBetween (oneS ++ twoS) (Builtin.Str.occurrences (oneS ++ twoS) " " 0 (oneS ++ twoS).length ((oneS ++ twoS).length + 1)) (" " : Str).length = rowL := by decide +kernel

theorem splitRow {t u : Tok} {Q : Value → Shared → Prop} (h : ∀ tk, Q (.ref s.heap.objs.size) { s with toks := tk, heap := s.heap.push (listOf (strsFrom s.toks rowL).toArray 0) }) :
    wpAny (model prog w) A (call (.builtin "str.split") [.str (oneS ++ twoS) t, .str (Str.ofString " ") u]) Q E s := by
  refine call_meets PySem.F.slot_str_split (typeIs_str _ _ _) PySem.F.entry_str_split (PySem.F.args_str_split_2 _ _) (meets_str_split_sep (oneS ++ twoS) " " t u (by decide +kernel) (by decide +kernel) (by decide +kernel) (by decide +kernel) (by decide +kernel)) ?_
  rw [parts_row]
  exact h _
end

section
variable {prog : Program} {w : World} {A : Around} {E : Value → Shared → Prop} {s : Shared} {mg mb : Str → Option Value}

theorem row_spec {f : Addr} {Q : Value → Shared → Prop} (hA : Ar 2 A) (W : Wd prog w mg mb s.heap) (hf : mg "_law_row" = some (.ref f))
    (hQ : ∀ a h' tk vs, Kp s.heap h' → Made s.heap h' [(a, listOf vs.toArray 0)] → StrsAre vs rowL → Q (.ref a) { s with heap := h', toks := tk }) :
    wpAny (model prog w) A (call (.ref f) []) Q E s := by
  obtain ⟨f', hf', fn⟩ := W.row
  rw [hf] at hf'
  obtain rfl : f = f' := by injection hf' with q; injection q
  obtain ⟨o, pm, cd, doc, hof, hdf, hcd⟩ := fn
  refine enter hA hof hdf hcd W.nolimit rfl rfl (by decide) fun A1 L s₁ hA1 F => ?_
  clear hdf hof
  obtain ⟨m, cm, F⟩ : ∃ m cm, Fm s s.heap _ m cm _ s₁ := ⟨_, _, F⟩
  refine wpAny_execs_cons <| wpAny_Assign_Name <| Calls.Constant_str <| stL F.tok fun s2 F2 _ => ?_
  refine wpAny_execs_cons <| wpAny_Assign_Name <| Calls.Constant_str <| stL F2.tok fun s3 F3 _ => ?_
  refine wpAny_execs_cons <| wpAny_Return_some <| wpAny_Call_method rfl rfl rfl PySem.F.plainAttrs_str PySem.F.slot_str_split PySem.F.type_str_split <| wpAny_BinOp <| nmL F3 rfl <| nmL F3 rfl <| PyProof.Rows.add_str (fun t' tk => ⟨typeIs_str _ _ _, (fun _ e => nomatch e), ?_⟩) (by decide +kernel)
  refine methArg1 <| Calls.Constant_str <| splitRow fun tk2 => ?_
  have F4 := (F3.tok (tk := tk + 1)).push (tk := tk2) (listOf (strsFrom (tk + 1) rowL).toArray 0)
  refine F4.done (hQ _ _ _ (strsFrom (tk + 1) rowL) F4.keep ⟨fun p hp => ?_, by simp⟩ (strsAre_from _ _))
  rw [List.mem_singleton.mp hp]
  exact ⟨F4.get (.head _), (F4.nws _ (.head _)).2.2.2⟩
end
end Mine
end

section
open PySem PySem.W PySem.Calls PyProof.Rows
namespace Mine

theorem StrsAre.get : ∀ {vs : List Value} {ss : List Str}, StrsAre vs ss → ∀ {i : Nat} {x : Str}, ss[i]? = some x → ∃ t, vs[i]? = some (.str x t)
  | _, _, .cons m t _, 0, n, e => by simp at e; subst e; exact ⟨t, rfl⟩
  | _, _, .cons _ _ h, i + 1, n, e => by simpa using StrsAre.get h (by simpa using e)
theorem StrsAre.len : ∀ {vs : List Value} {ss : List Str}, StrsAre vs ss → vs.length = ss.length
  | _, _, .nil => rfl
  | _, _, .cons _ _ h => by simp [StrsAre.len h]
theorem StrsAre.app : ∀ {vs vs' : List Value} {ss ss' : List Str}, StrsAre vs ss → StrsAre vs' ss' → StrsAre (vs ++ vs') (ss ++ ss')
  | _, _, _, _, .nil, h => h
  | _, _, _, _, .cons x t h, h' => .cons x t (StrsAre.app h h')
theorem StrsAre.take : ∀ {vs : List Value} {ss : List Str}, StrsAre vs ss → ∀ k, StrsAre (vs.take k) (ss.take k)
  | _, _, .nil, _ => by simpa using StrsAre.nil
  | _, _, .cons _ _ _, 0 => .nil
  | _, _, .cons x t h, k + 1 => .cons x t (StrsAre.take h k)
theorem StrsAre.drop : ∀ {vs : List Value} {ss : List Str}, StrsAre vs ss → ∀ k, StrsAre (vs.drop k) (ss.drop k)
  | _, _, .nil, _ => by simpa using StrsAre.nil
  | _, _, .cons x t h, 0 => .cons x t h
  | _, _, .cons _ _ h, k + 1 => StrsAre.drop h k
theorem IntsAre.app : ∀ {vs vs' : List Value} {ss ss' : List Int}, IntsAre vs ss → IntsAre vs' ss' → IntsAre (vs ++ vs') (ss ++ ss')
  | _, _, _, _, .nil, h => h
  | _, _, _, _, .cons x t h, h' => .cons x t (IntsAre.app h h')
theorem IntsAre.take : ∀ {vs : List Value} {ss : List Int}, IntsAre vs ss → ∀ k, IntsAre (vs.take k) (ss.take k)
  | _, _, .nil, _ => by simpa using IntsAre.nil
  | _, _, .cons _ _ _, 0 => .nil
  | _, _, .cons x t h, k + 1 => .cons x t (IntsAre.take h k)

/-- a slice up to b, whatever the length -/
theorem pick_upto (items : Array Value) (b : Nat) : slicePick items none (some (b : Int)) none = (items.toList.take b).toArray := by
  rcases Nat.le_total b items.size with h | h
  · exact slicePick_upto items b h
  · have e : slicePick items none (some (b : Int)) none = slicePick items none (some (items.size : Int)) none := by
      have e2 : sliceBounds none (some (b : Int)) none items.size = sliceBounds none (some (items.size : Int)) none items.size := by
        simp only [sliceBounds, Option.getD_none]
        have h1 : ¬ ((b : Int) < 0) := by omega
        have h2 : ¬ ((items.size : Int) < 0) := by omega
        simp only [h1, h2, if_false, show (1 : Int) > 0 by decide, if_true]
        congr 2
        omega
      unfold slicePick; rw [e2]
    rw [e, slicePick_upto items items.size (Nat.le_refl _), List.take_of_length_le (by simp), List.take_of_length_le (by simpa using h)]

/-- one number more is told -/
def addPick (ps : List Str) (x : Int) : List Str :=
  let r := rowL.getD (x.fmod 48).toNat Str.empty
  if ps.any (· == r) then ps else ps ++ [r]
def picksOf (ns : List Int) : List Str := ([21, 47] ++ ns.take 3).foldl addPick []

theorem fmod48 (x : Int) : (x.fmod 48).toNat < 48 ∧ ((x.fmod 48).toNat : Int) = x.fmod 48 := by
  have h1 := Int.fmod_nonneg_of_pos x (b := 48) (by decide)
  have h2 := Int.fmod_lt_of_pos x (b := 48) (by decide)
  omega

section
variable {prog : Program} {w : World} {A : Around} {E : Value → Shared → Prop} {s : Shared} {mg mb : Str → Option Value}

theorem picks_spec {f sa : Addr} {vs : List Value} {ns : List Int} {Q : Value → Shared → Prop} (hA : Ar 4 A) (W : Wd prog w mg mb s.heap) (hf : mg "_law_picks" = some (.ref f))
    (hl : s.heap.IsList sa vs.toArray) (hi : IntsAre vs ns) (hlen : ns.length ≤ 1000)
    (hQ : ∀ a h' tk vs n, Kp s.heap h' → Made s.heap h' [(a, listOf vs.toArray n)] → StrsAre vs (picksOf ns) → Q (.ref a) { s with heap := h', toks := tk }) :
    wpAny (model prog w) A (call (.ref f) [.ref sa]) Q E s := by
  obtain ⟨f', hf', fn⟩ := W.picks
  rw [hf] at hf'
  obtain rfl : f = f' := by injection hf' with q; injection q
  obtain ⟨o, pm, cd, doc, hof, hdf, hcd⟩ := fn
  refine enter hA hof hdf hcd W.nolimit rfl rfl (by decide) fun A1 L s₁ hA1 F => ?_
  clear hdf hof
  obtain ⟨m, cm, m1, F⟩ : ∃ m cm, m (Str.ofString "script") = some (.ref sa) ∧ Fm s s.heap _ m cm _ s₁ := ⟨_, _, rfl, F⟩
  -- row = _law_row()
  obtain ⟨g, hg, og, pmg, cdg, docg, hgo, hgd, _⟩ := W.row
  refine wpAny_execs_cons <| wpAny_Assign_Name <| callFn0 (W.keeps F.keep) hg (F.keep _ _ hgo) hgd <| row_spec (hA1.le (by omega)) (W.keeps F.keep) hg fun ra h2 tk2 rvs kp2 md2 hr => ?_
  have F2 := F.more (tk := tk2) kp2 md2
  refine stL F2 fun s3 F3 _ => ?_
  -- picks = []
  refine wpAny_execs_cons <| wpAny_Assign_Name <| wpAny_List <| wpAny_items_nil ⟨by decide, stL (F3.push _) fun s4 F4 _ => ?_⟩
  have hA4 := hA1.hh
  obtain ⟨pa, hpa⟩ : ∃ pa, pa = s3.heap.objs.size := ⟨_, rfl⟩
  rw [← hpa] at F4
  obtain ⟨m, cm, ⟨m1, m2, m3⟩, F4⟩ : ∃ m cm, (m (Str.ofString "script") = some (.ref sa) ∧ m (Str.ofString "row") = some (.ref ra) ∧ m (Str.ofString "picks") = some (.ref pa)) ∧ Fm s s.heap _ m cm [(pa, listOf ([] : List Value).toArray 0), (ra, listOf rvs.toArray 0)] s4 :=
    ⟨_, _, ⟨m1, rfl, hpa ▸ rfl⟩, F4⟩
  have hvl : vs.length = ns.length := hi.length
  -- the for
  let xs : List Int := [21, 47] ++ ns.take 3
  let P : Flow → Shared → Prop := fun fl s' => fl = .next ∧ ∃ (m cm : Str → Option Value) (pvs : List Value) (e : Nat) (rest : List (Addr × Obj)), Fm s s.heap F4.ev m cm ((pa, listOf pvs.toArray e) :: rest) s' ∧ m (Str.ofString "picks") = some (.ref pa) ∧ StrsAre pvs (picksOf ns)
  refine wpAny_execs_cons <| wpAny_mono (Q := P) ?_ ?_ fun _ _ x => x
  · refine forFm (s₀ := s) (h₀ := s.heap) (um := upM (Str.ofString "x")) (uc := noM) hA4 storeL ?_
    refine wpAny_BinOp <| wpAny_List <| wpAny_items_cons <| wpAny_Constant_int <| wpAny_items_cons <| wpAny_Constant_int <| wpAny_items_nil ⟨by size_fits, ?_⟩
    have F5 := F4.push (tk := s4.toks + 1 + 1) { cls := .type "list", data := .seq [Value.int 21 s4.toks, Value.int 47 (s4.toks + 1)].toArray }
    refine wpAny_Subscript_list_slice <| nmL F5 m1 <| wpAny_evalPart_none <| wpAny_evalPart_some <| wpAny_Constant_int ⟨sa, vs.toArray, none, some 3, rfl, hl.at fun o e => F5.keep _ _ e, by rw [List.size_toArray, sizeLine_eq]; omega, .none, .int 3 _, ?_⟩
    have F6 := ((F5.tok (tk := s4.toks + 1 + 1 + 1)).push (tk := s4.toks + 1 + 1 + 1) { cls := .type "slice", data := .fields #[.none, .int 3 (s4.toks + 1 + 1), .none] }).push (tk := s4.toks + 1 + 1 + 1) { cls := .type "list", data := .seq (slicePick vs.toArray none (some 3) none) }
    have e3 : slicePick vs.toArray none (some 3) none = (vs.take 3).toArray := pick_upto vs.toArray 3
    rw [e3] at F6 ⊢
    simp only [Heap.size_push] at F6 ⊢
    refine PySem.P.add_list (F6.get (.tail _ (.tail _ (.head _)))) (F6.get (.head _)) ?_ (by rw [sizeLine_eq]; simp; omega)
    have F7 := F6.push (tk := s4.toks + 1 + 1 + 1) { cls := .type "list", data := .seq ([Value.int 21 s4.toks, Value.int 47 (s4.toks + 1)].toArray ++ (vs.take 3).toArray) }
    have hxs : IntsAre ([Value.int 21 s4.toks, Value.int 47 (s4.toks + 1)] ++ vs.take 3) xs := IntsAre.app (.cons 21 _ (.cons 47 _ .nil)) (IntsAre.take hi 3)
    have exs : [Value.int 21 s4.toks, Value.int 47 (s4.toks + 1)].toArray ++ (vs.take 3).toArray = ([Value.int 21 s4.toks, Value.int 47 (s4.toks + 1)] ++ vs.take 3).toArray := by simp
    rw [exs] at F7 ⊢
    generalize [Value.int 21 s4.toks, Value.int 47 (s4.toks + 1)] ++ vs.take 3 = ivs at *
    have F8 := F7.drop (news' := [(_, { cls := .type "list", data := .seq ivs.toArray }), (pa, listOf ([] : List Value).toArray 0), (ra, listOf rvs.toArray 0)]) (((((List.Sublist.refl _).cons _).cons _).cons _).cons_cons _)
    refine (fun (H : ∀ la s7, Fm s s.heap F4.ev m cm [(la, listOf ivs.toArray 0), (pa, listOf ([] : List Value).toArray 0), (ra, listOf rvs.toArray 0)] s7 → ForOk prog w A1 s s.heap F4.ev (upM (Str.ofString "x")) noM _ P (.ref la) s7) => H _ _ F8) ?_
    clear F8 F7 F6 F5
    intro la s7 F8
    have hivl : ivs.length = xs.length := hxs.length
    have hrl : rvs.length = 48 := StrsAre.len hr
    have hxl : xs.length ≤ 5 := by simp only [xs, List.length_append, List.length_take, List.length_cons, List.length_nil]; omega
    refine ForOk.intro (items := ivs.toArray) (fun i m _ nw => ∃ pvs e, m (Str.ofString "row") = some (.ref ra) ∧ m (Str.ofString "picks") = some (.ref pa) ∧ nw = [(la, listOf ivs.toArray 0), (pa, listOf pvs.toArray e), (ra, listOf rvs.toArray 0)] ∧ StrsAre pvs ((xs.take i).foldl addPick []) ∧ pvs.length ≤ i) F8 (isList_of (F8.get (.head _)))
      ⟨[], 0, m2, m3, rfl, .nil, Nat.le_refl _⟩ ?_ ?_ ?_
    · rintro i m cm nw s' ⟨pvs, e, _, _, rfl, _⟩ F
      exact isList_of (F.get (.head _))
    · rintro E' i v m cm nw s' I o hv ⟨pvs, e, m2, m3, rfl, hpv, hpl⟩ F
      have hil : i < xs.length := by
        rcases Nat.lt_or_ge i ivs.length with q | q
        · omega
        · rw [List.getElem?_toArray, List.getElem?_eq_none q] at hv; cases hv
      obtain ⟨t, ht⟩ := hxs.get i xs[i] (List.getElem?_eq_getElem hil)
      obtain rfl : v = .int xs[i] t := by rw [List.getElem?_toArray, ht] at hv; exact (Option.some.inj hv).symm
      generalize hx : xs[i] = x at *
      have hfold : (xs.take (i + 1)).foldl addPick [] = addPick ((xs.take i).foldl addPick []) x := by
        rw [List.take_add_one, List.getElem?_eq_getElem hil, hx]; simp
      obtain ⟨hlt, hcast⟩ := fmod48 x
      obtain ⟨u, hu⟩ := StrsAre.get hr (i := (x.fmod 48).toNat) (x := rowL.getD (x.fmod 48).toNat Str.empty) (by rw [List.getD_eq_getElem?_getD, List.getElem?_eq_getElem (by rw [rowL_length]; exact hlt)]; rfl)
      generalize hz : rowL.getD (x.fmod 48).toNat Str.empty = z at *
      have m2' := m2; have m3' := m3
      -- the item of the row
      have item : ∀ {Q : Value → Shared → Prop} {E : Value → Shared → Prop} {tk p1 p2 p3 p4 p5}, (∀ tk, Q (.str z u) { s' with toks := tk }) → wpAny (model prog w) A1 (eval (.Subscript (.Name (Str.ofString "row") p1) (.BinOp (.Name (Str.ofString "x") p2) .Mod (.Constant (.int 48) 0 p3) p4) p5) F.ev) Q E { s' with toks := tk } := by
        intro Q E tk p1 p2 p3 p4 p5 h
        refine Subscript_ <| nmL (F.tok (tk := tk)) m2 <| wpAny_BinOp <| nmL (F.tok (tk := tk)) rfl <| wpAny_Constant_int <| mod_int (by decide) ?_
        rw [← hcast]
        exact subTail (isList_of (F.get (.tail _ (.tail _ (.tail _ (.head _)))))) hu (by omega) (h _)
      refine wpAny_execs_cons <| wpAny_If <| wpAny_isTrue_Compare1 <| item (tk := s'.toks) fun tk => nmL F.tok m3 <| notin_list_strs (isList_of (F.get (.tail _ (.tail _ (.head _))))) hpv <| wpAny_truthy_bool ?_
      have hadd : addPick ((xs.take i).foldl addPick []) x = if ((xs.take i).foldl addPick []).any (· == z) then (xs.take i).foldl addPick [] else (xs.take i).foldl addPick [] ++ [z] := by
        unfold addPick; rw [hz]
      by_cases hany : ((xs.take i).foldl addPick []).any (· == z) = true
      · rw [hany, if_neg (by simp)]
        refine wpAny_execs_nil <| wpAny_execs_nil ⟨_, _, _, F.tok, pvs, e, m2, m3, rfl, ?_, by omega⟩
        rw [hfold, hadd, if_pos hany]; exact hpv
      · rw [Bool.not_eq_true] at hany
        rw [hany, if_pos (by simp)]
        refine wpAny_execs_cons <| apStmt <| nmL F.tok m3 ⟨_, rfl, plainL_of (F.get (.tail _ (.tail _ (.head _)))), item fun tk => apCall (pre := [_, _]) (F.tok (tk := tk)) (by omega) fun s2 F2 => ⟨rfl, ?_⟩⟩
        refine wpAny_execs_nil <| wpAny_execs_nil ⟨_, _, _, F2, pvs ++ [.str z u], e + 1, m2, m3, rfl, ?_, by simp; omega⟩
        rw [hfold, hadd, hany, if_neg (by simp)]
        exact StrsAre.app hpv (.cons z u .nil)
    · rintro m cm nw s' ⟨pvs, e, m2, m3, rfl, hpv, hpl⟩ F
      refine ⟨rfl, m, cm, pvs, e, _, F.perm (List.Perm.swap _ _ _), m3, ?_⟩
      have e : ivs.toArray.size = xs.length := by simpa using hivl
      rw [e, List.take_length] at hpv
      exact hpv
  · rintro fl s5 ⟨rfl, m, cm, pvs, e, rest, F5, m3, hp⟩
    refine wpAny_execs_cons <| wpAny_Return_some <| nmL F5 m3 ?_
    refine F5.done (hQ _ _ _ pvs e F5.keep ⟨fun p hp => ?_, by simp⟩ hp)
    rw [List.mem_singleton.mp hp]
    exact ⟨F5.get (.head _), (F5.nws _ (.head _)).2.2.2⟩
end
end Mine
end

section
open PySem PySem.W PySem.Calls PyProof.Rows
namespace Mine

section
variable {prog : Program} {w : World} {A : Around} {E : Value → Shared → Prop} {s : Shared} {env : Env}

/-- a comprehension's block over any iterator -/
theorem compIt {scope : Scope} {cl : List (Str × Addr)} {x : Str} {ifs : List Expr} {elt : Expr} {I : Addr} {io : Obj} {fp : List Addr} {n : Nat} {P : Nat → Value → Prop} {St : Nat → Heap → Prop} {tk : Nat} {Q : Value → Shared → Prop}
    (W : Walks prog w A I fp [I] n P St) (hI : I = s.heap.objs.size) (hsz : n ≤ sizeLine) (hst : St 0 (s.heap.push io)) (hfp : ∀ b ∈ fp, b ≤ s.heap.objs.size) (p : Value → Bool) (R : Value → Value → Prop)
    (tests : ∀ C i v s₃ m₃ (E' : Value → Shared → Prop), P i v → s₃.heap.Ns C m₃ → m₃ x = some v → Kp s.heap s₃.heap →
      wpAny (model prog w) A (forIn ifs true fun c r => if r = true then do let ok ← isTrue c (compEnvC scope cl C env) (eval c (compEnvC scope cl C env)); pure (ForInStep.yield ok) else pure (ForInStep.yield r))
        (fun ok s₄ => ok = p v ∧ Keeps s₃ s₄) E' s₃)
    (elts : ∀ C i v s₃ m₃ (E' : Value → Shared → Prop), P i v → p v = true → s₃.heap.Ns C m₃ → m₃ x = some v → Kp s.heap s₃.heap →
      wpAny (model prog w) A (eval elt (compEnvC scope cl C env)) (fun y s₄ => R v y ∧ Keeps s₃ s₄) E' s₃)
    (hQ : ∀ D (ys : List Value) e h' tk (vs : List Value), Kp s.heap h' → Made s.heap h' [(D, listOf ys.toArray e)] → vs.length = n → (∀ j v, vs[j]? = some v → P j v) → Paired R (vs.filter p) ys → Q (.ref D) { s with heap := h', toks := tk }) :
    ∃ I' fp' wr n P St, Value.ref I = .ref I' ∧ Walks prog w A I' fp' wr n P St ∧ n ≤ sizeLine ∧ St 0 (s.heap.push io) ∧ (∀ b ∈ fp', b < (s.heap.push io).objs.size) ∧
      QuietOnC prog w A env scope cl x ifs elt wr P p R { s with heap := s.heap.push io, toks := tk } ∧
      (∀ D h' tk' ys (vs : List Value), (s.heap.push io).get? D = none → h'.IsList D ys → h'.PlainList D ys → vs.length = n → (∀ j v, vs[j]? = some v → P j v) → Paired R (vs.filter p) ys.toList →
        (∀ b o, b ∉ wr → (s.heap.push io).get? b = some o → h'.get? b = some o) → Q (.ref D) { s with heap := h', toks := tk' }) := by
  have kp : ∀ h' : Heap, (∀ b o, b ∉ [I] → (s.heap.push io).get? b = some o → h'.get? b = some o) → Kp s.heap h' := fun h' hk b o e =>
    hk b o (fun q => by rw [List.mem_singleton.mp q, hI] at e; exact absurd (Heap.lt_size e) (Nat.lt_irrefl _)) (Heap.get?_push_of_some _ e)
  refine ⟨I, fp, [I], n, P, St, rfl, W, hsz, hst, fun b hb => by rw [Heap.size_push]; exact Nat.lt_succ_of_le (hfp b hb), ⟨?_, ?_⟩, ?_⟩
  · intro C i v s₃ m₃ E' _ hP hn hm hk _
    exact tests C i v s₃ m₃ E' hP hn hm (kp _ hk)
  · intro C i v s₃ m₃ E' _ hP hp hn hm hk _
    exact elts C i v s₃ m₃ E' hP hp hn hm (kp _ hk)
  · intro D h' tk' ys vs hD hl hpl hlen hP hR hk
    obtain ⟨e, he⟩ := hpl
    refine hQ D ys.toList e h' tk' vs (kp _ hk) ⟨fun q hq => ?_, by simp⟩ hlen hP hR
    rw [List.mem_singleton.mp hq]
    exact ⟨by simpa using he, none_of_none (Kp.push _ _) hD⟩

/-- what a comprehension asks of what it goes over -/
def CompOk (prog : Program) (w : World) (A : Around) (env : Env) (scope : Scope) (cl : List (Str × Addr)) (x : Str) (ifs : List Expr) (elt : Expr) (p : Value → Bool) (R : Value → Value → Prop) (Q : Value → Shared → Prop) (v : Value) (s₁ : Shared) : Prop :=
  wpAny (model prog w) A (pyIter v) (fun it s₂ => ∃ I fp wr n P St, it = .ref I ∧ Walks prog w A I fp wr n P St ∧ n ≤ sizeLine ∧ St 0 s₂.heap ∧ (∀ b ∈ fp, b < s₂.heap.objs.size) ∧
      QuietOnC prog w A env scope cl x ifs elt wr P p R s₂ ∧
      (∀ D h' tk ys (vs : List Value), s₂.heap.get? D = none → h'.IsList D ys → h'.PlainList D ys → vs.length = n → (∀ j v, vs[j]? = some v → P j v) → Paired R (vs.filter p) ys.toList →
        (∀ b o, b ∉ wr → s₂.heap.get? b = some o → h'.get? b = some o) → Q (.ref D) { s₂ with heap := h', toks := tk })) (fun _ _ => False) s₁

theorem compExpr {elt iter : Expr} {x : Str} {px : Pos} {ifs : List Expr} {scope : Scope} {cl : List (Str × Addr)} {pos : Pos} {Q : Value → Shared → Prop} (p : Value → Bool) (R : Value → Value → Prop)
    (hclos : closureFor scope env = pure cl) (hcell : ∀ y ∈ scope.names, y.2 ≠ .cell) (hkind : scope.kind = .function)
    (hnames : ∀ y ∈ scope.names, y.2 = .local → scope.names.lookup y.1 = some .local) (hx : scope.names.lookup x = some .local)
    (h : wpAny (model prog w) A (eval iter env) (CompOk prog w A env scope cl x ifs elt p R Q) E s)
    (hs : ∀ x, foldedSetIterable iter env x = pure x := by intro _; rfl) :
    wpAny (model prog w) A (eval (.ListComp elt [⟨.Name x px, iter, ifs, 0⟩] scope pos) env) Q E s :=
  wpAny_ListComp_free p R hclos hcell hkind hnames hx (wpAny_mono h (fun _ _ q => wpAny_mono q (fun _ _ z => z) fun _ _ e => e.elim) fun _ _ e => e) hs

/-- over a list -/
theorem compList {scope : Scope} {cl : List (Str × Addr)} {x : Str} {ifs : List Expr} {elt : Expr} {l : Addr} {items : List Value} {Q : Value → Shared → Prop} (hh : A.handled = none) (hl : s.heap.IsList l items.toArray) (hsz : items.length ≤ 100000)
    (p : Value → Bool) (R : Value → Value → Prop)
    (tests : ∀ C v s₃ m₃ (E' : Value → Shared → Prop), v ∈ items → s₃.heap.Ns C m₃ → m₃ x = some v → Kp s.heap s₃.heap →
      wpAny (model prog w) A (forIn ifs true fun c r => if r = true then do let ok ← isTrue c (compEnvC scope cl C env) (eval c (compEnvC scope cl C env)); pure (ForInStep.yield ok) else pure (ForInStep.yield r))
        (fun ok s₄ => ok = p v ∧ Keeps s₃ s₄) E' s₃)
    (elts : ∀ C v s₃ m₃ (E' : Value → Shared → Prop), v ∈ items → p v = true → s₃.heap.Ns C m₃ → m₃ x = some v → Kp s.heap s₃.heap →
      wpAny (model prog w) A (eval elt (compEnvC scope cl C env)) (fun y s₄ => R v y ∧ Keeps s₃ s₄) E' s₃)
    (hQ : ∀ D (ys : List Value) e h' tk, Kp s.heap h' → Made s.heap h' [(D, listOf ys.toArray e)] → Paired R (items.filter p) ys → Q (.ref D) { s with heap := h', toks := tk }) :
    CompOk prog w A env scope cl x ifs elt p R Q (.ref l) s := by
  refine wpAny_pyIter_list hl ?_
  obtain ⟨ol, hol, _⟩ := id hl
  have hlt := Heap.lt_size hol
  refine compIt (tk := s.toks) (Walks.list hh s.heap.objs.size l (Nat.ne_of_lt hlt) items.toArray) rfl (by rw [List.size_toArray, sizeLine_eq]; omega) ⟨⟨_, Heap.get?_push_size _ rfl, rfl, rfl⟩, hl.push _⟩ ?_ p R ?_ ?_ ?_
  · intro b hb
    rcases List.mem_cons.mp hb with q | q
    · exact Nat.le_of_eq q
    · rw [List.mem_singleton.mp q]; exact Nat.le_of_lt hlt
  · intro C i v s₃ m₃ E' hP
    exact tests C v s₃ m₃ E' (List.mem_of_getElem? (by simpa using hP))
  · intro C i v s₃ m₃ E' hP
    exact elts C v s₃ m₃ E' (List.mem_of_getElem? (by simpa using hP))
  · intro D ys e h' tk vs hk hm hlen hP hR
    have ev : vs = items := by
      apply List.ext_getElem?
      intro j
      by_cases hj : j < vs.length
      · have := hP j vs[j] (List.getElem?_eq_getElem hj)
        rw [List.getElem?_eq_getElem hj]; simpa using this.symm
      · have h1 : vs.length = items.length := by simpa using hlen
        rw [List.getElem?_eq_none (by omega), List.getElem?_eq_none (by omega)]
    rw [ev] at hR
    exact hQ D ys e h' tk hk hm hR
end
end Mine
end

section
open PySem PySem.W PySem.Calls PyProof.Rows
namespace Mine

/-- one stands ahead of sg, and has not gone -/
def blk (sg : Str) (gone : List Str) (one : Str) : Bool := (one != sg) && (Txt.startswith sg one && !(gone.any (· == one)))
def readyB (sg : Str) (picks gone : List Str) : Bool := (picks.filter (blk sg gone)).isEmpty

theorem Paired.len {α β : Type} {F : α → β → Prop} : ∀ {l₁ : List α} {l₂ : List β}, Paired F l₁ l₂ → l₁.length = l₂.length
  | _, _, .nil => rfl
  | _, _, .cons _ h => by simp [Paired.len h]

def blkV (sg : Str) (gone : List Str) : Value → Bool
  | .str one _ => blk sg gone one
  | _ => false
theorem filter_strs {f : Str → Bool} {g : Value → Bool} (hg : ∀ x t, g (.str x t) = f x) : ∀ {vs : List Value} {ss : List Str}, StrsAre vs ss → (vs.filter g).length = (ss.filter f).length
  | _, _, .nil => rfl
  | _, _, .cons x t h => by
    rw [List.filter_cons, List.filter_cons, hg]
    split
    · simp [filter_strs hg h]
    · exact filter_strs hg h
theorem StrsAre.mem {vs : List Value} {ss : List Str} (h : StrsAre vs ss) {v : Value} (hv : v ∈ vs) : ∃ x t, v = .str x t ∧ x ∈ ss := by
  induction h with
  | nil => cases hv
  | cons x t h ih =>
    rcases List.mem_cons.mp hv with rfl | hv
    · exact ⟨x, t, rfl, .head _⟩
    · obtain ⟨y, u, e, hy⟩ := ih hv; exact ⟨y, u, e, .tail _ hy⟩

section
variable {prog : Program} {w : World} {A : Around} {E : Value → Shared → Prop} {s : Shared} {env : Env}

/-- a list compared with the empty one -/
theorem eqNil {a b : Addr} {ys : List Value} {Q : Value → Shared → Prop} (hu : A.units < cLine) (ha : s.heap.IsList a ys.toArray) (hb : s.heap.IsList b ([] : List Value).toArray) (h : Q (.bool ys.isEmpty) s) :
    wpAny (model prog w) A (compareOp .Eq (.ref a) (.ref b)) Q E s := by
  refine cmp_ofEq ?_
  cases ys with
  | nil => exact SeqAt.RcAt.lists (e := fun _ => true) ha hb rfl hu (fun j h1 _ => absurd h1 (by simp)) prog w E Q (by simpa using h)
  | cons y r => exact SeqAt.RcAt.lists_lengths ha hb (by simp) hu prog w E Q (by simpa using h)

/-- names in a comprehension's block -/
theorem cnL {x : Str} {pos : Pos} {M : Model} {scope : Scope} {cl : List (Str × Addr)} {C : Addr} {m : Str → Option Value} {v : Value} {Q : Value → Shared → Prop} (hn : s.heap.Ns C m) (hv : m x = some v) (h : Q v s)
    (hl : (compEnvC scope cl C env).kindOf x = some .local := by rfl) (hk : scope.kind = .function := by rfl) (hd : (x == ("__debug__" : Str)) = false := by decide) :
    wpAny M A (eval (.Name x pos) (compEnvC scope cl C env)) Q E s := wpAny_Name (wpAny_loadName_local hk hl hn hv h) hd
theorem cnC {x : Str} {pos : Pos} {M : Model} {scope : Scope} {cl : List (Str × Addr)} {C c : Addr} {v : Value} {Q : Value → Shared → Prop} (hv : s.heap.IsCell c (some v)) (h : Q v s)
    (hc : cl.lookup x = some c := by rfl) (hl : (compEnvC scope cl C env).kindOf x = some .cell := by rfl) (hk : scope.kind = .function := by rfl) (hd : (x == ("__debug__" : Str)) = false := by decide) :
    wpAny M A (eval (.Name x pos) (compEnvC scope cl C env)) Q E s := wpAny_Name (wpAny_loadName_cell hk hl hc hv h) hd

theorem keeps_refl : Keeps s s := ⟨s.heap, s.toks, rfl, Kp.rfl⟩
theorem keeps_tok {tk : Nat} : Keeps s { s with toks := tk } := ⟨s.heap, tk, rfl, Kp.rfl⟩
end

section
variable {prog : Program} {w : World} {A : Around} {E : Value → Shared → Prop} {s : Shared} {mg mb : Str → Option Value}

theorem ready_spec {f pa ga : Addr} {pvs gvs : List Value} {sg : Str} {t : Tok} {picks gone : List Str} {Q : Value → Shared → Prop} (hA : Ar 4 A) (W : Wd prog w mg mb s.heap) (hf : mg "_law_ready" = some (.ref f))
    (hp : s.heap.IsList pa pvs.toArray) (hps : StrsAre pvs picks) (hpl : picks.length ≤ 1000) (hg : s.heap.IsList ga gvs.toArray) (hgs : StrsAre gvs gone)
    (hQ : ∀ h' tk, Kp s.heap h' → Q (.bool (readyB sg picks gone)) { s with heap := h', toks := tk }) :
    wpAny (model prog w) A (call (.ref f) [.str sg t, .ref pa, .ref ga]) Q E s := by
  obtain ⟨f', hf', fn⟩ := W.ready
  rw [hf] at hf'
  obtain rfl : f = f' := by injection hf' with q; injection q
  obtain ⟨o, pm, cd, doc, hof, hdf, hcd⟩ := fn
  refine enter hA hof hdf hcd W.nolimit rfl rfl (by decide) fun A1 L s₁ hA1 F => ?_
  clear hdf hof
  obtain ⟨m, cm, ⟨m1, m2, m3⟩, F⟩ : ∃ m cm, (m (Str.ofString "picks") = some (.ref pa) ∧ cm (Str.ofString "sign") = some (.str sg t) ∧ cm (Str.ofString "gone") = some (.ref ga)) ∧ Fm s s.heap _ m cm _ s₁ := ⟨_, _, ⟨rfl, rfl, rfl⟩, F⟩
  have hplv : pvs.length = picks.length := StrsAre.len hps
  have c1 := F.cell (Str.ofString "sign") _ rfl
  have c2 := F.cell (Str.ofString "gone") _ rfl
  rw [m2] at c1
  rw [m3] at c2
  refine wpAny_execs_cons <| wpAny_Return_some <| wpAny_Compare1 <| compExpr (blkV sg gone) (fun _ _ => True) rfl (by decide) rfl (by decide) rfl <| nmL F m1 <| compList hA1.hh (hp.at fun o e => F.keep _ _ e) (by omega) _ _ ?_ ?_ ?_
  · intro C v s₃ m₃ E' hv hn hm hk
    obtain ⟨one, u, rfl, _⟩ := StrsAre.mem hps hv
    have c1' := c1.keeps hk
    have c2' := c2.keeps hk
    refine wpAny_tests_one <| wpAny_isTrue_BoolOp <| wpAny_allTrue_And_cons <| wpAny_isTrue_Compare1 <| cnL hn hm <| cnC c1' <| PyProof.Rows.ne_str <| wpAny_truthy_bool ?_
    by_cases h1 : (one != sg) = true
    · rw [if_pos h1]
      refine wpAny_allTrue_And_cons <| wpAny_isTrue_value <| wpAny_Call_method rfl rfl rfl PySem.F.plainAttrs_str PySem.F.slot_str_startswith PySem.F.type_str_startswith <| cnC c1' ⟨typeIs_str _ _ _, (fun _ e => nomatch e), methArg1 <| cnL hn hm <| SC.startswith <| wpAny_truthy_bool ?_⟩
      by_cases h2 : Txt.startswith sg one = true
      · rw [if_pos h2]
        refine wpAny_allTrue_And_cons <| wpAny_isTrue_Compare1 <| cnL hn hm <| cnC c2' <| notin_list_strs (hg.at fun o e => (F.keep.trans hk) _ _ e) hgs <| wpAny_truthy_bool ?_
        by_cases h3 : gone.any (· == one) = true
        · rw [if_neg (by simp only [h3]; decide)]
          refine ⟨?_, keeps_refl⟩
          show false = blk sg gone one
          unfold blk; rw [h1, h2, h3]; rfl
        · rw [if_pos (by simp only [h3]; decide)]
          refine wpAny_allTrue_And_nil ⟨?_, keeps_refl⟩
          show true = blk sg gone one
          unfold blk; rw [h1, h2, Bool.not_eq_true _ |>.mp h3]; rfl
      · rw [if_neg h2]
        refine ⟨?_, keeps_refl⟩
        show false = blk sg gone one
        unfold blk; rw [h1, Bool.not_eq_true _ |>.mp h2]; rfl
    · rw [if_neg h1]
      refine ⟨?_, keeps_refl⟩
      show false = blk sg gone one
      unfold blk; rw [Bool.not_eq_true _ |>.mp h1]; rfl
  · intro C v s₃ m₃ E' hv _ hn hm hk
    exact cnL hn hm ⟨trivial, keeps_refl⟩
  · intro D ys e h' tk hk hm hR
    have F2 := F.more (tk := tk) hk hm
    refine wpAny_List <| wpAny_items_nil ⟨by size_fits, ?_⟩
    have F3 := F2.push (tk := tk) { cls := .type "list", data := .seq ([] : List Value).toArray }
    refine eqNil hA1.units (isList_of (F3.get (.tail _ (.head _)))) (isList_of (n := 0) (F3.get (.head _))) ?_
    have hlen : ys.length = (picks.filter (blk sg gone)).length := by
      rw [← Paired.len hR]
      exact filter_strs (fun _ _ => rfl) hps
    have hb : ys.isEmpty = readyB sg picks gone := by
      unfold readyB
      generalize picks.filter (blk sg gone) = z at hlen
      cases ys <;> cases z <;> first | rfl | (simp at hlen)
    rw [hb]
    exact F3.done (hQ _ _ F3.keep)
end
end Mine
end

section
open PySem PySem.W PySem.Calls PyProof.Rows
namespace Mine

theorem getPush {h : Heap} {o : Obj} {a : Addr} (e : a = h.objs.size) (hf : o.isFreed = false := by rfl) : (h.push o).get? a = some o := by rw [e]; exact Heap.get?_push_size _ hf

theorem pick_from (items : Array Value) (a : Nat) (ha : a ≤ items.size) : slicePick items (some (a : Int)) none none = (items.toList.drop a).toArray := slicePick_from items a ha

/-- an order with sg at its place i -/
def ins (sg : Str) (os : List Str) (i : Nat) : List Str := os.take i ++ [sg] ++ os.drop i

section
variable {prog : Program} {w : World} {A : Around} {E : Value → Shared → Prop} {s : Shared} {env : Env}

/-- order[:at] + [sign] + order[at:] -/
theorem elt_spec {scope : Scope} {cl : List (Str × Addr)} {C c b : Addr} {mc : Str → Option Value} {bvs : List Value} {os : List Str} {sg : Str} {ts t : Tok} {i n : Nat} {p1 p2 p3 p4 p5 p6 p7 p8 p9 p10 p11 p12 : Pos} {Q : Value → Shared → Prop}
    (hn : s.heap.Ns C mc) (hm1 : mc (Str.ofString "order") = some (.ref b)) (hm2 : mc (Str.ofString "at") = some (.int (i : Nat) t)) (hc : s.heap.IsCell c (some (.str sg ts))) (hb : s.heap.get? b = some (listOf bvs.toArray n)) (hbs : StrsAre bvs os) (hi : i ≤ os.length) (hlen : os.length ≤ 1000)
    (hQ : ∀ D ys h' tk, Kp s.heap h' → Made s.heap h' [(D, listOf ys.toArray 0)] → StrsAre ys (ins sg os i) → Q (.ref D) { s with heap := h', toks := tk })
    (hcl : cl.lookup (Str.ofString "sign") = some c := by rfl) (k1 : (compEnvC scope cl C env).kindOf (Str.ofString "order") = some .local := by rfl) (k2 : (compEnvC scope cl C env).kindOf (Str.ofString "at") = some .local := by rfl)
    (k3 : (compEnvC scope cl C env).kindOf (Str.ofString "sign") = some .cell := by rfl) (hk : scope.kind = .function := by rfl) :
    wpAny (model prog w) A (eval (.BinOp (.BinOp (.Subscript (.Name (Str.ofString "order") p1) (.Slice none (some (.Name (Str.ofString "at") p2)) none p3) p4) .Add (.List [.Name (Str.ofString "sign") p5] p6) p7) .Add
      (.Subscript (.Name (Str.ofString "order") p8) (.Slice (some (.Name (Str.ofString "at") p9)) none none p10) p11) p12) (compEnvC scope cl C env)) Q E s := by
  have hbl : bvs.length = os.length := StrsAre.len hbs
  refine wpAny_BinOp <| wpAny_BinOp <| wpAny_Subscript_list_slice <| cnL hn hm1 (hl := k1) (hk := hk) <| wpAny_evalPart_none <| wpAny_evalPart_some <| cnL hn hm2 (hl := k2) (hk := hk) ⟨b, bvs.toArray, none, some (i : Int), rfl, isList_of hb, by rw [List.size_toArray, sizeLine_eq]; omega, .none, .int _ _, ?_⟩
  rw [pick_upto]
  generalize h1 : s.heap.push { cls := .type "slice", data := .fields #[Value.none, .int (i : Nat) t, .none] } = H1
  have z1 : H1.objs.size = s.heap.objs.size + 1 := by rw [← h1, Heap.size_push]
  have kp1 : Kp s.heap H1 := by rw [← h1]; exact Kp.push _ _
  generalize h2 : H1.push { cls := .type "list", data := .seq (bvs.toArray.toList.take i).toArray } = H2
  have z2 : H2.objs.size = s.heap.objs.size + 2 := by rw [← h2, Heap.size_push, z1]
  have kp2 : Kp H1 H2 := by rw [← h2]; exact Kp.push _ _
  have g2 : H2.get? (s.heap.objs.size + 1) = some (listOf (bvs.take i).toArray 0) := by rw [← h2]; exact getPush z1.symm
  refine wpAny_List <| wpAny_items_cons <| cnC ((hc.keeps kp1).keeps kp2) (hc := hcl) (hl := k3) (hk := hk) <| wpAny_items_nil ⟨by size_fits, ?_⟩
  dsimp only
  generalize h3 : H2.push { cls := .type "list", data := .seq [Value.str sg ts].toArray } = H3
  have z3 : H3.objs.size = s.heap.objs.size + 3 := by rw [← h3, Heap.size_push, z2]
  have kp3 : Kp H2 H3 := by rw [← h3]; exact Kp.push _ _
  have g3 : H3.get? H2.objs.size = some (listOf [Value.str sg ts].toArray 0) := by rw [← h3]; exact getPush rfl
  refine PySem.P.add_list (kp3 _ _ g2) g3 ?_ (by rw [sizeLine_eq]; simp; omega)
  dsimp only
  generalize h4 : H3.push { cls := .type "list", data := .seq ((bvs.take i).toArray ++ [Value.str sg ts].toArray) } = H4
  have z4 : H4.objs.size = s.heap.objs.size + 4 := by rw [← h4, Heap.size_push, z3]
  have kp4 : Kp H3 H4 := by rw [← h4]; exact Kp.push _ _
  have g4 : H4.get? H3.objs.size = some (listOf (bvs.take i ++ [Value.str sg ts]).toArray 0) := by rw [← h4, getPush rfl]; simp
  have kps : Kp s.heap H4 := kp1.trans (kp2.trans (kp3.trans kp4))
  refine wpAny_Subscript_list_slice <| cnL (hn.keeps kps) hm1 (hl := k1) (hk := hk) <| wpAny_evalPart_some <| cnL (hn.keeps kps) hm2 (hl := k2) (hk := hk) <| wpAny_evalPart_none ⟨b, bvs.toArray, some (i : Int), none, rfl, isList_of (kps _ _ hb), by rw [List.size_toArray, sizeLine_eq]; omega, .int _ _, .none, ?_⟩
  rw [pick_from _ _ (by simp; omega)]
  dsimp only
  generalize h5 : H4.push { cls := .type "slice", data := .fields #[.int (i : Nat) t, Value.none, .none] } = H5
  have z5 : H5.objs.size = H4.objs.size + 1 := by rw [← h5, Heap.size_push]
  have kp5 : Kp H4 H5 := by rw [← h5]; exact Kp.push _ _
  generalize h6 : H5.push { cls := .type "list", data := .seq (bvs.toArray.toList.drop i).toArray } = H6
  have kp6 : Kp H5 H6 := by rw [← h6]; exact Kp.push _ _
  have z6 : H6.objs.size = s.heap.objs.size + 6 := by rw [← h6, Heap.size_push, z5, z4]
  have g6 : H6.get? (H4.objs.size + 1) = some (listOf (bvs.drop i).toArray 0) := by rw [← h6]; exact getPush z5.symm
  refine PySem.P.add_list ((kp5.trans kp6) _ _ g4) g6 ?_ (by rw [sizeLine_eq]; simp; omega)
  dsimp only
  have kpe : Kp s.heap (H6.push { cls := .type "list", data := .seq ((bvs.take i ++ [Value.str sg ts]).toArray ++ (bvs.drop i).toArray) }) := kps.trans (kp5.trans (kp6.trans (Kp.push _ _)))
  refine hQ H6.objs.size (bvs.take i ++ [Value.str sg ts] ++ bvs.drop i) _ _ kpe ⟨fun p hp => ?_, by simp⟩ ?_
  · rw [List.mem_singleton.mp hp]
    refine ⟨by rw [getPush rfl]; simp, Heap.get?_none_of_le (by omega)⟩
  · exact StrsAre.app (StrsAre.app (StrsAre.take hbs i) (.cons sg ts .nil)) (StrsAre.drop hbs i)
end
end Mine
end

section
open PySem PySem.W PySem.Calls PyProof.Rows
namespace Mine

/-- a block's own names alone -/
def bareEnv (C : Addr) : Env := { (default : Env) with locals := C, cells := [] }

/-- lists of texts, as values -/
inductive OL (Has : Addr → Obj → Prop) : List Value → List (List Str) → Prop
  | nil : OL Has [] []
  | cons {vs : List Value} {oss : List (List Str)} (b : Addr) (bvs : List Value) (n : Nat) (os : List Str) (h : Has b (listOf bvs.toArray n)) (hs : StrsAre bvs os) (r : OL Has vs oss) : OL Has (.ref b :: vs) (os :: oss)
theorem OL.mono {Has Has' : Addr → Obj → Prop} (k : ∀ b o, Has b o → Has' b o) : ∀ {vs : List Value} {oss : List (List Str)}, OL Has vs oss → OL Has' vs oss
  | _, _, .nil => .nil
  | _, _, .cons b bvs n os h hs r => .cons b bvs n os (k _ _ h) hs (OL.mono k r)
theorem OL.app {Has : Addr → Obj → Prop} : ∀ {vs vs' : List Value} {oss oss' : List (List Str)}, OL Has vs oss → OL Has vs' oss' → OL Has (vs ++ vs') (oss ++ oss')
  | _, _, _, _, .nil, y => y
  | _, _, _, _, .cons b bvs n os h hs r, y => .cons b bvs n os h hs (OL.app r y)
theorem OL.len {Has : Addr → Obj → Prop} : ∀ {vs : List Value} {oss : List (List Str)}, OL Has vs oss → vs.length = oss.length
  | _, _, .nil => rfl
  | _, _, .cons _ _ _ _ _ _ r => by simp [OL.len r]
theorem OL.get {Has : Addr → Obj → Prop} : ∀ {vs : List Value} {oss : List (List Str)}, OL Has vs oss → ∀ {i : Nat} {os : List Str}, oss[i]? = some os → ∃ b bvs n, vs[i]? = some (.ref b) ∧ Has b (listOf bvs.toArray n) ∧ StrsAre bvs os
  | _, _, .cons b bvs n os h hs r, 0, _, e => by simp at e; subst e; exact ⟨b, bvs, n, rfl, h, hs⟩
  | _, _, .cons _ _ _ _ _ _ r, i + 1, _, e => by simpa using OL.get r (by simpa using e)

section
variable {prog : Program} {w : World} {A : Around} {R : Result → Shared → Prop} {s₀ s : Shared} {h₀ : Heap} {env : Env} {m cm : Str → Option Value} {news : List (Addr × Obj)}

/-- a name of the block is stored -/
theorem cst {M : Model} {E : Value → Shared → Prop} {scope : Scope} {cl : List (Str × Addr)} {C : Addr} {x : Str} {v : Value} {Q : Unit → Shared → Prop} (F : Fm s₀ h₀ (bareEnv C) m cm news s) (h : ∀ s', Fm s₀ h₀ (bareEnv C) (upM x v m) cm news s' → Q () s')
    (hl : (compEnvC scope cl C env).kindOf x = some .local := by rfl) (hk : scope.kind = .function := by rfl) : wpAny M A (storeName (compEnvC scope cl C env) x v) Q E s := by
  refine wpAny_storeName_local hl (show s.heap.Ns C m from F.ns) (fun h' hn hs => h _ ⟨F.same' _ _, hn, fun b o e => ?_, F.fresh, (fun _ _ e => nomatch e), F.apart, F.cfresh, F.look, fun p hp => ?_, F.nd⟩) (by simp [compEnvC, relabel, hk])
  · exact hs.extBut b o (fun q => by have h1 : h₀.get? C = none := F.fresh; have h2 : h₀.get? C = some o := (show b = C from q) ▸ e; rw [h1] at h2; cases h2) (F.keep b o e)
  · exact ⟨hs.extBut _ _ (F.nws p hp).2.1 (F.nws p hp).1, (F.nws p hp).2⟩

theorem compTurn_n0 (elt i0 i1 : Expr) (x0 x1 : Str) (p0 p1 : Pos) (scope : Scope) (pos : Pos) (it acc : Value) (env : Env) :
    compTurn (.ListComp elt [⟨.Name x0 p0, i0, [], 0⟩, ⟨.Name x1 p1, i1, [], 0⟩] scope pos) 0 it acc env = (standAt i0.pos >>= fun _ => pyNext it >>= fun r => match r with
      | none => pure (.done .next)
      | some v => letOwnedTupleGo (.Name x0 p0) it v >>= fun _ => assign (.Name x0 p0) env v >>= fun _ =>
        eval i1 env >>= fun x => standAt i1.pos >>= fun _ => foldedSetIterable i1 env x >>= fun x => holding [x] (pyIter x) >>= fun it' =>
          runOwn (.compStart (.ListComp elt [⟨.Name x0 p0, i0, [], 0⟩, ⟨.Name x1 p1, i1, [], 0⟩] scope pos) 1 it' acc env) env >>= fun _ =>
          again (.compLoop (.ListComp elt [⟨.Name x0 p0, i0, [], 0⟩, ⟨.Name x1 p1, i1, [], 0⟩] scope pos) 0 it acc env)) := by rfl

theorem compTurn_n1 (elt i0 i1 : Expr) (x0 x1 : Str) (p0 p1 : Pos) (scope : Scope) (pos : Pos) (it acc : Value) (env : Env) :
    compTurn (.ListComp elt [⟨.Name x0 p0, i0, [], 0⟩, ⟨.Name x1 p1, i1, [], 0⟩] scope pos) 1 it acc env = (standAt i1.pos >>= fun _ => pyNext it >>= fun r => match r with
      | none => pure (.done .next)
      | some v => letOwnedTupleGo (.Name x1 p1) it v >>= fun _ => assign (.Name x1 p1) env v >>= fun _ =>
        (eval elt env >>= fun x => call (.builtin "list.append") [acc, x] >>= fun _ => pure ()) >>= fun _ =>
          again (.compLoop (.ListComp elt [⟨.Name x0 p0, i0, [], 0⟩, ⟨.Name x1 p1, i1, [], 0⟩] scope pos) 1 it acc env)) := by rfl

theorem codeAny_compStart1 {elt i0 i1 : Expr} {x0 x1 : Str} {p0 p1 : Pos} {scope : Scope} {pos : Pos} {it acc : Value} {env : Env}
    (h0 : codeAny (model prog w) A (.compLoop (.ListComp elt [⟨.Name x0 p0, i0, [], 0⟩, ⟨.Name x1 p1, i1, [], 0⟩] scope pos) 1 it acc env) R s)
    (h : wpAny (model prog w) A (pyIter it) (fun it' s' => codeAny (model prog w) A (.compLoop (.ListComp elt [⟨.Name x0 p0, i0, [], 0⟩, ⟨.Name x1 p1, i1, [], 0⟩] scope pos) 1 it' acc env) R s')
      (notedBy (model prog w) A env fun x s' => R (.error x) s') s) :
    codeAny (model prog w) A (.compStart (.ListComp elt [⟨.Name x0 p0, i0, [], 0⟩, ⟨.Name x1 p1, i1, [], 0⟩] scope pos) 1 it acc env) R s := by
  refine codeAny_of_tree ?_
  show wpAny _ _ ((compStart (.ListComp elt [⟨.Name x0 p0, i0, [], 0⟩, ⟨.Name x1 p1, i1, [], 0⟩] scope pos) 1 it acc env).onRaise (fun x => do noteFrame x env; standAt theWindowsPlace)) _ _ s
  refine wpAny_notedAt ?_
  unfold compStart
  show wpAny _ _ (ask >>= _) _ _ s
  refine wpAny_bind (wpAny_askSetting (wpAny_ite ?_))
  split
  · first
      | exact wpAny_bind (wpAny_pure (wpAny_pure (And.intro rfl h0)))
      | exact wpAny_pure (And.intro rfl h0)
  · first
      | exact wpAny_bind (wpAny_rule (wpAny_bind (wpAny_standAt (wpAny_bind (wpAny_mono h (fun it' s' h' => wpAny_pure (And.intro rfl h')) fun _ _ x => x)))))
      | (refine wpAny_bind (wpAny_rule ?_); show wpAny _ _ (standAt i1.pos >>= _) _ _ s; exact wpAny_bind (wpAny_standAt (wpAny_bind (wpAny_mono h (fun it' s' h' => wpAny_pure (And.intro rfl h')) fun _ _ x => x))))
end
end Mine
end

section
open PySem PySem.W PySem.Calls PyProof.Rows
namespace Mine

abbrev rio (n j : Nat) : Obj := { cls := .type "range_iterator", dict := none, data := .fields #[rawInt (0 + (j : Nat) * 1), rawInt ((n : Int) - (j : Nat)), rawInt 1], slots := #[] }

section
variable {prog : Program} {w : World} {A : Around} {R : Result → Shared → Prop} {s₀ s : Shared} {h₀ : Heap} {env : Env} {m cm : Str → Option Value}

theorem inner {elt i0 i1 : Expr} {x0 x1 : Str} {p0 p1 : Pos} {scope : Scope} {cl : List (Str × Addr)} {pos : Pos} {C D I1 b : Addr} {n e : Nat} {acc : List Value} {pre : List (List Str)} {imm : List (Addr × Obj)} {sg : Str} {os : List Str}
    (hh : A.handled = none) (F : Fm s₀ h₀ (bareEnv C) m cm ((I1, rio n 0) :: (D, listOf acc.toArray e) :: imm) s) (hm : m x0 = some (.ref b)) (hacc : OL (fun b o => (b, o) ∈ imm) acc pre) (hlen : acc.length + n ≤ 10000)
    (helt : ∀ (E' : Value → Shared → Prop) (Q : Value → Shared → Prop) j tj m s', j < n → m x1 = some (.int (j : Nat) tj) → m x0 = some (.ref b) → s'.heap.Ns C m → Kp h₀ s'.heap →
      (∀ D ys h' tk, Kp s'.heap h' → Made s'.heap h' [(D, listOf ys.toArray 0)] → StrsAre ys (ins sg os j) → Q (.ref D) { s' with heap := h', toks := tk }) → wpAny (model prog w) A (eval elt (compEnvC scope cl C env)) Q E' s')
    (hR : ∀ s' acc' e' tl m', Fm s₀ h₀ (bareEnv C) m' cm ((D, listOf acc'.toArray e') :: (tl ++ imm)) s' → OL (fun b o => (b, o) ∈ tl ++ imm) acc' (pre ++ (List.range n).map (ins sg os)) → R (.ok .next) s')
    (hx : (compEnvC scope cl C env).kindOf x1 = some .local := by rfl) (hk : scope.kind = .function := by rfl) (hne : x0 ≠ x1 := by decide) :
    codeAny (model prog w) A (.compLoop (.ListComp elt [⟨.Name x0 p0, i0, [], 0⟩, ⟨.Name x1 p1, i1, [], 0⟩] scope pos) 1 (.ref I1) (.ref D) (compEnvC scope cl C env)) R s := by
  have W := Walks.range (prog := prog) (w := w) (A := A) hh I1 0 1 n
  refine codeAny_loop rfl (fun k s => ∃ j acc e tl m, k = n - j ∧ j ≤ n ∧ acc.length + (n - j) ≤ 10000 ∧ m x0 = some (.ref b) ∧ OL (fun b o => (b, o) ∈ tl ++ imm) acc (pre ++ (List.range j).map (ins sg os)) ∧ Fm s₀ h₀ (bareEnv C) m cm ((I1, rio n j) :: (D, listOf acc.toArray e) :: (tl ++ imm)) s)
    (fun k s hI => ?_) (n - 0) ⟨0, acc, e, [], m, rfl, Nat.zero_le _, by simpa using hlen, hm, by simpa using hacc, F⟩
  clear hm hacc hlen F
  obtain ⟨j, acc, e, tl, m, rfl, hj, hlen, hm, hacc, F⟩ := hI
  show wpAny _ _ ((compTurn (.ListComp elt [⟨.Name x0 p0, i0, [], 0⟩, ⟨.Name x1 p1, i1, [], 0⟩] scope pos) 1 (.ref I1) (.ref D) (compEnvC scope cl C env)).onRaise (fun x => do noteFrame x (compEnvC scope cl C env); theTreesLotGoes x)) _ _ s
  refine wpAny_noted ?_
  rw [compTurn_n1]
  refine wpAny_bind (wpAny_standAt (wpAny_bind ?_))
  rcases Nat.lt_or_ge j n with hlt | hge
  · refine W.item j s _ _ hlt (F.get (.head _)) fun v h' tk hP hst hk' => ?_
    obtain ⟨t, rfl⟩ := hP
    have F1 : Fm s₀ h₀ (bareEnv C) m cm ((I1, rio n (j + 1)) :: (D, listOf acc.toArray e) :: (tl ++ imm)) { s with heap := h', toks := tk } := Fm.upd (pre := []) F (fun b x hb e => hk' b x (fun q => hb (List.mem_singleton.mp q)) e) hst
    refine wpAny_bind (wpAny_of_eq (a := ()) rfl ?_)
    rw [show (0 : Int) + (j : Nat) * 1 = (j : Nat) by omega]
    refine wpAny_bind (wpAny_assign_Name (cst F1 (fun s2 F2 => ?_) hx hk))
    refine wpAny_bind (wpAny_bind (helt _ _ j t _ s2 hlt (by simp [upM]) (by simp only [upM, if_neg hne]; exact hm) F2.ns F2.keep fun D' ys h3 tk3 kp3 md3 hys => ?_))
    have F3 := F2.more (tk := tk3) kp3 md3
    refine wpAny_bind (apCall (pre := [_, _]) (F3.perm (news' := [(I1, rio n (j + 1))] ++ [(D', listOf ys.toArray 0)] ++ (D, listOf acc.toArray e) :: (tl ++ imm)) (List.Perm.swap _ _ _)) (by omega) fun s4 F4 => ?_)
    refine wpAny_pure (wpAny_pure ⟨rfl, n - (j + 1), by omega, j + 1, acc ++ [.ref D'], e + 1, (D', listOf ys.toArray 0) :: tl, _, rfl, hlt, by simp; omega, by simp only [upM, if_neg hne]; exact hm, ?_, F4.perm (.cons _ (List.Perm.swap _ _ _))⟩)
    rw [List.range_succ, List.map_append, ← List.append_assoc]
    exact OL.app (hacc.mono fun b o h => .tail _ h) (.cons D' ys 0 _ (.head _) hys .nil)
  · have hjn : j = n := Nat.le_antisymm hj hge
    subst hjn
    refine W.done s _ _ (F.get (.head _)) fun h' tk hk' => ?_
    exact wpAny_pure (hR _ acc e tl m (F.lose fun b x hb e => hk' b x (fun q => hb (List.mem_singleton.mp q)) e) hacc)
end
end Mine
end

section
open PySem PySem.W PySem.Calls PyProof.Rows
namespace Mine

theorem OL.mono2 {Has Has' : Addr → Obj → Prop} (k : ∀ b bvs n, Has b (listOf bvs n) → Has' b (listOf bvs n)) : ∀ {vs : List Value} {oss : List (List Str)}, OL Has vs oss → OL Has' vs oss
  | _, _, .nil => .nil
  | _, _, .cons b bvs n os h hs r => .cons b bvs n os (k _ _ _ h) hs (OL.mono2 k r)

/-- all places for sg in an order -/
def insAll (sg : Str) (os : List Str) : List (List Str) := (List.range (os.length + 1)).map (ins sg os)

section
variable {prog : Program} {w : World} {A : Around} {R : Result → Shared → Prop} {s₀ s : Shared} {h₀ : Heap} {env : Env} {m cm mg mb : Str → Option Value}

theorem outer {elt i0 i1 : Expr} {x0 x1 : Str} {p0 p1 : Pos} {scope : Scope} {cl : List (Str × Addr)} {pos : Pos} {C D I0 oa : Addr} {io : Obj} {ovs : List Value} {oss : List (List Str)} {sg : Str}
    (hh : A.handled = none) (F : Fm s₀ h₀ (bareEnv C) m cm ((D, listOf ([] : List Value).toArray 0) :: [(I0, io)]) s) (hio : ItAt io oa 0) (hoa : h₀.IsList oa ovs.toArray) (hol : OL (fun b o => h₀.get? b = some o) ovs oss)
    (hlen : ((oss.flatMap (insAll sg)).length) ≤ 5000) (hos : ∀ os ∈ oss, os.length ≤ 1000)
    (hi1 : ∀ (E' : Value → Shared → Prop) (Q : Value → Shared → Prop) b bvs n os m s', m x0 = some (.ref b) → s'.heap.Ns C m → Kp h₀ s'.heap → h₀.get? b = some (listOf bvs.toArray n) → StrsAre bvs os → os.length ≤ 1000 →
      (∀ r h' tk t u, Kp s'.heap h' → IsRange h' r 0 (os.length + 1 : Nat) 1 t tk u → s'.heap.get? r = none → ∀ tk', Q (.ref r) { s' with heap := h', toks := tk' }) → wpAny (model prog w) A (eval i1 (compEnvC scope cl C env)) Q E' s')
    (helt : ∀ (E' : Value → Shared → Prop) (Q : Value → Shared → Prop) b bvs n os j tj m s', j ≤ os.length → m x1 = some (.int (j : Nat) tj) → m x0 = some (.ref b) → s'.heap.Ns C m → Kp h₀ s'.heap → h₀.get? b = some (listOf bvs.toArray n) → StrsAre bvs os → os.length ≤ 1000 →
      (∀ D ys h' tk, Kp s'.heap h' → Made s'.heap h' [(D, listOf ys.toArray 0)] → StrsAre ys (ins sg os j) → Q (.ref D) { s' with heap := h', toks := tk }) → wpAny (model prog w) A (eval elt (compEnvC scope cl C env)) Q E' s')
    (hR : ∀ s' acc e tl m', Fm s₀ h₀ (bareEnv C) m' cm ((D, listOf acc.toArray e) :: tl) s' → OL (fun b o => (b, o) ∈ tl) acc (oss.flatMap (insAll sg)) → R (.ok .next) s')
    (hf : ∀ x, foldedSetIterable i1 (compEnvC scope cl C env) x = pure x := by intro _; rfl)
    (hx0 : (compEnvC scope cl C env).kindOf x0 = some .local := by rfl) (hx : (compEnvC scope cl C env).kindOf x1 = some .local := by rfl) (hk : scope.kind = .function := by rfl) (hne : x0 ≠ x1 := by decide) :
    codeAny (model prog w) A (.compLoop (.ListComp elt [⟨.Name x0 p0, i0, [], 0⟩, ⟨.Name x1 p1, i1, [], 0⟩] scope pos) 0 (.ref I0) (.ref D) (compEnvC scope cl C env)) R s := by
  have hovl : ovs.length = oss.length := OL.len hol
  refine codeAny_loop rfl (fun k s => ∃ j acc e tl m io, k = oss.length - j ∧ j ≤ oss.length ∧ ItAt io oa j ∧ OL (fun b o => (b, o) ∈ tl) acc ((oss.take j).flatMap (insAll sg)) ∧ Fm s₀ h₀ (bareEnv C) m cm ((D, listOf acc.toArray e) :: (tl ++ [(I0, io)])) s)
    (fun k s hI => ?_) (oss.length - 0) ⟨0, [], 0, [], m, io, rfl, Nat.zero_le _, hio, .nil, F⟩
  clear F hio
  obtain ⟨j, acc, e, tl, m, io, rfl, hj, hio, hacc, F⟩ := hI
  show wpAny _ _ ((compTurn (.ListComp elt [⟨.Name x0 p0, i0, [], 0⟩, ⟨.Name x1 p1, i1, [], 0⟩] scope pos) 0 (.ref I0) (.ref D) (compEnvC scope cl C env)).onRaise (fun x => do noteFrame x (compEnvC scope cl C env); theTreesLotGoes x)) _ _ s
  refine wpAny_noted ?_
  rw [compTurn_n0]
  refine wpAny_bind (wpAny_standAt (wpAny_bind ?_))
  have hits : s.heap.IsListIter I0 oa j := ⟨io, F.get (.tail _ (List.mem_append_right _ (.head _))), hio.1, hio.2⟩
  have hls : s.heap.IsList oa ovs.toArray := hoa.at fun o e => F.keep _ _ e
  rcases Nat.lt_or_ge j oss.length with hlt | hge
  · obtain ⟨b, bvs, nb, hv, hb, hbs⟩ := hol.get (i := j) (os := oss[j]) (List.getElem?_eq_getElem hlt)
    have hosl := hos _ (List.getElem_mem hlt)
    generalize hosj : oss[j] = os at *
    refine wpAny_pyNext_list_item hits hls (x := .ref b) (by simpa using hv) fun h' hit' hsb => ?_
    obtain ⟨io', hio', hc', hd'⟩ := hit'
    have F1 : Fm s₀ h₀ (bareEnv C) m cm ((D, listOf acc.toArray e) :: (tl ++ [(I0, io')])) { s with heap := h' } := Fm.upd (pre := (D, listOf acc.toArray e) :: tl) (tk := s.toks) F (fun b x hb e => hsb.extBut b x hb e) hio'
    refine wpAny_bind (wpAny_of_eq (a := ()) rfl ?_)
    refine wpAny_bind (wpAny_assign_Name (cst F1 (fun s2 F2 => ?_) hx0 hk))
    refine wpAny_bind (hi1 _ _ b bvs nb os _ s2 (by simp [upM]) F2.ns F2.keep hb hbs hosl fun r h3 tk3 t3 u3 kp3 hr hrn tk4 => ?_)
    have F3 := F2.keeps (tk := tk4) kp3
    refine wpAny_bind (wpAny_standAt (wpAny_bind (wpAny_of_eq (hf _) (wpAny_bind (wpAny_holding ?_)))))
    refine wpAny_pyIter_range hr (small_one (by decide) (by decide) (by omega) (by omega)) ?_
    have hrs : Builtin.Range.rangeSize 0 ((os.length + 1 : Nat) : Int) 1 = ((os.length + 1 : Nat) : Int) := by rw [rangeSize_one]; split <;> omega
    have eo : ({ cls := .type "range_iterator", data := .fields #[rawInt 0, rawInt (Builtin.Range.rangeSize 0 ((os.length + 1 : Nat) : Int) 1), rawInt 1] } : Obj) = rio (os.length + 1) 0 := by
      rw [hrs]; simp [rio]
    rw [eo]
    have F4 := F3.push (tk := tk4) (rio (os.length + 1) 0)
    show wpAny _ _ (runOwn _ _ >>= _) _ _ _
    refine wpAny_bind (wpAny_runOwn ?_)
    have hfl : ((oss.take (j + 1)).flatMap (insAll sg)) = (oss.take j).flatMap (insAll sg) ++ insAll sg os := by
      rw [List.take_add_one, List.getElem?_eq_getElem hlt, hosj]; simp
    have hbound : acc.length + (os.length + 1) ≤ 10000 := by
      have h1 : acc.length = ((oss.take j).flatMap (insAll sg)).length := OL.len hacc
      have h2 : ((oss.take (j + 1)).flatMap (insAll sg)).length ≤ (oss.flatMap (insAll sg)).length := by
        conv => rhs; rw [← List.take_append_drop (j + 1) oss, List.flatMap_append, List.length_append]
        omega
      rw [hfl, List.length_append] at h2
      have h3 : (insAll sg os).length = os.length + 1 := by simp [insAll]
      omega
    show codeAny (model prog w) A _ _ _
    refine (fun (H : codeAny (model prog w) A (.compLoop _ 1 _ _ _) _ _) => codeAny_compStart1 H (wpAny_pyIter_rangeiter (F4.get (.head _)) H)) ?_
    refine inner (b := b) (sg := sg) (os := os) hh F4 (by simp [upM]) (hacc.mono fun b o h => List.mem_append_left _ h) hbound ?_ ?_ hx hk hne
    · intro E' Q j' tj m s' hj' h1 h2 h3 h4 h5
      exact helt E' Q b bvs nb os j' tj m s' (by omega) h1 h2 h3 h4 hb hbs hosl h5
    · intro s' acc' e' tl' m' F' hacc'
      refine wpAny_pure ⟨rfl, oss.length - (j + 1), by omega, j + 1, acc', e', tl' ++ tl, m', io', rfl, hlt, ⟨hc', hd'⟩, ?_, ?_⟩
      · rw [hfl]
        refine hacc'.mono2 fun b bvs n h => ?_
        rcases List.mem_append.mp h with q | q
        · exact List.mem_append_left _ q
        · rcases List.mem_append.mp q with q | q
          · exact List.mem_append_right _ q
          · have e1 := List.mem_singleton.mp q
            have e2 : listOf bvs n = io' := congrArg Prod.snd e1
            rw [← e2] at hc'
            exact absurd (show Value.type "list" = Value.type "list_iterator" from hc') (by decide)
      · rw [List.append_assoc]; exact F'
  · have hjn : j = oss.length := Nat.le_antisymm hj hge
    subst hjn
    refine wpAny_pyNext_list_end hh hits hls (by simp [hovl]) fun h' hext => ?_
    refine wpAny_pure (hR _ acc e tl m ?_ (by rw [List.take_length] at hacc; exact hacc))
    have F' := F.perm (news' := (I0, io) :: (D, listOf acc.toArray e) :: tl) (by
      refine .trans ?_ (List.perm_append_comm (l₁ := [(I0, io)]) (l₂ := (D, listOf acc.toArray e) :: tl))
      exact .refl _)
    exact F'.lose (tk := s.toks) fun b x hb e => hext b x hb e
end
end Mine
end

section
open PySem PySem.W PySem.Calls PyProof.Rows
namespace Mine

section
variable {prog : Program} {w : World} {A : Around} {E : Value → Shared → Prop} {s₀ s : Shared} {h₀ : Heap} {env : Env} {m cm mg mb : Str → Option Value} {news : List (Addr × Obj)}

theorem asgComp2 {elt i1 : Expr} {x0 x1 y : Str} {p0 p1 py pi : Pos} {scope : Scope} {cl : List (Str × Addr)} {pos spos : Pos} {oa : Addr} {ovs : List Value} {oss : List (List Str)} {sg : Str} {Q : Flow → Shared → Prop}
    (hh : A.handled = none) (F : Fm s₀ h₀ env m cm news s) (hm : m y = some (.ref oa)) (hoa : s.heap.IsList oa ovs.toArray) (hol : OL (fun b o => s.heap.get? b = some o) ovs oss)
    (hlen : ((oss.flatMap (insAll sg)).length) ≤ 5000) (hos : ∀ os ∈ oss, os.length ≤ 1000)
    (hi1 : ∀ C (E' : Value → Shared → Prop) (Q : Value → Shared → Prop) b bvs n os m s', m x0 = some (.ref b) → s'.heap.Ns C m → Kp s.heap s'.heap → s.heap.get? b = some (listOf bvs.toArray n) → StrsAre bvs os → os.length ≤ 1000 →
      (∀ r h' tk t u, Kp s'.heap h' → IsRange h' r 0 (os.length + 1 : Nat) 1 t tk u → s'.heap.get? r = none → ∀ tk', Q (.ref r) { s' with heap := h', toks := tk' }) → wpAny (model prog w) A (eval i1 (compEnvC scope cl C env)) Q E' s')
    (helt : ∀ C (E' : Value → Shared → Prop) (Q : Value → Shared → Prop) b bvs n os j tj m s', j ≤ os.length → m x1 = some (.int (j : Nat) tj) → m x0 = some (.ref b) → s'.heap.Ns C m → Kp s.heap s'.heap → s.heap.get? b = some (listOf bvs.toArray n) → StrsAre bvs os → os.length ≤ 1000 →
      (∀ D ys h' tk, Kp s'.heap h' → Made s'.heap h' [(D, listOf ys.toArray 0)] → StrsAre ys (ins sg os j) → Q (.ref D) { s' with heap := h', toks := tk }) → wpAny (model prog w) A (eval elt (compEnvC scope cl C env)) Q E' s')
    (hQ : ∀ s' D acc e tl, Fm s₀ h₀ env (upM y (.ref D) m) cm ((D, listOf acc.toArray e) :: (tl ++ news)) s' → OL (fun b o => (b, o) ∈ tl) acc (oss.flatMap (insAll sg)) → Q .next s')
    (hsw : swapsWith (.ListComp elt [⟨.Name x0 p0, .Name y pi, [], 0⟩, ⟨.Name x1 p1, i1, [], 0⟩] scope pos) (some (.Name y py)) spos.line env = pure true := by rfl)
    (hclos : closureFor scope env = pure cl := by rfl) (hcell : ∀ z ∈ scope.names, z.2 ≠ .cell := by decide) (hkind : scope.kind = .function := by rfl)
    (hnames : ∀ z ∈ scope.names, z.2 = .local → scope.names.lookup z.1 = some .local := by decide)
    (hy : env.kindOf y = some .local := by rfl) (hk : env.scope.kind = .function := by rfl)
    (hf : ∀ C x, foldedSetIterable i1 (compEnvC scope cl C env) x = pure x := by intro _ _; rfl) (hf0 : ∀ x, foldedSetIterable (.Name y pi) env x = pure x := by intro _; rfl)
    (hx0 : ∀ C, (compEnvC scope cl C env).kindOf x0 = some .local := by intro _; rfl) (hx : ∀ C, (compEnvC scope cl C env).kindOf x1 = some .local := by intro _; rfl) (hne : x0 ≠ x1 := by decide) (hyd : (y == ("__debug__" : Str)) = false := by decide) :
    wpAny (model prog w) A (exec (.Assign [.Name y py] (.ListComp elt [⟨.Name x0 p0, .Name y pi, [], 0⟩, ⟨.Name x1 p1, i1, [], 0⟩] scope pos) spos) env) Q E s := by
  rw [exec_Assign_Name_used _ _ _ _ hsw]
  refine wpAny_bind (wpAny_standAt (wpAny_bind ?_))
  show wpAny _ A (do let _ ← comprehension (.ListComp elt [⟨.Name x0 p0, .Name y pi, [], 0⟩, ⟨.Name x1 p1, i1, [], 0⟩] scope pos) scope env _ (newList []) false (eval (.Name y pi) env) (some (assign (.Name y py) env))) _ _ s
  refine wpAny_bind (wpAny_mono (wpAny_comprehension_free (use := some (assign (.Name y py) env)) (Q := fun _ s' => Q .next s') rfl hf0 hclos hkind hnames (nmL F hm ?_ hy hk hyd)) (fun _ s' hq => wpAny_pure (wpAny_pure hq)) fun _ _ e => e)
  refine wpAny_pyIter_list hoa ?_
  refine wpAny_newObj_type (wpAny_newFunctionEnv hcell (by intro y hy; simp at hy) (fun h₁ hns₁ hsb₁ => ?_) hkind)
  dsimp only at hns₁ hsb₁ ⊢
  generalize hH1 : s.heap.push { cls := .type "list_iterator", data := .fields #[.ref oa, .int 0 0] } = H1 at hns₁ hsb₁ ⊢
  generalize hH2 : H1.push { cls := .type "list", dict := none, data := .seq ([] : List Value).toArray } = H2 at hns₁ hsb₁ ⊢
  have z1 : H1.objs.size = s.heap.objs.size + 1 := by rw [← hH1, Heap.size_push]
  have z2 : H2.objs.size = s.heap.objs.size + 2 := by rw [← hH2, Heap.size_push, z1]
  have kp1 : Kp s.heap H1 := by rw [← hH1]; exact Kp.push _ _
  have kp2 : Kp H1 H2 := by rw [← hH2]; exact Kp.push _ _
  have kpC : Kp H2 h₁ := fun b o e => hsb₁.extBut b o (Nat.ne_of_lt (Heap.lt_size e)) (Heap.get?_push_of_some _ e)
  have gI : h₁.get? s.heap.objs.size = some { cls := .type "list_iterator", data := .fields #[.ref oa, .int 0 0] } := kpC _ _ (kp2 _ _ (by rw [← hH1]; exact getPush rfl))
  have gD : h₁.get? H1.objs.size = some (listOf ([] : List Value).toArray 0) := kpC _ _ (by rw [← hH2]; exact getPush rfl)
  have F0 : Fm s s.heap (bareEnv H2.objs.size) (fun x => ([] : List (Str × Value)).reverse.lookup x) (fun _ => none) ((H1.objs.size, listOf ([] : List Value).toArray 0) :: [(s.heap.objs.size, { cls := .type "list_iterator", data := .fields #[.ref oa, .int 0 0] })])
      { s with heap := h₁, toks := s.toks + ([] : List (Str × Value)).length } := by
    refine ⟨⟨_, _, rfl⟩, hns₁, kp1.trans (kp2.trans kpC), Heap.get?_none_of_le (by show s.heap.objs.size ≤ H2.objs.size; omega), (fun _ _ e => nomatch e), List.Pairwise.nil, (by intro p hp; cases hp), (by intro p hp; cases hp), fun p hp => ?_, ?_⟩
    · have hb : (bareEnv H2.objs.size).locals = H2.objs.size := rfl
      rcases List.mem_cons.mp hp with rfl | hp
      · exact ⟨gD, by rw [hb]; show H1.objs.size ≠ _; omega, (by intro q hq; cases hq), Heap.get?_none_of_le (by show _ ≤ H1.objs.size; omega)⟩
      · rw [List.mem_singleton.mp hp]
        exact ⟨gI, by rw [hb]; show s.heap.objs.size ≠ _; omega, (by intro q hq; cases hq), none_size _⟩
    · simp only [List.map_cons, List.map_nil, List.nodup_cons, List.mem_singleton, List.not_mem_nil, not_false_eq_true, List.nodup_nil, and_true]
      exact fun q => by have q' : H1.objs.size = s.heap.objs.size := q; omega
  refine (fun (H : codeAny (model prog w) A (.compLoop _ 0 (.ref s.heap.objs.size) _ (compEnvC scope cl H2.objs.size env)) _ _) => codeAny_compStart_list H (wpAny_pyIter_listiter (i := 0) (l := oa) ⟨_, gI, rfl, rfl⟩ H)) ?_
  refine outer (sg := sg) hh F0 ⟨rfl, rfl⟩ hoa hol hlen hos (hi1 _) (helt _) ?_ (hf _) (hx0 _) (hx _) hkind hne
  intro s' acc e tl m' F' hacc
  show wpAny _ A (assign (.Name y py) env (.ref H1.objs.size)) _ _ _
  obtain ⟨oC, es, ep, hC, rC⟩ := F'.ns
  have hCl : (bareEnv H2.objs.size).locals = H2.objs.size := rfl
  rw [hCl] at hC
  have M' : Made s.heap s'.heap ((H2.objs.size, oC) :: (H1.objs.size, listOf acc.toArray e) :: tl) := by
    refine ⟨fun p hp => ?_, ?_⟩
    · rcases List.mem_cons.mp hp with rfl | hp
      · exact ⟨hC, F'.fresh⟩
      · exact ⟨(F'.nws p hp).1, (F'.nws p hp).2.2.2⟩
    · rw [List.map_cons, List.nodup_cons]
      refine ⟨fun hm' => ?_, F'.nd⟩
      obtain ⟨p, hp, q⟩ := List.mem_map.mp hm'
      exact (F'.nws p hp).2.1 q
  obtain ⟨h2, tk2, e2⟩ := F'.same
  subst e2
  have G := F.more (tk := tk2) F'.keep M'
  refine wpAny_assign_Name (stL G (fun s3 G3 _ => ?_) hy hk)
  refine ⟨m', ⟨oC, es, ep, G3.get (.head _), rC⟩, fun h4 hs4 => ?_⟩
  exact hQ _ _ acc e tl (G3.lose (tk := s3.toks) fun b x hb e => hs4.extBut b x hb e) hacc
end
end Mine
end

section
open PySem PySem.W PySem.Calls PyProof.Rows
namespace Mine

/-- all orders, as the law writes them out -/
def ordersOf (ps : List Str) : List (List Str) := ps.foldl (fun oss sg => oss.flatMap (insAll sg)) [[]]
theorem ordersOf_snoc (ps : List Str) (x : Str) : ordersOf (ps ++ [x]) = (ordersOf ps).flatMap (insAll x) := by simp [ordersOf]

theorem ins_length (sg : Str) (os : List Str) (i : Nat) : (ins sg os i).length = os.length + 1 := by
  unfold ins; simp only [List.length_append, List.length_take, List.length_drop, List.length_cons, List.length_nil]; omega

theorem ordersOf_each : ∀ (n : Nat) (ps : List Str), ps.length = n → ∀ os ∈ ordersOf ps, os.length = n
  | 0, ps, h, os, hm => by
    rw [List.length_eq_zero_iff.mp h] at hm
    simp [ordersOf] at hm; rw [hm]; rfl
  | n + 1, ps, h, os, hm => by
    have hne : ps ≠ [] := fun e => by rw [e] at h; cases h
    rw [← List.dropLast_concat_getLast hne, ordersOf_snoc] at hm
    obtain ⟨o, ho, hi⟩ := List.mem_flatMap.mp hm
    obtain ⟨i, _, rfl⟩ := List.mem_map.mp hi
    rw [ins_length, ordersOf_each n ps.dropLast (by simp [h]) o ho]

theorem flat_le {x : Str} {k : Nat} : ∀ {oss : List (List Str)}, (∀ os ∈ oss, os.length + 1 ≤ k) → (oss.flatMap (insAll x)).length ≤ oss.length * k
  | [], _ => by simp
  | o :: r, h => by
    rw [List.flatMap_cons, List.length_append, List.length_cons, Nat.succ_mul]
    have h1 : (insAll x o).length = o.length + 1 := by simp [insAll]
    have h2 := h o (.head _)
    have h3 := flat_le (x := x) (fun os hm => h os (.tail _ hm))
    omega

theorem ordersOf_le : ∀ (n : Nat) (ps : List Str), ps.length = n → n ≤ 5 → (ordersOf ps).length ≤ 5 ^ n
  | 0, ps, h, _ => by rw [List.length_eq_zero_iff.mp h]; simp [ordersOf]
  | n + 1, ps, h, hn => by
    have hne : ps ≠ [] := fun e => by rw [e] at h; cases h
    have hl : ps.dropLast.length = n := by simp [h]
    rw [← List.dropLast_concat_getLast hne, ordersOf_snoc, Nat.pow_succ]
    refine Nat.le_trans (flat_le (k := 5) fun os hm => ?_) (Nat.mul_le_mul_right 5 (ordersOf_le n ps.dropLast hl (by omega)))
    have := ordersOf_each n ps.dropLast hl os hm
    omega

section
variable {prog : Program} {w : World} {A : Around} {E : Value → Shared → Prop} {s : Shared} {mg mb : Str → Option Value}

theorem orders_spec {f pa : Addr} {pvs : List Value} {picks : List Str} {Q : Value → Shared → Prop} (hA : Ar 4 A) (W : Wd prog w mg mb s.heap) (hf : mg "_law_orders" = some (.ref f))
    (hp : s.heap.IsList pa pvs.toArray) (hps : StrsAre pvs picks) (hpl : picks.length ≤ 5)
    (hQ : ∀ h' tk oa ovs n tl, Kp s.heap h' → Made s.heap h' ((oa, listOf ovs.toArray n) :: tl) → OL (fun b o => (b, o) ∈ tl) ovs (ordersOf picks) → Q (.ref oa) { s with heap := h', toks := tk }) :
    wpAny (model prog w) A (call (.ref f) [.ref pa]) Q E s := by
  obtain ⟨f', hf', fn⟩ := W.orders
  rw [hf] at hf'
  obtain rfl : f = f' := by injection hf' with q; injection q
  obtain ⟨o, pm, cd, doc, hof, hdf, hcd⟩ := fn
  refine enter hA hof hdf hcd W.nolimit rfl rfl (by decide) fun A1 L s₁ hA1 F => ?_
  clear hdf hof
  obtain ⟨m, cm, m1, F⟩ : ∃ m cm, m (Str.ofString "picks") = some (.ref pa) ∧ Fm s s.heap _ m cm _ s₁ := ⟨_, _, rfl, F⟩
  -- orders = [[]]
  refine wpAny_execs_cons <| wpAny_Assign_Name <| wpAny_List <| wpAny_items_cons <| wpAny_List <| wpAny_items_nil ⟨by size_fits, wpAny_items_nil ⟨by size_fits, ?_⟩⟩
  have F1 := (F.push (tk := s₁.toks) { cls := .type "list", data := .seq ([] : List Value).toArray }).push (tk := s₁.toks) { cls := .type "list", data := .seq [Value.ref s₁.heap.objs.size].toArray }
  refine stL F1 fun s2 F2 _ => ?_
  have hpv : pvs.length = picks.length := StrsAre.len hps
  -- the for
  let P : Flow → Shared → Prop := fun fl s' => fl = .next ∧ ∃ (m cm : Str → Option Value) (oa : Addr) (ovs : List Value) (n : Nat) (tl : List (Addr × Obj)), Fm s s.heap F.ev m cm ((oa, listOf ovs.toArray n) :: tl) s' ∧ m (Str.ofString "orders") = some (.ref oa) ∧ OL (fun b o => (b, o) ∈ tl) ovs (ordersOf picks)
  refine wpAny_execs_cons <| wpAny_mono (Q := P) ?_ ?_ fun _ _ x => x
  · refine forFm (s₀ := s) (h₀ := s.heap) (um := noM) (uc := upM (Str.ofString "sign")) hA1.hh (storeC rfl) <| nmL F2 m1 ?_
    refine ForOk.intro (items := pvs.toArray) (fun i m _ nw => ∃ oa ovs n tl, nw = (oa, listOf ovs.toArray n) :: tl ∧ m (Str.ofString "orders") = some (.ref oa) ∧ OL (fun b o => (b, o) ∈ tl) ovs (ordersOf (picks.take i))) F2 (hp.at fun o e => F2.keep _ _ e) ⟨_, _, _, _, rfl, rfl, ?_⟩ ?_ ?_ ?_
    · exact .cons _ [] 0 [] (.head _) .nil .nil
    · rintro i m cm nw s' _ F'
      exact hp.at fun o e => F'.keep _ _ e
    · rintro E' i v m cm nw s' I o hv ⟨oa, ovs, n, tl, rfl, hmo, hol⟩ F'
      have hil : i < picks.length := by
        rcases Nat.lt_or_ge i pvs.length with q | q
        · omega
        · rw [List.getElem?_toArray, List.getElem?_eq_none q] at hv; cases hv
      obtain ⟨t, ht⟩ := StrsAre.get hps (i := i) (x := picks[i]) (List.getElem?_eq_getElem hil)
      obtain rfl : v = .str picks[i] t := by rw [List.getElem?_toArray, ht] at hv; exact (Option.some.inj hv).symm
      generalize hsg : picks[i] = sg at *
      have hstep : picks.take (i + 1) = picks.take i ++ [sg] := by rw [List.take_add_one, List.getElem?_eq_getElem hil, hsg]; rfl
      have hlt : (picks.take i).length = i := by rw [List.length_take]; omega
      have heach := ordersOf_each i (picks.take i) hlt
      have hc := F'.cell (Str.ofString "sign") _ rfl
      refine wpAny_execs_cons <| asgComp2 (sg := sg) hA1.hh F' hmo (isList_of (F'.get (.tail _ (.head _)))) (hol.mono fun b o h => F'.get (.tail _ (.tail _ h))) ?_ (fun os hm => by have := heach os hm; omega) ?_ ?_ ?_
      · rw [← ordersOf_snoc]
        refine Nat.le_trans (ordersOf_le (i + 1) _ (by simp; omega) (by omega)) ?_
        exact Nat.le_trans (Nat.pow_le_pow_right (by omega) (show i + 1 ≤ 5 by omega)) (by decide)
      · intro C E' Q b bvs n os mc s4 hm0 hns hkp hb hbs hos hQ4
        have W4 : Wd prog w mg mb s4.heap := W.keeps (F'.keep.trans hkp)
        refine callTy W4 W.range <| wpAny_items_cons <| wpAny_BinOp <| callBf W4 W.len <| wpAny_items_cons <| cnL hns hm0 <| wpAny_items_nil <| call_len_list (isList_of (hkp _ _ hb)) ?_ <| wpAny_Constant_int <| add_int <| wpAny_items_nil <| call_range_1 ?_
        · rw [List.size_toArray, StrsAre.len hbs]; omega
        · have e1 : ((bvs.toArray.size : Nat) : Int) + 1 = ((os.length + 1 : Nat) : Int) := by rw [List.size_toArray, StrsAre.len hbs]; omega
          rw [e1]
          exact hQ4 _ _ _ _ _ (Kp.push _ _) (IsRange.new ..) (none_size _) _
      · intro C E' Q b bvs n os j tj mc s4 hj hm1 hm0 hns hkp hb hbs hos hQ4
        exact elt_spec hns hm0 hm1 (hc.keeps hkp) (hkp _ _ hb) hbs hj hos hQ4
      · intro s5 D acc e tl' F5 hacc
        refine wpAny_execs_nil ⟨_, _, _, (F5.drop (news' := (D, listOf acc.toArray e) :: (tl' ++ [(I, o)])) ?_).perm (List.perm_append_comm (l₁ := [(I, o)]) (l₂ := (D, listOf acc.toArray e) :: tl')), ⟨D, acc, e, tl', rfl, rfl, ?_⟩⟩
        · exact .cons_cons _ (List.Sublist.append (.refl _) (.cons_cons _ (List.nil_sublist _)))
        · rw [hstep, ordersOf_snoc]; exact hacc
    · rintro m cm nw s' ⟨oa, ovs, n, tl, rfl, hmo, hol⟩ F'
      refine ⟨rfl, m, cm, oa, ovs, n, tl, F', hmo, ?_⟩
      rw [List.size_toArray, hpv, List.take_length] at hol
      exact hol
  · rintro fl s3 ⟨rfl, m, cm, oa, ovs, n, tl, F3, hmo, hol⟩
    refine wpAny_execs_cons <| wpAny_Return_some <| nmL F3 hmo <| F3.done (hQ _ _ oa ovs n tl F3.keep ⟨fun p hp => ⟨(F3.nws p hp).1, (F3.nws p hp).2.2.2⟩, F3.nd⟩ hol)
end
end Mine
end

section
open PySem PySem.W PySem.Calls PyProof.Rows
namespace Mine

/-! the heap's order, in plain lists -/
abbrev gd (l : List Value) (i : Nat) : Value := l.getD i .none
def IsHeap (key : Value → Int) (l : List Value) : Prop := ∀ i, 0 < i → i < l.length → key (gd l ((i - 1) / 2)) ≤ key (gd l i)

theorem gd_set_self {l : List Value} {i : Nat} {v : Value} (h : i < l.length) : gd (l.set i v) i = v := getD_set_self h
theorem gd_set_ne {l : List Value} {i j : Nat} {v : Value} (h : i ≠ j) : gd (l.set i v) j = gd l j := getD_set_ne h

theorem set_swap {l : List Value} {i j : Nat} {x : Value} (hij : i ≠ j) (hi : i < l.length) (hj : j < l.length) : ((l.set i (gd l j)).set j x).Perm (l.set i x) := by
  have h1 : i < (l.set i x).toArray.size := by simpa using hi
  have h2 : j < (l.set i x).toArray.size := by simpa using hj
  have p := Array.swap_perm h1 h2
  have e : ((l.set i x).toArray.swap i j h1 h2).toList = (l.set i (gd l j)).set j x := by
    apply List.ext_getElem?
    intro k
    simp only [Array.swap_def, Array.toList_set, List.getElem_toArray, List.getElem?_set, List.length_set]
    by_cases hjk : j = k
    · subst hjk; simp [hj]
    · simp only [hjk, if_false]
      by_cases hik : i = k
      · subst hik
        simp only [if_true, hi]
        rw [List.getElem_set_ne hij]
        simp [gd, List.getD_eq_getElem?_getD, hj]
      · simp [hik]
  have q := Array.Perm.toList p
  rw [e] at q
  simpa using q

/-- all is in order but at the hole, which nw is to fill -/
structure Hole (key : Value → Int) (nw : Value) (l : List Value) (pos : Nat) : Prop where
  lt : pos < l.length
  off : ∀ i, 0 < i → i < l.length → i ≠ pos → (i - 1) / 2 ≠ pos → key (gd l ((i - 1) / 2)) ≤ key (gd l i)
  kids : ∀ i, 0 < i → i < l.length → (i - 1) / 2 = pos → key nw ≤ key (gd l i)
  over : 0 < pos → ∀ i, 0 < i → i < l.length → (i - 1) / 2 = pos → key (gd l ((pos - 1) / 2)) ≤ key (gd l i)

theorem sd_heap {key : Value → Int} {nw : Value} : ∀ (pos : Nat) (l : List Value), Hole key nw l pos → IsHeap key (sd key nw pos l) ∧ (sd key nw pos l).Perm (l.set pos nw) := by
  intro pos
  induction pos using Nat.strongRecOn with
  | ind pos ih =>
    intro l H
    have fin : (pos = 0 ∨ key (gd l ((pos - 1) / 2)) ≤ key nw) → IsHeap key (l.set pos nw) := by
      intro hle i hi0 hil
      rw [List.length_set] at hil
      by_cases h1 : i = pos
      · subst h1
        rw [gd_set_self hil, gd_set_ne (by omega)]
        rcases hle with q | q
        · omega
        · exact q
      · rw [gd_set_ne (Ne.symm h1)]
        by_cases h2 : (i - 1) / 2 = pos
        · rw [h2, gd_set_self H.lt]; exact H.kids i hi0 hil h2
        · rw [gd_set_ne (Ne.symm h2)]; exact H.off i hi0 hil h1 h2
    rw [sd.eq_1]
    by_cases h0 : 0 < pos
    · rw [if_pos h0]
      have hpp : (pos - 1) / 2 < l.length := by have := H.lt; omega
      by_cases hlt : key nw < key (l.getD ((pos - 1) / 2) .none)
      · rw [if_pos hlt]
        have H' : Hole key nw (l.set pos (gd l ((pos - 1) / 2))) ((pos - 1) / 2) := by
          refine ⟨by simpa using hpp, fun i hi0 hil h1 h2 => ?_, fun i hi0 hil h1 => ?_, fun hp0 i hi0 hil h1 => ?_⟩
          · rw [List.length_set] at hil
            have h3 : i ≠ pos := fun q => h2 (by rw [q])
            rw [gd_set_ne (Ne.symm h3)]
            by_cases h4 : (i - 1) / 2 = pos
            · rw [h4, gd_set_self H.lt]; exact H.over h0 i hi0 hil h4
            · rw [gd_set_ne (Ne.symm h4)]; exact H.off i hi0 hil h3 h4
          · rw [List.length_set] at hil
            by_cases h3 : i = pos
            · subst h3; rw [gd_set_self hil]; exact Int.le_of_lt hlt
            · rw [gd_set_ne (Ne.symm h3)]
              have := H.off i hi0 hil h3 (by omega)
              rw [h1] at this
              exact Int.le_trans (Int.le_of_lt hlt) this
          · rw [List.length_set] at hil
            have h5 : key (gd l (((pos - 1) / 2 - 1) / 2)) ≤ key (gd l ((pos - 1) / 2)) := H.off _ hp0 hpp (by omega) (by omega)
            rw [gd_set_ne (by omega)]
            by_cases h3 : i = pos
            · subst h3; rw [gd_set_self hil]; exact h5
            · rw [gd_set_ne (Ne.symm h3)]
              have := H.off i hi0 hil h3 (by omega)
              rw [h1] at this
              exact Int.le_trans h5 this
        obtain ⟨a, b⟩ := ih ((pos - 1) / 2) (by omega) _ H'
        exact ⟨a, b.trans (set_swap (by omega) H.lt hpp)⟩
      · rw [if_neg hlt]
        exact ⟨fin (.inr (Int.not_lt.mp hlt)), .refl _⟩
    · rw [if_neg h0]
      exact ⟨fin (.inl (by omega)), .refl _⟩

/-- a heap and one more -/
theorem push_heap {key : Value → Int} {v : Value} {l : List Value} (h : IsHeap key l) : IsHeap key (sd key v l.length (l ++ [v])) ∧ (sd key v l.length (l ++ [v])).Perm (v :: l) := by
  have H : Hole key v (l ++ [v]) l.length := by
    refine ⟨by simp, fun i hi0 hil h1 h2 => ?_, fun i hi0 hil h1 => ?_, fun _ i hi0 hil h1 => ?_⟩
    · have hi : i < l.length := by simp at hil; omega
      show key ((l ++ [v]).getD _ .none) ≤ key ((l ++ [v]).getD _ .none)
      rw [getD_snoc_lt hi, getD_snoc_lt (by omega)]
      exact h i hi0 hi
    · simp at hil; omega
    · simp at hil; omega
  obtain ⟨a, b⟩ := sd_heap _ _ H
  refine ⟨a, b.trans ?_⟩
  have e : (l ++ [v]).set l.length v = l ++ [v] := by
    apply List.ext_getElem?
    intro k
    rw [List.getElem?_set]
    split
    · next q => subst q; simp
    · rfl
  rw [e]
  exact List.perm_append_comm (l₁ := l) (l₂ := [v])

theorem top_least {key : Value → Int} {l : List Value} (h : IsHeap key l) : ∀ i, i < l.length → key (gd l 0) ≤ key (gd l i) := by
  intro i
  induction i using Nat.strongRecOn with
  | ind i ih =>
    intro hi
    rcases Nat.eq_zero_or_pos i with q | q
    · rw [q]; exact Int.le_refl _
    · exact Int.le_trans (ih ((i - 1) / 2) (by omega) (by omega)) (h i q hi)

/-- all is in order but at the hole, whose filling is not yet known -/
structure Gap (key : Value → Int) (l : List Value) (pos : Nat) : Prop where
  lt : pos < l.length
  off : ∀ i, 0 < i → i < l.length → i ≠ pos → (i - 1) / 2 ≠ pos → key (gd l ((i - 1) / 2)) ≤ key (gd l i)
  over : 0 < pos → ∀ i, 0 < i → i < l.length → (i - 1) / 2 = pos → key (gd l ((pos - 1) / 2)) ≤ key (gd l i)

theorem su_gap {key : Value → Int} : ∀ (k : Nat) (l : List Value) (pos : Nat), l.length - pos = k → Gap key l pos →
    Gap key (su key l pos).1 (su key l pos).2 ∧ (su key l pos).1.length = l.length ∧ l.length ≤ 2 * (su key l pos).2 + 1 ∧ ∀ x, ((su key l pos).1.set (su key l pos).2 x).Perm (l.set pos x) := by
  intro k
  induction k using Nat.strongRecOn with
  | ind k ih =>
    intro l pos hk G
    rw [su.eq_1]
    by_cases hc : 2 * pos + 1 < l.length
    · rw [if_pos hc]
      have hkl : kid key l pos < l.length := by unfold kid; split <;> omega
      have hkp : (kid key l pos - 1) / 2 = pos := by unfold kid; split <;> omega
      have hkg : pos < kid key l pos := by unfold kid; split <;> omega
      have hmin : ∀ i, 0 < i → i < l.length → (i - 1) / 2 = pos → key (gd l (kid key l pos)) ≤ key (gd l i) := by
        intro i hi0 hil hip
        have hi : i = 2 * pos + 1 ∨ i = 2 * pos + 2 := by omega
        unfold kid
        split
        · next q =>
          rcases hi with rfl | rfl
          · exact Int.not_lt.mp q.2
          · exact Int.le_refl _
        · next q =>
          rcases hi with rfl | rfl
          · exact Int.le_refl _
          · exact Int.not_lt.mp fun hlt => q ⟨hil, fun h => absurd (Int.lt_trans h hlt) (Int.lt_irrefl _)⟩
      have G' : Gap key (l.set pos (gd l (kid key l pos))) (kid key l pos) := by
        refine ⟨by simpa using hkl, fun i hi0 hil h1 h2 => ?_, fun _ i hi0 hil h1 => ?_⟩
        · rw [List.length_set] at hil
          by_cases h3 : i = pos
          · subst h3
            rw [gd_set_self hil, gd_set_ne (by omega)]
            exact G.over hi0 _ (by omega) hkl hkp
          · rw [gd_set_ne (Ne.symm h3)]
            by_cases h4 : (i - 1) / 2 = pos
            · rw [h4, gd_set_self G.lt]; exact hmin i hi0 hil h4
            · rw [gd_set_ne (Ne.symm h4)]; exact G.off i hi0 hil h3 h4
        · rw [List.length_set] at hil
          rw [hkp, gd_set_self G.lt, gd_set_ne (by omega)]
          have := G.off i hi0 hil (by omega) (by omega)
          rw [h1] at this; exact this
      obtain ⟨a, b, c, d⟩ := ih (l.length - kid key l pos) (by omega) (l.set pos (gd l (kid key l pos))) (kid key l pos) (by simp) G'
      rw [List.length_set] at b c
      exact ⟨a, b, c, fun x => (d x).trans (set_swap (by omega) G.lt hkl)⟩
    · rw [if_neg hc]
      exact ⟨G, rfl, by show l.length ≤ 2 * pos + 1; omega, fun x => .refl _⟩

theorem pop_heap {key : Value → Int} {vs : List Value} (h : IsHeap key vs) (h1 : 0 < vs.length) : IsHeap key (popL key vs) ∧ vs.Perm (gd vs 0 :: popL key vs) := by
  have hne : vs ≠ [] := fun e => by rw [e] at h1; exact absurd h1 (by simp)
  have hsplit : vs = vs.dropLast ++ [gd vs (vs.length - 1)] := by
    have e0 := List.dropLast_concat_getLast hne
    show vs = vs.dropLast ++ [vs.getD (vs.length - 1) .none]
    rw [List.getD_eq_getElem?_getD, ← List.getLast?_eq_getElem?, List.getLast?_eq_some_getLast hne]
    exact e0.symm
  generalize hl : gd vs (vs.length - 1) = last at *
  cases hd : vs.dropLast with
  | nil =>
    have hp : popL key vs = [] := by unfold popL; rw [hd]
    rw [hp]
    refine ⟨fun i _ hi => absurd hi (by simp), ?_⟩
    rw [hd] at hsplit
    rw [hsplit]; exact .refl _
  | cons y r =>
    rw [hd] at hsplit
    have hp : popL key vs = sd key last (su key (last :: r) 0).2 ((su key (last :: r) 0).1.set (su key (last :: r) 0).2 last) := by
      have hl' : vs.getD (vs.length - 1) .none = last := hl
      unfold popL; rw [hd, hl']
    have G : Gap key (last :: r) 0 := by
      refine ⟨by simp, fun i hi0 hil h2 h3 => ?_, fun h0 => absurd h0 (by omega)⟩
      have hg : ∀ j, 0 < j → j < (last :: r).length → gd (last :: r) j = gd vs j := by
        intro j hj0 hj
        cases j with
        | zero => omega
        | succ j =>
          simp at hj
          show r.getD j .none = vs.getD (j + 1) .none
          rw [hsplit]
          show r.getD j .none = ((y :: r) ++ [last]).getD (j + 1) .none
          rw [getD_snoc_lt (by simp; omega)]; rfl
      rw [hg i hi0 hil, hg _ (by omega) (by omega)]
      have hvl : vs.length = r.length + 2 := by rw [hsplit]; simp
      exact h i hi0 (by simp at hil; omega)
    obtain ⟨a, b, c, d⟩ := su_gap _ _ _ rfl G
    generalize su key (last :: r) 0 = q at *
    have H : Hole key last (q.1.set q.2 last) q.2 := by
      refine ⟨by simpa using a.lt, fun i hi0 hil h2 h3 => ?_, fun i hi0 hil h2 => ?_, fun h0 i hi0 hil h2 => ?_⟩
      · rw [List.length_set] at hil
        rw [gd_set_ne (Ne.symm h2), gd_set_ne (Ne.symm h3)]; exact a.off i hi0 hil h2 h3
      · rw [List.length_set] at hil; omega
      · rw [List.length_set] at hil; omega
    obtain ⟨A, B⟩ := sd_heap _ _ H
    rw [hp]
    refine ⟨A, ?_⟩
    have e0 : gd vs 0 = y := by rw [hsplit]; rfl
    rw [e0]
    have B2 : (sd key last q.2 (q.1.set q.2 last)).Perm (last :: r) := B.trans (by rw [List.set_set]; exact d last)
    rw [hsplit]
    exact (List.Perm.cons y (List.perm_append_comm (l₁ := r) (l₂ := [last]))).trans (.cons y B2.symm)
end Mine
end

section
open PySem PySem.W PySem.Calls PyProof.Rows
namespace Mine

/-! the plain law -/
theorem num_inj {x y : Str} (hx : x ∈ rowL) (hy : y ∈ rowL) (h : num x = num y) : x = y := by
  have e : rowL.idxOf x = rowL.idxOf y := by unfold num at h; omega
  have h1 : rowL[rowL.idxOf x]? = some x := by rw [List.getElem?_eq_getElem (List.idxOf_lt_length_iff.mpr hx), List.getElem_idxOf]
  have h2 : rowL[rowL.idxOf y]? = some y := by rw [List.getElem?_eq_getElem (List.idxOf_lt_length_iff.mpr hy), List.getElem_idxOf]
  rw [e, h2] at h1
  exact (Option.some.inj h1).symm

theorem shorter : ∀ x ∈ rowL, ∀ y ∈ rowL, (Txt.startswith y x && x != y) = true → x.length < y.length := by decide +kernel

theorem blk_iff {sg one : Str} {gone : List Str} : blk sg gone one = true ↔ one ≠ sg ∧ Txt.startswith sg one = true ∧ one ∉ gone := by
  unfold blk
  simp only [Bool.and_eq_true, bne_iff_ne, Bool.not_eq_true', List.any_eq_false, beq_iff_eq]
  constructor
  · rintro ⟨a, b, c⟩; exact ⟨a, b, fun h => c one h rfl⟩
  · rintro ⟨a, b, c⟩; exact ⟨a, b, fun x hx e => c (e ▸ hx)⟩
theorem ready_iff {sg : Str} {picks gone : List Str} : readyB sg picks gone = true ↔ ∀ one ∈ picks, one ≠ sg → Txt.startswith sg one = true → one ∈ gone := by
  unfold readyB
  rw [List.isEmpty_iff, List.filter_eq_nil_iff]
  constructor
  · intro h one hm h1 h2
    exact Decidable.byContradiction fun h3 => h one hm (blk_iff.mpr ⟨h1, h2, h3⟩)
  · intro h one hm hb
    obtain ⟨a, b, c⟩ := blk_iff.mp hb
    exact c (h one hm a b)
theorem ready_mono {sg : Str} {picks gone gone' : List Str} (hs : ∀ x ∈ gone, x ∈ gone') (h : readyB sg picks gone = true) : readyB sg picks gone' = true :=
  ready_iff.mpr fun one hm h1 h2 => hs _ (ready_iff.mp h one hm h1 h2)

theorem perm_of {α : Type} [DecidableEq α] : ∀ {l ps : List α}, l.Nodup → (∀ x ∈ l, x ∈ ps) → l.length = ps.length → l.Perm ps
  | [], ps, _, _, h => by rw [List.length_eq_zero_iff.mp h.symm]
  | x :: l, ps, hn, hs, h => by
    have hx := hs x (.head _)
    have p := List.perm_cons_erase hx
    rw [List.nodup_cons] at hn
    refine (List.Perm.cons x (perm_of hn.2 (fun y hy => ?_) ?_)).trans p.symm
    · have hne : y ≠ x := fun e => hn.1 (e ▸ hy)
      exact (List.mem_erase_of_ne hne).mpr (hs y (.tail _ hy))
    · rw [List.length_erase_of_mem hx]; simp at h; omega

theorem len_le_of {α : Type} [DecidableEq α] : ∀ {l ps : List α}, l.Nodup → (∀ x ∈ l, x ∈ ps) → l.length ≤ ps.length
  | [], _, _, _ => Nat.zero_le _
  | x :: l, ps, hn, hs => by
    have hx := hs x (.head _)
    rw [List.nodup_cons] at hn
    have := len_le_of (l := l) (ps := ps.erase x) hn.2 (fun y hy => (List.mem_erase_of_ne (fun e : y = x => hn.1 (e ▸ hy))).mpr (hs y (.tail _ hy)))
    rw [List.length_erase_of_mem hx] at this
    have h0 : 0 < ps.length := List.length_pos_of_mem hx
    simp; omega

/-- while some have not gone, one of them is ready -/
theorem ready_exists {picks gone : List Str} (hp : picks.Nodup) (hr : ∀ x ∈ picks, x ∈ rowL) (hl : gone.length < picks.length) : ∃ y ∈ picks, y ∉ gone ∧ readyB y picks gone = true := by
  have h0 : ∃ y ∈ picks, y ∉ gone := by
    apply Decidable.byContradiction
    intro h
    have : ∀ x ∈ picks, x ∈ gone := fun x hx => Decidable.byContradiction fun hg => h ⟨x, hx, hg⟩
    exact absurd (len_le_of hp this) (by omega)
  have key : ∀ n, ∀ y ∈ picks, y ∉ gone → y.length ≤ n → ∃ y ∈ picks, y ∉ gone ∧ readyB y picks gone = true := by
    intro n
    induction n using Nat.strongRecOn with
    | ind n ih =>
      intro y hy hg hn
      by_cases hrd : readyB y picks gone = true
      · exact ⟨y, hy, hg, hrd⟩
      · have : ∃ one ∈ picks, one ≠ y ∧ Txt.startswith y one = true ∧ one ∉ gone := by
          apply Decidable.byContradiction
          intro h
          exact hrd (ready_iff.mpr fun one hm h1 h2 => Decidable.byContradiction fun h3 => h ⟨one, hm, h1, h2, h3⟩)
        obtain ⟨one, hm, h1, h2, h3⟩ := this
        have hlt := shorter one (hr _ hm) y (hr _ hy) (by simp [h2, h1])
        exact ih one.length (by omega) one hm h3 (Nat.le_refl _)
  obtain ⟨y, hy, hg⟩ := h0
  exact key y.length y hy hg (Nat.le_refl _)

/-- each that goes is the least that is ready -/
def Greedy (picks gone : List Str) : Prop := ∀ k x, gone[k]? = some x → x ∈ picks ∧ x ∉ gone.take k ∧ readyB x picks (gone.take k) = true ∧ ∀ y ∈ picks, y ∉ gone.take k → readyB y picks (gone.take k) = true → num x ≤ num y

theorem Greedy.nil {picks : List Str} : Greedy picks [] := fun k x h => by simp at h
theorem Greedy.snoc {picks gone : List Str} {z : Str} (h : Greedy picks gone) (h1 : z ∈ picks) (h2 : z ∉ gone) (h3 : readyB z picks gone = true) (h4 : ∀ y ∈ picks, y ∉ gone → readyB y picks gone = true → num z ≤ num y) : Greedy picks (gone ++ [z]) := by
  intro k x hk
  rcases Nat.lt_or_ge k gone.length with q | q
  · rw [List.getElem?_append_left q] at hk
    rw [List.take_append_of_le_length (by omega)]
    exact h k x hk
  · have hk' : k = gone.length := by
      rcases Nat.eq_or_lt_of_le q with e | e
      · exact e.symm
      · rw [List.getElem?_eq_none (by simp; omega)] at hk; cases hk
    subst hk'
    rw [List.getElem?_append_right (Nat.le_refl _)] at hk
    simp at hk
    subst hk
    rw [List.take_append_of_le_length (Nat.le_refl _), List.take_length]
    exact ⟨h1, h2, h3, h4⟩
theorem Greedy.mem {picks gone : List Str} (h : Greedy picks gone) : ∀ x ∈ gone, x ∈ picks := fun x hx => by
  obtain ⟨k, hk⟩ := List.mem_iff_getElem?.mp hx
  exact (h k x hk).1
theorem nodup_of_take {α : Type} [DecidableEq α] {l : List α} (h : ∀ k x, l[k]? = some x → x ∉ l.take k) : l.Nodup := by
  refine List.pairwise_iff_getElem.mpr fun i j hi hj hij e => ?_
  exact h j l[j] (List.getElem?_eq_getElem hj) (List.mem_iff_getElem?.mpr ⟨i, by rw [List.getElem?_take_of_lt hij, List.getElem?_eq_getElem hi, e]⟩)
theorem Greedy.nodup {picks gone : List Str} (h : Greedy picks gone) : gone.Nodup := nodup_of_take fun k x hk => (h k x hk).2.1

/-- rows of ints, by their first places that differ -/
def ltL : List Int → List Int → Bool
  | [], [] => false
  | [], _ :: _ => true
  | _ :: _, [] => false
  | a :: as, b :: bs => if a == b then ltL as bs else decide (a < b)
theorem ltL_irrefl : ∀ a, ltL a a = false
  | [] => rfl
  | a :: as => by simp [ltL, ltL_irrefl as]
theorem ltL_trans : ∀ {a b c : List Int}, ltL a b = true → ltL b c = true → ltL a c = true
  | [], [], _, h, _ => by cases h
  | [], _ :: _, [], _, h => by cases h
  | [], _ :: _, _ :: _, _, _ => rfl
  | _ :: _, [], _, h, _ => by cases h
  | _ :: _, _ :: _, [], _, h => by cases h
  | a :: as, b :: bs, c :: cs, h1, h2 => by
    unfold ltL at h1 h2 ⊢
    by_cases hab : a = b
    · subst hab
      simp only [beq_self_eq_true, if_true] at h1
      by_cases hac : a = c
      · subst hac
        simp only [beq_self_eq_true, if_true] at h2 ⊢
        exact ltL_trans h1 h2
      · simp only [beq_eq_false_iff_ne.mpr hac, Bool.false_eq_true, if_false] at h2 ⊢
        exact h2
    · simp only [beq_eq_false_iff_ne.mpr hab, Bool.false_eq_true, if_false, decide_eq_true_eq] at h1
      by_cases hbc : b = c
      · subst hbc
        simp only [beq_eq_false_iff_ne.mpr hab, Bool.false_eq_true, if_false, decide_eq_true_eq]; exact h1
      · simp only [beq_eq_false_iff_ne.mpr hbc, Bool.false_eq_true, if_false, decide_eq_true_eq] at h2
        have hac : a ≠ c := by omega
        simp only [beq_eq_false_iff_ne.mpr hac, Bool.false_eq_true, if_false, decide_eq_true_eq]; omega

/-- each stands behind all that it asks -/
def validB (picks o : List Str) : Bool := ((List.range o.length).filter fun k => !readyB (o.getD k Str.empty) picks (o.take k)).isEmpty
theorem valid_iff {picks o : List Str} : validB picks o = true ↔ ∀ k x, o[k]? = some x → readyB x picks (o.take k) = true := by
  unfold validB
  rw [List.isEmpty_iff, List.filter_eq_nil_iff]
  constructor
  · intro h k x hk
    have hl : k < o.length := by
      rcases Nat.lt_or_ge k o.length with q | q
      · exact q
      · rw [List.getElem?_eq_none q] at hk; cases hk
    have := h k (List.mem_range.mpr hl)
    rw [List.getD_eq_getElem?_getD, hk] at this
    simpa using this
  · intro h k hk
    have hl := List.mem_range.mp hk
    have := h k o[k] (List.getElem?_eq_getElem hl)
    rw [List.getD_eq_getElem?_getD, List.getElem?_eq_getElem hl]
    simpa using this

theorem ins_perm (x : Str) (o : List Str) (i : Nat) : (ins x o i).Perm (o ++ [x]) := by
  unfold ins
  have h1 : (o.take i ++ [x] ++ o.drop i).Perm (o.take i ++ (o.drop i ++ [x])) := by
    rw [List.append_assoc]
    exact List.Perm.append_left _ List.perm_append_comm
  rw [← List.append_assoc, List.take_append_drop] at h1
  exact h1
theorem perm_of_orders : ∀ (n : Nat) (ps : List Str), ps.length = n → ∀ o ∈ ordersOf ps, o.Perm ps
  | 0, ps, h, o, hm => by
    rw [List.length_eq_zero_iff.mp h] at hm ⊢
    simp [ordersOf] at hm; rw [hm]
  | n + 1, ps, h, o, hm => by
    have hne : ps ≠ [] := fun e => by rw [e] at h; cases h
    have e0 := List.dropLast_concat_getLast hne
    rw [← e0, ordersOf_snoc] at hm
    obtain ⟨o', ho, hi⟩ := List.mem_flatMap.mp hm
    obtain ⟨i, _, rfl⟩ := List.mem_map.mp hi
    have p := perm_of_orders n ps.dropLast (by simp [h]) o' ho
    exact (ins_perm _ _ _).trans ((p.append_right _).trans (by rw [e0]))
theorem orders_of_perm : ∀ (n : Nat) (ps : List Str), ps.length = n → ∀ o, o.Perm ps → o ∈ ordersOf ps
  | 0, ps, h, o, hp => by
    rw [List.length_eq_zero_iff.mp h] at hp ⊢
    rw [List.Perm.eq_nil hp]; simp [ordersOf]
  | n + 1, ps, h, o, hp => by
    have hne : ps ≠ [] := fun e => by rw [e] at h; cases h
    obtain ⟨q, x, rfl⟩ : ∃ q x, ps = q ++ [x] := ⟨_, _, (List.dropLast_concat_getLast hne).symm⟩
    have hmem : x ∈ o := hp.symm.subset (by simp)
    obtain ⟨o1, o2, rfl⟩ := List.append_of_mem hmem
    rw [ordersOf_snoc]
    refine List.mem_flatMap.mpr ⟨o1 ++ o2, orders_of_perm n q (by simpa using h) _ ?_, List.mem_map.mpr ⟨o1.length, List.mem_range.mpr (by simp; omega), ?_⟩⟩
    · have p1 : (x :: (o1 ++ o2)).Perm (o1 ++ x :: o2) := List.perm_middle.symm
      have p2 : (q ++ [x]).Perm (x :: q) := List.perm_append_comm
      exact List.Perm.cons_inv (p1.trans (hp.trans p2))
    · unfold ins
      rw [List.take_left' rfl, List.drop_left' rfl]; simp

/-- the greedy order is the least -/
theorem greedy_least {picks : List Str} (hr : ∀ x ∈ picks, x ∈ rowL) (hn : picks.Nodup) {gone o : List Str} (hg : Greedy picks gone) (ho : o.Perm picks) (hv : validB picks o = true) (hl : gone.length = picks.length) :
    gone.map num = o.map num ∨ ltL (gone.map num) (o.map num) = true := by
  have hod : o.Nodup := ho.nodup_iff.mpr hn
  have key : ∀ (n : Nat) (pre g' o' : List Str), g'.length = n → o'.length = n → gone = pre ++ g' → o = pre ++ o' → g'.map num = o'.map num ∨ ltL (g'.map num) (o'.map num) = true := by
    intro n
    induction n with
    | zero =>
      intro pre g' o' h1 h2 _ _
      rw [List.length_eq_zero_iff.mp h1, List.length_eq_zero_iff.mp h2]; exact .inl rfl
    | succ n ih =>
      intro pre g' o' h1 h2 hg' ho'
      cases g' with
      | nil => cases h1
      | cons x g'' =>
        cases o' with
        | nil => cases h2
        | cons y o'' =>
          have hgx := hg pre.length x (by rw [hg']; simp)
          have hyo : o[pre.length]? = some y := by rw [ho']; simp
          have htg : gone.take pre.length = pre := by rw [hg']; simp
          have hto : o.take pre.length = pre := by rw [ho']; simp
          have hym : y ∈ picks := ho.subset (by rw [ho']; simp)
          rw [htg] at hgx
          have hyr := valid_iff.mp hv _ _ hyo
          rw [hto] at hyr
          have hyn : y ∉ pre := by
            rw [ho'] at hod
            intro h
            exact (List.nodup_append.mp hod).2.2 y h y (.head _) rfl
          have hle := hgx.2.2.2 y hym hyn hyr
          by_cases hxy : x = y
          · subst hxy
            rcases ih (pre ++ [x]) g'' o'' (by simpa using h1) (by simpa using h2) (by simp [hg']) (by simp [ho']) with q | q
            · exact .inl (by simp [q])
            · exact .inr (by simp [ltL, q])
          · have hne : num x ≠ num y := fun e => hxy (num_inj (hr _ hgx.1) (hr _ hym) e)
            refine .inr ?_
            simp only [List.map_cons, ltL, beq_eq_false_iff_ne.mpr hne, Bool.false_eq_true, if_false, decide_eq_true_eq]
            omega
  have hlo : o.length = picks.length := ho.length_eq
  exact key picks.length [] gone o hl hlo rfl rfl
theorem greedy_in {picks : List Str} {gone : List Str} (hg : Greedy picks gone) (hl : gone.length = picks.length) : gone ∈ ordersOf picks ∧ validB picks gone = true :=
  ⟨orders_of_perm _ picks rfl _ (perm_of hg.nodup hg.mem hl), valid_iff.mpr fun k x hk => (hg k x hk).2.2.1⟩
end Mine
end

section
open PySem PySem.W PySem.Calls PyProof.Rows
namespace Mine

theorem addPick_ok {ps : List Str} {x : Int} (h : ps.Nodup ∧ ∀ y ∈ ps, y ∈ rowL) : (addPick ps x).Nodup ∧ (∀ y ∈ addPick ps x, y ∈ rowL) ∧ (addPick ps x).length ≤ ps.length + 1 := by
  unfold addPick
  dsimp only
  have hm : rowL.getD (x.fmod 48).toNat Str.empty ∈ rowL := by
    have hlt := (fmod48 x).1
    rw [← rowL_length] at hlt
    rw [List.getD_eq_getElem?_getD, List.getElem?_eq_getElem hlt]
    exact List.getElem_mem hlt
  split
  · exact ⟨h.1, h.2, by omega⟩
  · next q =>
    refine ⟨?_, fun y hy => ?_, by simp⟩
    · rw [List.nodup_append]
      refine ⟨h.1, by simp, fun a ha b hb e => q ?_⟩
      rw [List.any_eq_true]
      exact ⟨a, ha, by rw [e, List.mem_singleton.mp hb]; simp⟩
    · rcases List.mem_append.mp hy with q | q
      · exact h.2 y q
      · rw [List.mem_singleton.mp q]; exact hm
theorem fold_ok : ∀ (xs : List Int) (ps : List Str), (ps.Nodup ∧ ∀ y ∈ ps, y ∈ rowL) → (xs.foldl addPick ps).Nodup ∧ (∀ y ∈ xs.foldl addPick ps, y ∈ rowL) ∧ (xs.foldl addPick ps).length ≤ ps.length + xs.length
  | [], ps, h => ⟨h.1, h.2, by simp⟩
  | x :: r, ps, h => by
    have h1 := addPick_ok (x := x) h
    have h2 := fold_ok r (addPick ps x) ⟨h1.1, h1.2.1⟩
    refine ⟨h2.1, h2.2.1, ?_⟩
    have h3 := h2.2.2
    have h4 := h1.2.2
    simp only [List.foldl_cons, List.length_cons]; omega
theorem picksOf_ok (ns : List Int) : (picksOf ns).Nodup ∧ (∀ y ∈ picksOf ns, y ∈ rowL) ∧ (picksOf ns).length ≤ 5 := by
  have h := fold_ok ([21, 47] ++ ns.take 3) [] ⟨List.nodup_nil, (by intro y hy; cases hy)⟩
  refine ⟨h.1, h.2.1, Nat.le_trans h.2.2 ?_⟩
  simp only [List.length_append, List.length_take, List.length_cons, List.length_nil]; omega

/-- the heap's tuples and their signs -/
inductive RepL (Has : Addr → Obj → Prop) : List Value → List Str → Prop
  | nil : RepL Has [] []
  | cons {vs : List Value} {xs : List Str} (a : Addr) (t : Tok) (x : Str) (u : Tok) (h : Has a (tupO (num x) t x u)) (r : RepL Has vs xs) : RepL Has (.ref a :: vs) (x :: xs)
theorem RepL.mono {Has Has' : Addr → Obj → Prop} (k : ∀ b o, Has b o → Has' b o) : ∀ {vs : List Value} {xs : List Str}, RepL Has vs xs → RepL Has' vs xs
  | _, _, .nil => .nil
  | _, _, .cons a t x u h r => .cons a t x u (k _ _ h) (RepL.mono k r)
theorem RepL.len {Has : Addr → Obj → Prop} : ∀ {vs : List Value} {xs : List Str}, RepL Has vs xs → vs.length = xs.length
  | _, _, .nil => rfl
  | _, _, .cons _ _ _ _ _ r => by simp [RepL.len r]
theorem RepL.get {Has : Addr → Obj → Prop} : ∀ {vs : List Value} {xs : List Str}, RepL Has vs xs → ∀ {i : Nat}, i < xs.length → ∃ a t u, gd vs i = .ref a ∧ Has a (tupO (num (xs.getD i Str.empty)) t (xs.getD i Str.empty) u)
  | _, _, .cons a t x u h r, 0, _ => ⟨a, t, u, rfl, h⟩
  | _, _, .cons _ _ _ _ _ r, i + 1, hi => RepL.get r (by simpa using hi)
theorem RepL.perm {Has : Addr → Obj → Prop} {vs vs' : List Value} (p : vs'.Perm vs) : ∀ {xs : List Str}, RepL Has vs xs → ∃ xs', xs'.Perm xs ∧ RepL Has vs' xs' := by
  have : ∀ {vs vs' : List Value}, vs.Perm vs' → ∀ {xs : List Str}, RepL Has vs xs → ∃ xs', xs'.Perm xs ∧ RepL Has vs' xs' := by
    intro vs vs' p
    induction p with
    | nil => intro xs h; exact ⟨xs, .refl _, h⟩
    | cons v p ih =>
      intro xs h
      cases h with
      | cons a t x u h r =>
        obtain ⟨xs', p', r'⟩ := ih r
        exact ⟨x :: xs', .cons x p', .cons a t x u h r'⟩
    | swap v v' l =>
      intro xs h
      cases h with
      | cons a t x u h r =>
        cases r with
        | cons a' t' x' u' h' r' => exact ⟨_, List.Perm.swap _ _ _, .cons a' t' x' u' h' (.cons a t x u h r')⟩
    | trans p q ih1 ih2 =>
      intro xs h
      obtain ⟨xs1, p1, r1⟩ := ih1 h
      obtain ⟨xs2, p2, r2⟩ := ih2 r1
      exact ⟨xs2, p2.trans p1, r2⟩
  exact fun {_} h => this p.symm h

/-- a tuple's number, as a heap has it -/
def keyIn (h : Heap) : Value → Int
  | .ref a => match h.get? a with
    | some ⟨_, _, .seq items _, _⟩ => (match items.toList.head? with
      | some (.int k _) => k
      | _ => 0)
    | _ => 0
  | _ => 0
theorem keyIn_of {h : Heap} {a : Addr} {k : Int} {t u : Tok} {x : Str} (e : h.get? a = some (tupO k t x u)) : keyIn h (.ref a) = k := by
  unfold keyIn; simp only [e]; rfl
theorem RepL.key {h : Heap} {vs : List Value} {xs : List Str} (r : RepL (fun b o => h.get? b = some o) vs xs) {i : Nat} (hi : i < xs.length) : keyIn h (gd vs i) = num (xs.getD i Str.empty) := by
  obtain ⟨a, t, u, e, g⟩ := r.get hi
  rw [e]; exact keyIn_of g
theorem RepL.tp {h : Heap} : ∀ {vs : List Value} {xs : List Str}, RepL (fun b o => h.get? b = some o) vs xs → ∀ v ∈ vs, TpV h v (keyIn h v)
  | _, _, .cons a t x u hh r, v, hv => by
    rcases List.mem_cons.mp hv with rfl | hv
    · exact ⟨a, t, x, u, rfl, by rw [keyIn_of hh]; exact hh⟩
    · exact RepL.tp r v hv
def IsHeapS (xs : List Str) : Prop := ∀ i, 0 < i → i < xs.length → num (xs.getD ((i - 1) / 2) Str.empty) ≤ num (xs.getD i Str.empty)
theorem RepL.heap {h : Heap} {vs : List Value} {xs : List Str} (r : RepL (fun b o => h.get? b = some o) vs xs) : IsHeap (keyIn h) vs ↔ IsHeapS xs := by
  constructor
  · intro H i h0 hi
    have := H i h0 (by rw [r.len]; exact hi)
    rw [r.key hi, r.key (by omega)] at this; exact this
  · intro H i h0 hi
    rw [r.len] at hi
    rw [r.key hi, r.key (by omega)]; exact H i h0 hi
theorem nodup_getD {xs : List Str} (h : xs.Nodup) {i j : Nat} (hi : i < xs.length) (hj : j < xs.length) (hij : i ≠ j) : xs.getD i Str.empty ≠ xs.getD j Str.empty := by
  rw [List.getD_eq_getElem?_getD, List.getD_eq_getElem?_getD, List.getElem?_eq_getElem hi, List.getElem?_eq_getElem hj]
  intro e
  have e' : xs[i] = xs[j] := e
  rcases Nat.lt_or_gt_of_ne hij with q | q
  · exact List.pairwise_iff_getElem.mp h i j hi hj q e'
  · exact List.pairwise_iff_getElem.mp h j i hj hi q e'.symm
end Mine
end

section
open PySem PySem.W PySem.Calls PyProof.Rows
namespace Mine

abbrev notIn (gone : List Str) : Str → Bool := fun x => !gone.contains x
theorem notIn_iff {gone : List Str} {x : Str} : notIn gone x = true ↔ x ∉ gone := by simp [notIn]

/-- what stands between the turns of _law_by_heap -/
structure Bh (picks hs laid gone : List Str) : Prop where
  nodupL : laid.Nodup
  subL : ∀ x ∈ laid, x ∈ picks
  subG : ∀ x ∈ gone, x ∈ laid
  rdy : ∀ x ∈ laid, readyB x picks gone = true
  perm : hs.Perm (laid.filter (notIn gone))
  heap : IsHeapS hs
  greedy : Greedy picks gone

section
variable {picks hs hs' laid gone : List Str} {x : Str}
theorem Bh.nil : Bh picks [] [] [] := ⟨List.nodup_nil, (by intro x h; cases h), (by intro x h; cases h), (by intro x h; cases h), .refl _, (fun i _ h => absurd h (by simp)), Greedy.nil⟩
theorem Bh.nodup (B : Bh picks hs laid gone) : hs.Nodup := B.perm.nodup_iff.mpr (B.nodupL.filter _)
theorem Bh.mem (B : Bh picks hs laid gone) : x ∈ hs ↔ x ∈ laid ∧ x ∉ gone := by
  rw [B.perm.mem_iff, List.mem_filter, notIn_iff]
theorem Bh.lenL (B : Bh picks hs laid gone) : laid.length ≤ picks.length := len_le_of B.nodupL B.subL
theorem Bh.lenH (B : Bh picks hs laid gone) : hs.length ≤ picks.length := by
  rw [B.perm.length_eq]; exact Nat.le_trans (List.length_filter_le _ _) B.lenL
theorem Bh.lenG (B : Bh picks hs laid gone) : gone.length ≤ picks.length := len_le_of B.greedy.nodup B.greedy.mem

theorem Bh.push (B : Bh picks hs laid gone) (hx : x ∈ picks) (hl : x ∉ laid) (hr : readyB x picks gone = true) (hp : hs'.Perm (x :: hs)) (hh : IsHeapS hs') : Bh picks hs' (laid ++ [x]) gone := by
  refine ⟨?_, ?_, fun y hy => List.mem_append_left _ (B.subG y hy), ?_, ?_, hh, B.greedy⟩
  · rw [List.nodup_append]
    exact ⟨B.nodupL, by simp, fun a ha b hb e => hl (by rw [← List.mem_singleton.mp hb, ← e]; exact ha)⟩
  · intro y hy
    rcases List.mem_append.mp hy with q | q
    · exact B.subL y q
    · rw [List.mem_singleton.mp q]; exact hx
  · intro y hy
    rcases List.mem_append.mp hy with q | q
    · exact B.rdy y q
    · rw [List.mem_singleton.mp q]; exact hr
  · rw [List.filter_append]
    have e : [x].filter (notIn gone) = [x] := by
      rw [List.filter_cons, if_pos (notIn_iff.mpr fun h => hl (B.subG x h))]; rfl
    rw [e]
    exact hp.trans ((List.Perm.cons x B.perm).trans (List.perm_append_comm (l₁ := [x])))

theorem Bh.pop (B : Bh picks hs laid gone) (hx : x ∈ hs) (hall : ∀ y ∈ picks, readyB y picks gone = true → y ∈ laid) (hmin : ∀ y ∈ hs, num x ≤ num y) (hp : hs.Perm (x :: hs')) (hh : IsHeapS hs') : Bh picks hs' laid (gone ++ [x]) := by
  have hxm := B.mem.mp hx
  refine ⟨B.nodupL, B.subL, ?_, fun y hy => ready_mono (fun z hz => List.mem_append_left _ hz) (B.rdy y hy), ?_, hh, ?_⟩
  · intro y hy
    rcases List.mem_append.mp hy with q | q
    · exact B.subG y q
    · rw [List.mem_singleton.mp q]; exact hxm.1
  · have hF : (laid.filter (notIn gone)).Nodup := B.nodupL.filter _
    have e : laid.filter (notIn (gone ++ [x])) = (laid.filter (notIn gone)).erase x := by
      rw [List.Nodup.erase_eq_filter hF, List.filter_filter]
      congr 1
      funext y
      simp only [notIn, List.contains_append, Bool.not_or]
      by_cases hy : y = x
      · subst hy; simp
      · simp [hy, bne_iff_ne]
    rw [e]
    have p1 : (x :: hs').Perm (laid.filter (notIn gone)) := hp.symm.trans B.perm
    have hxF : x ∈ laid.filter (notIn gone) := p1.subset (.head _)
    exact List.Perm.cons_inv (p1.trans (List.perm_cons_erase hxF))
  · refine B.greedy.snoc (B.subL x hxm.1) hxm.2 (B.rdy x hxm.1) fun y hy hyg hyr => hmin y (B.mem.mpr ⟨hall y hy hyr, hyg⟩)
end

section
variable {prog : Program} {w : World} {A : Around} {E : Value → Shared → Prop} {s : Shared}
/-- a tuple is not other than itself -/
theorem neSame {a : Addr} {k : Int} {t u : Tok} {x : Str} {Q : Value → Shared → Prop} (hu : A.units < cLine) (ha : s.heap.get? a = some (tupO k t x u)) (h : Q (.bool false) s) :
    wpAny (model prog w) A (compareOp .NotEq (.ref a) (.ref a)) Q E s := by
  refine cmp_ofNotEq ?_
  have ht : s.heap.IsTuple a #[.int k t, .str x u] := ⟨_, ha, rfl, _, rfl⟩
  exact SeqAt.RcNeAt.tuples (e := fun _ => true) ht ht hu (fun j h1 h2 => SeqAt.EqAt.same _) prog w E Q h
theorem tupItem0 {value slice : Expr} {a : Addr} {k : Int} {t u v : Tok} {x : Str} {Q : Value → Shared → Prop} (ha : s.heap.get? a = some (tupO k t x u)) (h : Q (.int k t) s)
    (hs : subscripted slice false (.ref a) (.int 0 v) = operate [.ref a, .int 0 v] (getItem (.ref a) (.int 0 v)) := by with_unfolding_all rfl) (hg : ∀ r, letTemporaryGo value (.ref a) r = pure () := by intro _; with_unfolding_all rfl) :
    wpAny (model prog w) A (subscriptTail value slice (.ref a) (.int 0 v)) Q E s :=
  item_tuple (items := #[.int k t, .str x u]) (j := 0) ⟨_, ha, rfl, _, rfl⟩ (by decide) (by decide) rfl rfl h hs hg
theorem tupItem1 {value slice : Expr} {a : Addr} {k : Int} {t u v : Tok} {x : Str} {Q : Value → Shared → Prop} (ha : s.heap.get? a = some (tupO k t x u)) (h : Q (.str x u) s)
    (hs : subscripted slice false (.ref a) (.int 1 v) = operate [.ref a, .int 1 v] (getItem (.ref a) (.int 1 v)) := by with_unfolding_all rfl) (hg : ∀ r, letTemporaryGo value (.ref a) r = pure () := by intro _; with_unfolding_all rfl) :
    wpAny (model prog w) A (subscriptTail value slice (.ref a) (.int 1 v)) Q E s :=
  item_tuple (items := #[.int k t, .str x u]) (j := 1) ⟨_, ha, rfl, _, rfl⟩ (by decide) (by decide) rfl rfl h hs hg
/-- the table's number of an operator -/
theorem tokItem {value slice : Expr} {a : Addr} {x : Str} {t u : Tok} {f : Str → Option Value} {Q : Value → Shared → Prop} (hm : s.heap.MapOf (strKind prog w) a f) (hv : f x = some (.int (num x) u)) (h : Q (.int (num x) u) { s with toks := s.toks + 1 })
    (hs : subscripted slice false (.ref a) (.str x t) = operate [.ref a, .str x t] (getItem (.ref a) (.str x t)) := by with_unfolding_all rfl) :
    wpAny (model prog w) A (subscriptTail value slice (.ref a) (.str x t)) Q E s :=
  tail_any hm.typeIs slot_dict_getitem.lookup (wpAny_getItem_of (k := x) (by simp [PySem.strKind, Value.isStrOf]) hm hv h) hs
end
end Mine
end

section
open PySem PySem.W PySem.Calls PyProof.Rows
namespace Mine

section
variable {s₀ s : Shared} {h₀ : Heap} {env : Env} {m cm : Str → Option Value} {news pre post : List (Addr × Obj)} {a b : Addr} {o o' : Obj}
theorem Fm.ne (F : Fm s₀ h₀ env m cm (pre ++ (a, o) :: post) s) (h : (b, o') ∈ pre ∨ (b, o') ∈ post) : b ≠ a := by
  have nd := F.nd
  rw [List.map_append, List.map_cons] at nd
  intro e
  have hnd := List.nodup_append.mp nd
  rcases h with hp | hp
  · exact hnd.2.2 _ (List.mem_map_of_mem (f := fun p : Addr × Obj => p.1) hp) _ (.head _) e
  · exact (List.nodup_cons.mp hnd.2.1).1 (by have q := List.mem_map_of_mem (f := fun p : Addr × Obj => p.1) hp; rw [show ((b, o') : Addr × Obj).1 = a from e] at q; exact q)
theorem Fm.hideGet (F : Fm s₀ h₀ env m cm (pre ++ (a, o) :: post) s) (h : (b, o') ∈ pre ∨ (b, o') ∈ post) : (s.heap.hide a).get? b = some o' := by
  rw [Heap.hide_ne _ (F.ne h)]
  exact F.get (h.elim (List.mem_append_left _) fun q => List.mem_append_right _ (.tail _ q))
theorem Fm.kpHide (F : Fm s₀ h₀ env m cm (pre ++ (a, o) :: post) s) : Kp h₀ (s.heap.hide a) := kp_hide F.keep (F.nws (a, o) (List.mem_append_right _ (.head _))).2.2.2
end
theorem kp_of_hide (h : Heap) (a : Addr) : Kp (h.hide a) h := fun _ _ e => Heap.of_hide e

section
variable {prog : Program} {w : World} {A : Around} {E : Value → Shared → Prop} {s : Shared} {mg mb : Str → Option Value}

/-- the ledger of _law_by_heap -/
abbrev led (ta ga la ha : Addr) (tv gv lv hv : List Value) (e4 e3 e2 e1 : Nat) (imm : List (Addr × Obj)) : List (Addr × Obj) :=
  (ta, listOf tv.toArray e4) :: (ga, listOf gv.toArray e3) :: (la, listOf lv.toArray e2) :: (ha, listOf hv.toArray e1) :: imm
structure NmB (ta ga la ha pa : Addr) (m : Str → Option Value) : Prop where
  heap : m (Str.ofString "heap") = some (.ref ha)
  laid : m (Str.ofString "laid") = some (.ref la)
  gone : m (Str.ofString "gone") = some (.ref ga)
  told : m (Str.ofString "told") = some (.ref ta)
  picks : m (Str.ofString "picks") = some (.ref pa)

theorem byHeap_spec {f pa : Addr} {pvs : List Value} {picks : List Str} {Q : Value → Shared → Prop} (hA : Ar 9 A) (W : Wd prog w mg mb s.heap) (hf : mg "_law_by_heap" = some (.ref f))
    (hp : s.heap.IsList pa pvs.toArray) (hps : StrsAre pvs picks) (hpn : picks.Nodup) (hpr : ∀ x ∈ picks, x ∈ rowL) (hpl : picks.length ≤ 5)
    (hQ : ∀ h' tk a tvs n gone, Kp s.heap h' → Made s.heap h' [(a, listOf tvs.toArray n)] → IntsAre tvs (gone.map num) → Greedy picks gone → gone.length = picks.length → Q (.ref a) { s with heap := h', toks := tk }) :
    wpAny (model prog w) A (call (.ref f) [.ref pa]) Q E s := by
  obtain ⟨f', hf', fn⟩ := W.byHeap
  rw [hf] at hf'
  obtain rfl : f = f' := by injection hf' with q; injection q
  obtain ⟨o, pm, cd, doc, hof, hdf, hcd⟩ := fn
  refine enter hA hof hdf hcd W.nolimit rfl rfl (by decide) fun A1 L s₁ hA1 F => ?_
  clear hdf hof
  obtain ⟨m, cm, m1, F⟩ : ∃ m cm, m (Str.ofString "picks") = some (.ref pa) ∧ Fm s s.heap _ m cm _ s₁ := ⟨_, _, rfl, F⟩
  refine wpAny_execs_cons <| wpAny_Assign_Name <| wpAny_List <| wpAny_items_nil ⟨by size_fits, stL (F.push (tk := s₁.toks) _) fun s2 F2 _ => ?_⟩
  refine wpAny_execs_cons <| wpAny_Assign_Name <| wpAny_List <| wpAny_items_nil ⟨by size_fits, stL (F2.push (tk := s2.toks) _) fun s3 F3 _ => ?_⟩
  refine wpAny_execs_cons <| wpAny_Assign_Name <| wpAny_List <| wpAny_items_nil ⟨by size_fits, stL (F3.push (tk := s3.toks) _) fun s4 F4 _ => ?_⟩
  refine wpAny_execs_cons <| wpAny_Assign_Name <| wpAny_List <| wpAny_items_nil ⟨by size_fits, stL (F4.push (tk := s4.toks) _) fun s5 F5 _ => ?_⟩
  obtain ⟨ta, ga, la, ha, m, F5, nm⟩ : ∃ ta ga la ha m, Fm s s.heap _ m cm (led ta ga la ha [] [] [] [] 0 0 0 0 []) s5 ∧ NmB ta ga la ha pa m := ⟨_, _, _, _, _, F5, ⟨rfl, rfl, rfl, rfl, m1⟩⟩
  clear F4 F3 F2
  have hpv : pvs.length = picks.length := StrsAre.len hps
  let J : Nat → (Str → Option Value) → (Str → Option Value) → List (Addr × Obj) → Prop := fun k m _ nw => ∃ tv gv lv hv e4 e3 e2 e1 imm hs laid gone, nw = led ta ga la ha tv gv lv hv e4 e3 e2 e1 imm ∧ NmB ta ga la ha pa m ∧ StrsAre lv laid ∧ StrsAre gv gone ∧ IntsAre tv (gone.map num) ∧
    RepL (fun b o => (b, o) ∈ imm) hv hs ∧ Bh picks hs laid gone ∧ k = picks.length - gone.length
  let P : Flow → Shared → Prop := fun fl s' => fl = .next ∧ ∃ (m cm : Str → Option Value) (tv : List Value) (e : Nat) (rest : List (Addr × Obj)) (gone : List Str), Fm s s.heap F5.ev m cm ((ta, listOf tv.toArray e) :: rest) s' ∧ NmB ta ga la ha pa m ∧ IntsAre tv (gone.map num) ∧ Greedy picks gone ∧ gone.length = picks.length
  refine wpAny_execs_cons (wpAny_mono (whileFm (Q := P) J (picks.length - 0) F5 ⟨[], [], [], [], 0, 0, 0, 0, [], [], [], [], rfl, nm, .nil, .nil, .nil, .nil, Bh.nil, rfl⟩ ?_) ?_ fun _ _ x => x)
  · rintro E' k m cm nw s' ⟨tv, gv, lv, hv, e4, e3, e2, e1, imm, hs, laid, gone, rfl, nm, hlv, hgv, htv, hrep, B, rfl⟩ F
    have hgl : gv.length = gone.length := StrsAre.len hgv
    have hG := B.lenG
    have W' := W.keeps F.keep
    -- len(gone) < len(picks)
    refine wpAny_isTrue_Compare1 <| callBf W' W.len <| wpAny_items_cons <| nmL F nm.gone <| wpAny_items_nil <| call_len_list (isList_of (F.get (.tail _ (.head _)))) (by simp; omega) <|
      callBf (W.keeps F.keep) W.len <| wpAny_items_cons <| nmL F.tok nm.picks <| wpAny_items_nil <| call_len_list (hp.at fun o e => F.keep _ _ e) (by simp; omega) <| lt_int <| wpAny_truthy_bool ?_
    by_cases hlt : gone.length < picks.length
    · rw [if_pos (by simp; omega)]
      have F' := F.tok (tk := s'.toks + 1 + 1 + 1 + 1)
      let P1 : Flow → Shared → Prop := fun fl s' => fl = .next ∧ ∃ (m cm : Str → Option Value) (lv hv : List Value) (e2 e1 : Nat) (imm : List (Addr × Obj)) (hs laid : List Str), Fm s s.heap F5.ev m cm (led ta ga la ha tv gv lv hv e4 e3 e2 e1 imm) s' ∧ NmB ta ga la ha pa m ∧
        StrsAre lv laid ∧ RepL (fun b o => (b, o) ∈ imm) hv hs ∧ Bh picks hs laid gone ∧ ∀ y ∈ picks, readyB y picks gone = true → y ∈ laid
      refine wpAny_execs_cons <| wpAny_mono (Q := P1) ?_ ?_ fun _ _ x => x
      · -- for sign in picks
        refine forFm (s₀ := s) (h₀ := s.heap) (um := upM (Str.ofString "sign")) (uc := noM) hA1.hh storeL <| nmL F' nm.picks ?_
        refine ForOk.intro (items := pvs.toArray) (fun i m _ nw => ∃ lv hv e2 e1 imm hs laid, nw = led ta ga la ha tv gv lv hv e4 e3 e2 e1 imm ∧ NmB ta ga la ha pa m ∧ StrsAre lv laid ∧ RepL (fun b o => (b, o) ∈ imm) hv hs ∧ Bh picks hs laid gone ∧ ∀ y ∈ picks.take i, readyB y picks gone = true → y ∈ laid) F' (hp.at fun o e => F'.keep _ _ e)
          ⟨lv, hv, e2, e1, imm, hs, laid, rfl, nm, hlv, hrep, B, by simp⟩ ?_ ?_ ?_
        · rintro i m cm nw s' _ F
          exact hp.at fun o e => F.keep _ _ e
        · clear F F' hlv hrep B W'
          rintro E' i v m cm nw s' I io hv0 ⟨lv, hv, e2, e1, imm, hs, laid, rfl, nm, hlv, hrep, B, hall⟩ F
          have hil : i < picks.length := by
            rcases Nat.lt_or_ge i pvs.length with q | q
            · omega
            · rw [List.getElem?_toArray, List.getElem?_eq_none q] at hv0; cases hv0
          obtain ⟨t, ht⟩ := StrsAre.get hps (i := i) (x := picks[i]) (List.getElem?_eq_getElem hil)
          obtain rfl : v = .str picks[i] t := by rw [List.getElem?_toArray, ht] at hv0; exact (Option.some.inj hv0).symm
          have hxm : picks[i] ∈ picks := List.getElem_mem hil
          have hstep : picks.take (i + 1) = picks.take i ++ [picks[i]] := by rw [List.take_add_one, List.getElem?_eq_getElem hil]; rfl
          generalize picks[i] = x at *
          have nm' : NmB ta ga la ha pa (upM (Str.ofString "sign") (.str x t) m) := ⟨nm.heap, nm.laid, nm.gone, nm.told, nm.picks⟩
          -- a turn that lays nothing
          have idle : ∀ {s'}, (x ∈ laid ∨ readyB x picks gone = false) → Fm s s.heap F5.ev (upM (Str.ofString "sign") (.str x t) m) (noM (.str x t) cm) ((I, io) :: led ta ga la ha tv gv lv hv e4 e3 e2 e1 imm) s' →
              ∃ m' cm' nw', Fm s s.heap F5.ev m' cm' ((I, io) :: nw') s' ∧ ∃ lv hv e2 e1 imm hs laid, nw' = led ta ga la ha tv gv lv hv e4 e3 e2 e1 imm ∧ NmB ta ga la ha pa m' ∧ StrsAre lv laid ∧ RepL (fun b o => (b, o) ∈ imm) hv hs ∧ Bh picks hs laid gone ∧ ∀ y ∈ picks.take (i + 1), readyB y picks gone = true → y ∈ laid := by
            intro s' hx F
            refine ⟨_, _, _, F, lv, hv, e2, e1, imm, hs, laid, rfl, nm', hlv, hrep, B, fun y hy hr => ?_⟩
            rw [hstep] at hy
            rcases List.mem_append.mp hy with q | q
            · exact hall y q hr
            · rw [List.mem_singleton.mp q] at hr ⊢
              rcases hx with hx | hx
              · exact hx
              · rw [hx] at hr; cases hr
          -- sign not in laid
          refine wpAny_execs_cons <| wpAny_If <| wpAny_isTrue_BoolOp <| wpAny_allTrue_And_cons <| wpAny_isTrue_Compare1 <| nmL F rfl <| nmL F nm'.laid <| notin_list_strs (isList_of (F.get (.tail _ (.tail _ (.tail _ (.head _)))))) hlv <| wpAny_truthy_bool ?_
          by_cases hin : laid.any (· == x) = true
          · rw [if_neg (by simp only [hin]; decide)]
            refine wpAny_execs_nil <| wpAny_execs_nil <| idle (.inl ?_) F
            obtain ⟨z, hz, e⟩ := List.any_eq_true.mp hin
            rw [← beq_iff_eq.mp e]; exact hz
          · rw [if_pos (by simp only [hin]; decide)]
            have hnl : x ∉ laid := fun h => hin (List.any_eq_true.mpr ⟨x, h, by simp⟩)
            -- _law_ready(sign, picks, gone)
            obtain ⟨g, hg, og, pmg, cdg, docg, hgo, hgd, _⟩ := W.ready
            refine wpAny_allTrue_And_cons <| wpAny_isTrue_value <| callFn (W.keeps F.keep) hg hgd <| wpAny_items_cons <| nmL F rfl <| wpAny_items_cons <| nmL F nm'.picks <| wpAny_items_cons <| nmL F nm'.gone <| wpAny_items_nil ⟨F.keep _ _ hgo, ?_⟩
            refine ready_spec (hA1.le (by omega)) (W.keeps F.keep) hg (hp.at fun o e => F.keep _ _ e) hps (by omega) (isList_of (F.get (.tail _ (.tail _ (.head _))))) hgv fun h1 tk1 kp1 => wpAny_truthy_bool ?_
            have F1 := F.keeps (tk := tk1) kp1
            by_cases hrd : readyB x picks gone = true
            · rw [if_pos hrd]
              have hll : lv.length = laid.length := StrsAre.len hlv
              have hL := B.lenL
              have hH := B.lenH
              have hvl : hv.length = hs.length := hrep.len
              -- laid.append(sign)
              refine wpAny_allTrue_And_nil <| wpAny_execs_cons <| apStmt <| nmL F1 nm'.laid ⟨_, rfl, plainL_of (F1.get (.tail _ (.tail _ (.tail _ (.head _))))), nmL F1 rfl <| apCall (pre := [_, _, _]) F1 (by omega) fun s2 F2 => ⟨rfl, ?_⟩⟩
              -- heappush(heap, (EXACT_TOKEN_TYPES[sign], sign)) is not None
              obtain ⟨g2, hg2, og2, pmg2, cdg2, docg2, hgo2, hgd2, _⟩ := W.heappush
              obtain ⟨ka, kf, hka, hkm, hkv⟩ := (W.keeps F2.keep).tok
              obtain ⟨u, hu⟩ := hkv x (hpr x hxm)
              refine wpAny_execs_cons <| wpAny_If <| wpAny_isTrue_Compare1 <| callFn (W.keeps F2.keep) hg2 hgd2 <| wpAny_items_cons <| nmL F2 nm'.heap <| wpAny_items_cons <| wpAny_Tuple <| wpAny_items_cons <| Subscript_ <| nmG (W.keeps F2.keep) hka <| nmL F2 rfl <| tokItem hkm hu <|
                wpAny_items_cons <| nmL F2.tok rfl <| wpAny_items_nil ⟨by size_fits, wpAny_items_nil ⟨(Kp.push _ _) _ _ (F2.keep _ _ hgo2), ?_⟩⟩
              have F3 := (F2.tok (tk := s2.toks + 1)).push (tk := s2.toks + 1) (tupO (num x) u x t)
              refine (fun (H : ∀ b s3, Fm s s.heap F5.ev (upM (Str.ofString "sign") (.str x t) m) (noM (.str x t) cm) ([(b, tupO (num x) u x t), (I, io), (ta, listOf tv.toArray e4), (ga, listOf gv.toArray e3), (la, listOf (lv ++ [Value.str x t]).toArray (e2 + 1))] ++ (ha, listOf hv.toArray e1) :: imm) s3 →
                wpAny (model prog w) A1 (call (.ref g2) [.ref ha, .ref b]) _ _ s3) => H _ _ F3) ?_
              clear F3
              intro b s3 F3
              have hbg : (s3.heap.hide ha).get? b = some (tupO (num x) u x t) := F3.hideGet (.inl (.head _))
              have hrepH : RepL (fun b o => (s3.heap.hide ha).get? b = some o) hv hs := hrep.mono fun b o h => F3.hideGet (.inr h)
              have hrepV : RepL (fun b' o => (b', o) ∈ (b, tupO (num x) u x t) :: imm) (.ref b :: hv) (x :: hs) := .cons b u x t (.head _) (hrep.mono fun _ _ h => .tail _ h)
              refine heappush_spec (key := keyIn (s3.heap.hide ha)) (hA1.le (by omega)) (W.keeps F3.kpHide) (kp_of_hide _ _) (Heap.hide_self _ _) (F3.get (List.mem_append_right _ (.head _))) hrepH.tp ⟨b, u, x, t, rfl, by rw [keyIn_of hbg]; exact hbg⟩ (by omega) ?_ hg2 ?_
              · intro v hv' e
                obtain ⟨j, hj⟩ := List.mem_iff_getElem?.mp hv'
                have hjl : j < hs.length := by
                  rcases Nat.lt_or_ge j hv.length with q | q
                  · omega
                  · rw [List.getElem?_eq_none q] at hj; cases hj
                have ev : gd hv j = v := by show hv.getD j .none = v; rw [List.getD_eq_getElem?_getD, hj]; rfl
                rw [keyIn_of hbg, ← ev, hrepH.key hjl] at e
                have hmem : hs.getD j Str.empty ∈ hs := by
                  rw [List.getD_eq_getElem?_getD, List.getElem?_eq_getElem hjl]; exact List.getElem_mem hjl
                have hm2 := B.mem.mp hmem
                have := num_inj (hpr _ (B.subL _ hm2.1)) (hpr x hxm) e
                rw [this] at hm2
                exact hnl hm2.1
              · intro h4 tk4 n4 hkb hget
                obtain ⟨H1, H2⟩ := push_heap (key := keyIn (s3.heap.hide ha)) (v := .ref b) (hrepH.heap.mpr B.heap)
                generalize sd (keyIn (s3.heap.hide ha)) (.ref b) hv.length (hv ++ [.ref b]) = hv' at *
                obtain ⟨hs', hp', hr'⟩ := RepL.perm H2 hrepV
                have hh' : IsHeapS hs' := (RepL.heap (hr'.mono fun b' o' h => by
                  rcases List.mem_cons.mp h with q | q
                  · exact F3.hideGet (.inl (q ▸ .head _))
                  · exact F3.hideGet (.inr q))).mp H1
                have F4 := F3.upd (tk := tk4) hkb hget
                refine wpAny_Constant_none <| isNot_none <| wpAny_truthy_bool ?_
                rw [if_neg (by decide)]
                refine wpAny_execs_nil <| wpAny_execs_nil <| wpAny_execs_nil ⟨_, _, _, F4.perm (news' := (I, io) :: led ta ga la ha tv gv (lv ++ [Value.str x t]) hv' e4 e3 (e2 + 1) n4 ((b, tupO (num x) u x t) :: imm)) ?_,
                  lv ++ [Value.str x t], hv', e2 + 1, n4, (b, tupO (num x) u x t) :: imm, hs', laid ++ [x], rfl, nm', StrsAre.app hlv (.cons x t .nil), hr', B.push hxm hnl hrd hp' hh', ?_⟩
                · exact List.perm_middle (l₁ := [(I, io), (ta, listOf tv.toArray e4), (ga, listOf gv.toArray e3), (la, listOf (lv ++ [Value.str x t]).toArray (e2 + 1)), (ha, listOf hv'.toArray n4)])
                · intro y hy hr
                  rw [hstep] at hy
                  rcases List.mem_append.mp hy with q | q
                  · exact List.mem_append_left _ (hall y q hr)
                  · exact List.mem_append_right _ q
            · rw [if_neg hrd]
              exact wpAny_execs_nil <| wpAny_execs_nil <| idle (.inr (Bool.not_eq_true _ |>.mp hrd)) F1
        · rintro m cm nw s' ⟨lv, hv, e2, e1, imm, hs, laid, rfl, nm, hlv, hrep, B, hall⟩ F
          refine ⟨rfl, m, cm, lv, hv, e2, e1, imm, hs, laid, F, nm, hlv, hrep, B, ?_⟩
          rw [List.size_toArray, hpv, List.take_length] at hall
          exact hall
      · clear F F' hlv hrep B nm W'
        rintro fl s6 ⟨rfl, m, cm, lv, hv, e2, e1, imm, hs, laid, F, nm, hlv, hrep, B, hall⟩
        have hvl : hv.length = hs.length := hrep.len
        have hH := B.lenH
        obtain ⟨y0, hy0, hyg0, hyr0⟩ := ready_exists hpn hpr hlt
        have hpos : 0 < hs.length := List.length_pos_of_mem (B.mem.mpr ⟨hall y0 hy0 hyr0, hyg0⟩)
        obtain ⟨a0, t0, u0, eq0, hm0⟩ := hrep.get hpos
        have hz : hs.getD 0 Str.empty ∈ hs := by
          rw [List.getD_eq_getElem?_getD, List.getElem?_eq_getElem hpos]; exact List.getElem_mem hpos
        generalize hs.getD 0 Str.empty = z at hm0 hz
        -- top = heap[0]
        refine wpAny_execs_cons <| wpAny_Assign_Name <| Subscript_ <| nmL F nm.heap <| wpAny_Constant_int <| subTail (i := 0) (isList_of (F.get (.tail _ (.tail _ (.tail _ (.head _)))))) (getD_of (by omega)) (by omega) ?_
        rw [show hv.getD 0 .none = .ref a0 from eq0]
        refine stL F.tok fun s7 F7 _ => ?_
        have F7' : Fm s s.heap F5.ev _ cm ([(ta, listOf tv.toArray e4), (ga, listOf gv.toArray e3), (la, listOf lv.toArray e2)] ++ (ha, listOf hv.toArray e1) :: imm) s7 := F7
        -- heappop(heap) != top
        obtain ⟨g2, hg2, og2, pmg2, cdg2, docg2, hgo2, hgd2, _⟩ := W.heappop
        have hrepH : RepL (fun b o => (s7.heap.hide ha).get? b = some o) hv hs := hrep.mono fun b o h => F7'.hideGet (.inr h)
        have hkeyz : keyIn (s7.heap.hide ha) (gd hv 0) = num z := by rw [eq0]; exact keyIn_of (F7'.hideGet (.inr hm0))
        refine wpAny_execs_cons <| wpAny_If <| wpAny_isTrue_Compare1 <| callFn (W.keeps F7.keep) hg2 hgd2 <| wpAny_items_cons <| nmL F7 nm.heap <| wpAny_items_nil ⟨F7.keep _ _ hgo2, ?_⟩
        refine heappop_spec (key := keyIn (s7.heap.hide ha)) (hA1.le (by omega)) (W.keeps F7'.kpHide) (kp_of_hide _ _) (Heap.hide_self _ _) (F7'.get (List.mem_append_right _ (.head _))) hrepH.tp (by omega) (by omega) ?_ hg2 ?_
        · intro i j hi hj hij e
          rw [hvl] at hi hj
          have e' : keyIn (s7.heap.hide ha) (gd hv i) = keyIn (s7.heap.hide ha) (gd hv j) := e
          rw [hrepH.key hi, hrepH.key hj] at e'
          have mem : ∀ {k}, k < hs.length → hs.getD k Str.empty ∈ rowL := fun {k} hk => by
            have : hs.getD k Str.empty ∈ hs := by rw [List.getD_eq_getElem?_getD, List.getElem?_eq_getElem hk]; exact List.getElem_mem hk
            exact hpr _ (B.subL _ (B.mem.mp this).1)
          exact nodup_getD B.nodup hi hj hij (num_inj (mem hi) (mem hj) e')
        · intro h8 tk8 n8 hkb hget
          have F8 := F7'.upd (tk := tk8) hkb hget
          have hIH := hrepH.heap.mpr B.heap
          obtain ⟨H1, H2⟩ := pop_heap hIH (by omega)
          have hmin : ∀ y ∈ hs, num z ≤ num y := by
            intro y hy
            obtain ⟨j, hj⟩ := List.mem_iff_getElem?.mp hy
            have hjl : j < hs.length := by
              rcases Nat.lt_or_ge j hs.length with q | q
              · exact q
              · rw [List.getElem?_eq_none q] at hj; cases hj
            have := top_least hIH j (by omega)
            rw [hkeyz, hrepH.key hjl, List.getD_eq_getElem?_getD, hj] at this
            exact this
          rw [show hv.getD 0 .none = .ref a0 from eq0]
          generalize popL (keyIn (s7.heap.hide ha)) hv = hv' at *
          rw [eq0] at H2
          obtain ⟨hs1, hp1, hr1⟩ := RepL.perm H2.symm hrep
          have ga0 : s7.heap.get? a0 = some (tupO (num z) t0 z u0) := F7'.get (List.mem_append_right _ (.tail _ hm0))
          obtain ⟨hs', rfl, hr'⟩ : ∃ hs', hs1 = z :: hs' ∧ RepL (fun b o => (b, o) ∈ imm) hv' hs' := by
            cases hr1 with
            | cons _ t x u h r =>
              have g2 : s7.heap.get? a0 = some (tupO (num x) t x u) := F7'.get (List.mem_append_right _ (.tail _ h))
              rw [ga0] at g2
              have ex : z = x := by
                have e1 := Option.some.inj g2
                simp only [tupO, Obj.mk.injEq, Data.seq.injEq, Array.mk.injEq, List.cons.injEq, Value.int.injEq, Value.str.injEq] at e1
                exact e1.2.2.1.1.2.1.1
              exact ⟨_, by rw [ex], r⟩
          have hh' : IsHeapS hs' := (RepL.heap (hr'.mono fun b' o' h => F7'.hideGet (.inr h))).mp H1
          have B' := B.pop hz hall hmin hp1.symm hh'
          have ga8 := F8.get (List.mem_append_right _ (.tail _ hm0))
          refine nmL F8 rfl <| neSame hA1.units ga8 <| wpAny_truthy_bool ?_
          rw [if_neg (by decide)]
          have hgl2 := B.lenG
          have htl : tv.length = gone.length := by have := htv.length; simpa using this
          -- told.append(top[0])
          refine wpAny_execs_nil <| wpAny_execs_cons <| apStmt <| nmL F8 nm.told ⟨_, rfl, plainL_of (F8.get (.head _)), Subscript_ <| nmL F8 rfl <| wpAny_Constant_int <| tupItem0 ga8 <| apCall (pre := []) (F8.tok (tk := _)) (by omega) fun s9 F9 => ⟨rfl, ?_⟩⟩
          have ga9 := F9.get (.tail _ (.tail _ (.tail _ (.tail _ hm0))))
          -- gone.append(top[1])
          refine wpAny_execs_cons <| apStmt <| nmL F9 nm.gone ⟨_, rfl, plainL_of (F9.get (.tail _ (.head _))), Subscript_ <| nmL F9 rfl <| wpAny_Constant_int <| tupItem1 ga9 <| apCall (pre := [_]) (F9.tok (tk := _)) (by omega) fun s10 F10 => ⟨rfl, ?_⟩⟩
          refine wpAny_execs_nil ⟨picks.length - (gone ++ [z]).length, _, _, _, F10, by simp; omega, tv ++ [.int (num z) t0], gv ++ [.str z u0], lv, hv', e4 + 1, e3 + 1, e2, n8, imm, hs', laid, gone ++ [z], rfl, ⟨nm.heap, nm.laid, nm.gone, nm.told, nm.picks⟩, hlv, StrsAre.app hgv (.cons z u0 .nil), ?_, hr', B', rfl⟩
          rw [List.map_append]
          exact IntsAre.app htv (.cons (num z) t0 .nil)
    · rw [if_neg (by simp; omega)]
      refine ⟨rfl, m, cm, tv, e4, _, gone, F.tok, nm, htv, B.greedy, by omega⟩
  · rintro fl s6 ⟨rfl, m, cm, tv, e, rest, gone, F6, nm, htv, hgr, hgl⟩
    refine wpAny_execs_cons <| wpAny_Return_some <| nmL F6 nm.told <| F6.done (hQ _ _ ta tv e gone F6.keep ⟨fun p hp => ?_, by simp⟩ htv hgr hgl)
    rw [List.mem_singleton.mp hp]
    exact ⟨F6.get (.head _), (F6.nws _ (.head _)).2.2.2⟩
end
end Mine
end

section
open PySem PySem.W PySem.Calls PyProof.Rows
namespace Mine
open AutoSeq1 (wpAny_loadPart')
open MeetsSeq MeetsSeq2 MeetsSeq3 SeqAt

theorem lt_loopAt (l b : Addr) (avs bvs : List Value) (as bs : List Int) (n n2 : Nat) (ha : IntsAre avs as) (hb0 : IntsAre bvs bs) (hsz : as.length = bs.length) (k : Nat) :
    ∀ i : Nat, as.length - i = k → i ≤ as.length → Meets (Builtin.«list.__eq__.loop» ⟨[.ref l, .ref b, rawInt i, rawInt 0], []⟩)
      (fun _ R s => s.heap.get? l = some (listOf avs.toArray n) ∧ s.heap.get? b = some (listOf bvs.toArray n2) ∧
        R (.ok (.ret (.bool (ltL (as.drop i) (bs.drop i))))) s) := by
  have hla : avs.length = as.length := ha.length
  have hlb : bvs.length = bs.length := hb0.length
  induction k with
  | zero =>
    intro i hk hi prog w A R s h
    obtain ⟨hp, g, d, tk, os⟩ := s; obtain ⟨hl, hb, h⟩ := h
    wp_walk using wpAny_loadPart' hl, wpAny_loadPart' hb
    have hi1 : avs.toArray[((i : Nat) : Int).toNat]? = none := by simp; omega
    have hi2 : bvs.toArray[((i : Nat) : Int).toNat]? = none := by simp; omega
    rw [hi1, hi2]
    wp_walk using wpAny_loadPart' hl, wpAny_loadPart' hb
    show R (.ok (.ret (.bool (decide (avs.toArray.size < bvs.toArray.size))))) _
    rw [List.drop_of_length_le (by omega), List.drop_of_length_le (by omega)] at h
    rw [show decide (avs.toArray.size < bvs.toArray.size) = false by simp; omega]
    exact h
  | succ k ih =>
    intro i hk hi prog w A R s h
    obtain ⟨hp, g, d, tk, os⟩ := s; obtain ⟨hl, hb, h⟩ := h
    wp_walk using wpAny_loadPart' hl, wpAny_loadPart' hb
    have hlt : i < as.length := by omega
    have hlt2 : i < bs.length := by omega
    obtain ⟨t, ht⟩ := ha.get i as[i] (List.getElem?_eq_getElem hlt)
    obtain ⟨u, hu⟩ := hb0.get i bs[i] (List.getElem?_eq_getElem hlt2)
    have hi1 : avs.toArray[((i : Nat) : Int).toNat]? = some (.int as[i] t) := by simpa using ht
    have hi2 : bvs.toArray[((i : Nat) : Int).toNat]? = some (.int bs[i] u) := by simpa using hu
    have hc : ((i : Int) + 1) = ((i + 1 : Nat) : Int) := by push_cast; rfl
    rw [List.drop_eq_getElem_cons hlt, List.drop_eq_getElem_cons hlt2] at h
    rw [hi1, hi2]
    refine wpAny_bind (wpAny_eqBool_int ?_)
    cases he : (as[i] == bs[i]) with
    | true =>
      unfold ltL at h
      rw [he, if_pos rfl] at h
      wp_walk
      rw [hc]
      exact ⟨plainId_quiet plain_eq_loop _, codeAny_builtin entry_eq_loop (by
        rw [Around.under_plainId plain_eq_loop _]
        exact ih (i + 1) (by omega) (by omega) prog w A R _ ⟨hl, hb, h⟩)⟩
    | false =>
      unfold ltL at h
      rw [he, if_neg (by decide)] at h
      wp_walk using wpAny_loadPart' hl, wpAny_loadPart' hb
      rw [hi1, hi2]
      show wpAny _ _ (compareOp .Lt (.int as[i] t) (.int bs[i] u) >>= fun v => ret v) _ _ _
      exact wpAny_bind (lt_int (wpAny_pure h))

theorem list_ltAt (l b : Addr) (avs bvs : List Value) (as bs : List Int) (n n2 : Nat) (ha : IntsAre avs as) (hb0 : IntsAre bvs bs) (hsz : as.length = bs.length) :
    Meets (Builtin.«list.__lt__» ⟨[.ref l, .ref b], []⟩)
      (fun _ R s => s.heap.get? l = some (listOf avs.toArray n) ∧ s.heap.get? b = some (listOf bvs.toArray n2) ∧ R (.ok (.ret (.bool (ltL as bs)))) s) := by
  intro prog w A R s h
  obtain ⟨hp, g, d, tk, os⟩ := s; obtain ⟨hl, hb, h⟩ := h
  have f3 := AutoSeq1.sub_list_list
  wp_walk using wpAny_loadPart' hl, wpAny_loadPart' hb
  exact ⟨plainId_quiet plain_eq_loop _, codeAny_builtin entry_eq_loop (by
    rw [Around.under_plainId plain_eq_loop _]
    exact lt_loopAt l b avs bvs as bs n n2 ha hb0 hsz _ 0 rfl (Nat.zero_le _) prog w A R _ ⟨hl, hb, by simpa using h⟩)⟩

section
variable {prog : Program} {w : World} {A : Around} {E : Value → Shared → Prop} {s : Shared}
theorem ltList {l b : Addr} {avs bvs : List Value} {as bs : List Int} {n n2 : Nat} {Q : Value → Shared → Prop} (hu : A.units < cLine) (hl : s.heap.get? l = some (listOf avs.toArray n)) (hb : s.heap.get? b = some (listOf bvs.toArray n2))
    (ha : IntsAre avs as) (hb0 : IntsAre bvs bs) (hsz : as.length = bs.length) (h : Q (.bool (ltL as bs)) s) : wpAny (model prog w) A (richCompare .Lt (.ref l) (.ref b)) Q E s :=
  richCompare_meets_room (op := .Lt) ⟨_, hl, rfl⟩ ⟨_, hb, rfl⟩ PySem.F.slot_list_lt PySem.F.entry_list_lt (PySem.F.args_list_lt_2 _ _) (list_ltAt l b avs bvs as bs n n2 ha hb0 hsz)
    ⟨hl, hb, show Value.bool (ltL as bs) ≠ Value.notImplemented ∧ Q (.bool (ltL as bs)) s from ⟨(fun x => nomatch x), h⟩⟩ hu
end
end Mine
end

section
open PySem PySem.W PySem.Calls PyProof.Rows
namespace Mine

/-- a value that is a list of whole numbers -/
def IL (h : Heap) (v : Value) (ns : List Int) : Prop := ∃ b bvs n, v = Value.ref b ∧ h.get? b = some (listOf bvs.toArray n) ∧ IntsAre bvs ns
theorem IL.keeps {h h' : Heap} {v : Value} {ns : List Int} (x : IL h v ns) (k : Kp h h') : IL h' v ns := by
  obtain ⟨b, bvs, n, rfl, hb, hi⟩ := x
  exact ⟨b, bvs, n, rfl, k _ _ hb, hi⟩

section
variable {prog : Program} {w : World} {A : Around} {E : Value → Shared → Prop} {s : Shared}
theorem ltIL {v u : Value} {as bs : List Int} {Q : Value → Shared → Prop} (hu : A.units < cLine) (hv : IL s.heap v as) (hw : IL s.heap u bs) (hsz : as.length = bs.length) (h : Q (.bool (ltL as bs)) s) :
    wpAny (model prog w) A (richCompare .Lt v u) Q E s := by
  obtain ⟨b, bvs, n, rfl, hb, hi⟩ := hv
  obtain ⟨b', bvs', n', rfl, hb', hi'⟩ := hw
  exact ltList hu hb hb' hi hi' hsz h

variable {R : Result → Shared → Prop} {I S l : Addr} {h₀ : Heap} {vs : List Value} {ro : Nat → List Int} {N : Nat}

theorem min_loop (hh : A.handled = none) (hu : A.in1.units < cLine) (hl : h₀.IsList l vs.toArray) (hS : h₀.get? S = none) (hI : h₀.get? I = none) (hSI : S ≠ I)
    (hro : ∀ i v, vs[i]? = some v → IL h₀ v (ro i)) (hN : ∀ i, i < vs.length → (ro i).length = N) :
    ∀ (r j i : Nat) (s : Shared) (vb : Value) (c : Nat), vs.length - (j + 1) = r → j + 1 ≤ vs.length → Kp h₀ s.heap → s.heap.IsListIter I l (j + 1) → vs[i]? = some vb → (∀ j', j' ≤ j → ltL (ro j') (ro i) = false) →
    s.heap.get? S = some { cls := .type "list", dict := none, data := .seq #[vb, vb] c, slots := #[] } →
    (∀ i v h' tk, vs[i]? = some v → (∀ j', j' < vs.length → ltL (ro j') (ro i) = false) → Kp h₀ h' → R (.ok (.ret v)) { s with heap := h', toks := tk }) →
    codeAny (model prog w) A (.builtin "min.loop" ⟨[.ref I, .none, .ref S], []⟩) R s := by
  have hname : (toString "min" ++ toString ".loop" : String) = "min.loop" := by decide
  have hlI : l ≠ I := by
    obtain ⟨ol, hol, _⟩ := id hl
    rintro rfl
    rw [hI] at hol; cases hol
  have W := Walks.list (prog := prog) (w := w) (A := A.in1) hh I l hlI vs.toArray
  have hsz : vs.toArray.size = vs.length := List.size_toArray ..
  have kpI : ∀ {h h' : Heap}, Kp h₀ h → (∀ b o, b ∉ [I] → h.get? b = some o → h'.get? b = some o) → Kp h₀ h' := fun k q b o e =>
    q b o (fun m => by rw [List.mem_singleton.mp m, hI] at e; cases e) (k b o e)
  have kpS : ∀ {h : Heap} (g : Obj → Obj), Kp h₀ h → Kp h₀ (h.update S g) := fun g k b o e =>
    (Heap.get?_update_other _ _ (fun q : S = b => by rw [← q, hS] at e; cases e)).trans (k b o e)
  intro r
  induction r with
  | zero =>
    intro j i s vb c hr hj hk hit hvb hbest hSs hR
    have hin : j + 1 = vs.length := by omega
    refine codeAny_builtin PySem.F.entry_min_loop ?_
    rw [Around.under_plainId PySem.F.plain_min_loop _]
    show wpAny _ A.in1 (seqItems? (.ref S) >>= _) _ _ _
    refine wpAny_bind (wpAny_seqItems hSs rfl ?_)
    show wpAny _ A.in1 (tryCatch (pyNext (.ref I)) _ >>= _) _ _ _
    refine wpAny_bind (wpAny_tryCatch (W.done _ _ _ ⟨by rw [hsz, ← hin]; exact hit, hl.at fun o e => hk _ _ e⟩ fun h' tk' hk' => ?_))
    have hS' := hk' S _ (by simpa using hSI) hSs
    show wpAny _ A.in1 (updateSeq S (fun _ => #[]) >>= _) _ _ _
    refine wpAny_bind ?_
    refine wpAny_updateSeq hS' rfl (wpAny_bind (wpAny_letGo (wpAny_pure ?_)))
    exact hR i vb _ _ hvb (fun j' hj' => hbest j' (by omega)) (kpS _ (kpI hk hk'))
  | succ r ih =>
    intro j i s vb c hr hj hk hit hvb hbest hSs hR
    have hlt : j + 1 < vs.length := by omega
    have hil : i < vs.length := by
      rcases Nat.lt_or_ge i vs.length with q | q
      · exact q
      · rw [List.getElem?_eq_none q] at hvb; cases hvb
    refine codeAny_builtin PySem.F.entry_min_loop ?_
    rw [Around.under_plainId PySem.F.plain_min_loop _]
    show wpAny _ A.in1 (seqItems? (.ref S) >>= _) _ _ _
    refine wpAny_bind (wpAny_seqItems hSs rfl ?_)
    show wpAny _ A.in1 (tryCatch (pyNext (.ref I)) _ >>= _) _ _ _
    refine wpAny_bind (wpAny_tryCatch (W.item (j + 1) _ _ _ (by rw [hsz]; exact hlt) ⟨hit, hl.at fun o e => hk _ _ e⟩ fun v h' tk' hP hst' hk' => ?_))
    have hv : vs[j + 1]? = some v := by simpa using hP
    have hS' := hk' S _ (by simpa using hSI) hSs
    have k1 := kpI hk hk'
    show wpAny _ A.in1 (tryCatch (holding [v, v] (richCompare .Lt v vb >>= _)) _ >>= _) _ _ _
    refine wpAny_bind (wpAny_tryCatch (wpAny_holding (wpAny_bind (ltIL hu ((hro _ _ hv).keeps k1) ((hro _ _ hvb).keeps k1) (by rw [hN _ hlt, hN _ hil]) ?_))))
    refine wpAny_bind (wpAny_holding (wpAny_truthy_bool ?_))
    refine wpAny_bind (wpAny_letGo (wpAny_pure ?_))
    cases hb : ltL (ro (j + 1)) (ro i) with
    | true =>
      simp only [if_true]
      refine wpAny_bind ?_
      refine wpAny_updateSeq hS' rfl (wpAny_bind (wpAny_letGo ?_))
      rw [hname]
      refine wpAny_pure ⟨plainId_quiet PySem.F.plain_min_loop _, ih (j + 1) (j + 1) _ v _ (by omega) hlt (kpS _ k1) ?_ hv (fun j' hj' => ?_) (Heap.get?_update_self _ hS' rfl) hR⟩
      · obtain ⟨oI', hoI', hoc, hod⟩ := id hst'.1
        exact ⟨oI', (Heap.get?_update_other _ _ hSI).trans hoI', hoc, hod⟩
      · by_cases e : j' = j + 1
        · rw [e]; exact ltL_irrefl _
        · cases q : ltL (ro j') (ro (j + 1)) with
          | false => rfl
          | true => exact absurd (ltL_trans q hb) (by rw [hbest j' (by omega)]; decide)
    | false =>
      simp only [Bool.false_eq_true, if_false]
      refine wpAny_bind (wpAny_letGo ?_)
      rw [hname]
      refine wpAny_pure ⟨plainId_quiet PySem.F.plain_min_loop _, ih (j + 1) i _ vb c (by omega) hlt k1 hst'.1 hvb (fun j' hj' => ?_) hS' hR⟩
      by_cases e : j' = j + 1
      · rw [e]; exact hb
      · exact hbest j' (by omega)

theorem min_spec {Q : Value → Shared → Prop} (hh : A.handled = none) (hu : A.in1.units < cLine) (hl : s.heap.IsList l vs.toArray) (hne : 0 < vs.length)
    (hro : ∀ i v, vs[i]? = some v → IL s.heap v (ro i)) (hN : ∀ i, i < vs.length → (ro i).length = N)
    (hQ : ∀ i v h' tk, vs[i]? = some v → (∀ j', j' < vs.length → ltL (ro j') (ro i) = false) → Kp s.heap h' → Q v { s with heap := h', toks := tk }) :
    wpAny (model prog w) A (call (.builtin "min") [.ref l]) Q E s := by
  have hname : (toString "min" ++ toString ".loop" : String) = "min.loop" := by decide
  have hlI : l ≠ s.heap.objs.size := by
    obtain ⟨ol, hol, _⟩ := id hl
    exact Nat.ne_of_lt (Heap.lt_size hol)
  have W := Walks.list (prog := prog) (w := w) (A := A.in1) hh s.heap.objs.size l hlI vs.toArray
  refine call_function_tree PySem.F.kind_min PySem.F.plain_min PySem.F.entry_min (PySem.F.args_min1 _) ?_
  show wpAny _ A.in1 (Builtin.Builtins.bindParams "min" ["key", "default"] 0 ⟨[], []⟩ >>= _) _ _ s
  refine wpAny_bind (wpAny_of_eq (show Builtin.Builtins.bindParams "min" ["key", "default"] 0 ⟨[], []⟩ = pure [none, none] from rfl) ?_)
  refine wpAny_bind (wpAny_pure ?_)
  refine wpAny_bind (wpAny_pyIter_list hl ?_)
  refine wpAny_bind (wpAny_newObj_type ?_)
  rw [hname]
  refine wpAny_pure ⟨plainId_quiet PySem.F.plain_min_loop _, ?_⟩
  have hI0 : s.heap.get? s.heap.objs.size = none := none_size _
  have hS0 := none_of_none (Kp.push s.heap { cls := .type "list_iterator", data := .fields #[.ref l, .int 0 0] }) (none_size _)
  have hSI : (s.heap.push { cls := .type "list_iterator", data := .fields #[.ref l, .int 0 0] }).objs.size ≠ s.heap.objs.size := by rw [Heap.size_push]; omega
  refine codeAny_builtin PySem.F.entry_min_loop ?_
  rw [Around.under_plainId PySem.F.plain_min_loop _]
  refine wpAny_bind (wpAny_seqItems (Heap.get?_push_size _ rfl) rfl ?_)
  refine wpAny_bind (wpAny_tryCatch (W.item 0 _ _ _ (by rw [List.size_toArray]; exact hne) ⟨⟨_, Heap.get?_push_of_some _ (Heap.get?_push_size _ rfl), rfl, rfl⟩, (hl.push _).push _⟩ fun v h' tk' hP hst' hk' => ?_))
  have hv : vs[0]? = some v := by simpa using hP
  have hS' : h'.get? (s.heap.push { cls := .type "list_iterator", data := .fields #[.ref l, .int 0 0] }).objs.size = some { cls := .type "list", dict := none, data := .seq #[] 0, slots := #[] } := hk' _ _ (by simp) (Heap.get?_push_size _ rfl)
  have k1 : Kp s.heap h' := fun b o e => hk' b o (fun m => by rw [List.mem_singleton.mp m, hI0] at e; cases e) (Heap.get?_push_of_some _ (Heap.get?_push_of_some _ e))
  clear hk' W
  generalize hSe : (s.heap.push { cls := .type "list_iterator", data := .fields #[.ref l, .int 0 0] }).objs.size = S at *
  show wpAny _ A.in1 (updateSeq S (fun _ => #[v, v]) >>= _) _ _ _
  refine wpAny_bind ?_
  refine wpAny_updateSeq hS' rfl ?_
  rw [hname]
  refine wpAny_pure ⟨plainId_quiet PySem.F.plain_min_loop _, min_loop hh hu hl hS0 hI0 hSI hro hN _ 0 0 _ v _ rfl hne ?_ ?_ hv (fun j' hj' => ?_) (Heap.get?_update_self _ hS' rfl) hQ⟩
  · exact fun b o e => (Heap.get?_update_other _ _ (fun q => by rw [← q, hS0] at e; cases e)).trans (k1 b o e)
  · obtain ⟨oI', hoI', hoc, hod⟩ := id hst'.1
    exact ⟨oI', (Heap.get?_update_other _ _ hSI).trans hoI', hoc, hod⟩
  · rw [Nat.le_zero.mp hj']; exact ltL_irrefl _
end
end Mine
end

section
open PySem PySem.W PySem.Calls PyProof.Rows
namespace Mine
open MeetsSeq SeqAt

def isS (x : Str) : Value → Bool
  | .str y _ => y == x
  | _ => false

section
variable {prog : Program} {w : World} {A : Around} {E : Value → Shared → Prop} {s : Shared} {env : Env} {mg mb : Str → Option Value}

theorem index_strs {l : Addr} {vs : List Value} {ss : List Str} {n : Nat} {x : Str} {t : Tok} {Q : Value → Shared → Prop} (hl : s.heap.get? l = some (listOf vs.toArray n)) (hi : StrsAre vs ss) (hlen : ss.length ≤ 1000) (hx : x ∈ ss)
    (h : Q (.int (ss.idxOf x : Nat) s.toks) { s with toks := s.toks + 1 }) :
    wpAny (model prog w) A (call (.builtin "list.index") [.ref l, .str x t]) Q E s := by
  have hl2 : vs.length = ss.length := StrsAre.len hi
  have hj : ss.idxOf x < ss.length := List.idxOf_lt_length_iff.mpr hx
  have key : ∀ j (hj : j < vs.length) (hj2 : j < ss.length), isS x vs[j] = (ss[j] == x) := by
    intro j h1 h2
    obtain ⟨u, hu⟩ := StrsAre.get hi (i := j) (x := ss[j]) (List.getElem?_eq_getElem h2)
    rw [List.getElem?_eq_getElem h1] at hu
    rw [Option.some.inj hu]; rfl
  refine call_meets PySem.F.slot_list_index ⟨_, hl, rfl⟩ PySem.F.entry_list_index (PySem.F.args_list_index_2 _ _)
    (list_indexAt l vs.toArray n none #[] (.str x t) (isS x) (ss.idxOf x) (by simpa [hl2] using hj) (by omega) ?_ ?_) ⟨hl, fun y hy => ?_, h⟩
  · show isS x vs[ss.idxOf x] = true
    rw [key _ (by omega) hj]
    simp
  · intro j hjs hlt
    show isS x vs[j] = false
    rw [key _ (by omega) (by omega)]
    simpa using List.not_of_lt_findIdx hlt
  · obtain ⟨z, u, rfl, _⟩ := StrsAre.mem hi (v := y) (by simpa using hy)
    exact EqAt.str_str _ _ _ _

theorem walksLt {I : Addr} {fp wr : List Addr} {n : Nat} {P : Nat → Value → Prop} {St : Nat → Heap → Prop} (W : Walks prog w A I fp wr n P St) : Walks prog w A I fp wr n (fun i v => i < n ∧ P i v) St :=
  ⟨W.sub, W.frame, fun i s Q E hi st hQ => W.item i s Q E hi st fun v h' tk hP => hQ v h' tk ⟨hi, hP⟩, W.done, W.self⟩

theorem intsAre_of : ∀ {vs : List Value} {ns : List Int}, vs.length = ns.length → (∀ (j : Nat) (v : Value), vs[j]? = some v → ∃ t, v = .int (ns.getD j 0) t) → IntsAre vs ns
  | [], [], _, _ => .nil
  | v :: vs, n :: ns, hl, h => by
    obtain ⟨t, rfl⟩ := h 0 v rfl
    exact .cons n t (intsAre_of (by simpa using hl) fun j v hv => by simpa using h (j + 1) v (by simpa using hv))

/-- a comprehension over range(n) -/
theorem compRange {scope : Scope} {cl : List (Str × Addr)} {x : Str} {ifs : List Expr} {elt : Expr} {r : Addr} {n : Nat} {t u v : Tok} {Q : Value → Shared → Prop} (hh : A.handled = none) (hr : IsRange s.heap r 0 (n : Nat) 1 t u v) (hsz : n ≤ 100000)
    (p : Value → Bool) (R : Value → Value → Prop)
    (tests : ∀ C i t s₃ m₃ (E' : Value → Shared → Prop), i < n → s₃.heap.Ns C m₃ → m₃ x = some (.int (i : Nat) t) → Kp s.heap s₃.heap →
      wpAny (model prog w) A (forIn ifs true fun c r => if r = true then do let ok ← isTrue c (compEnvC scope cl C env) (eval c (compEnvC scope cl C env)); pure (ForInStep.yield ok) else pure (ForInStep.yield r))
        (fun ok s₄ => ok = p (.int (i : Nat) t) ∧ Keeps s₃ s₄) E' s₃)
    (elts : ∀ C i t s₃ m₃ (E' : Value → Shared → Prop), i < n → p (.int (i : Nat) t) = true → s₃.heap.Ns C m₃ → m₃ x = some (.int (i : Nat) t) → Kp s.heap s₃.heap →
      wpAny (model prog w) A (eval elt (compEnvC scope cl C env)) (fun y s₄ => R (.int (i : Nat) t) y ∧ Keeps s₃ s₄) E' s₃)
    (hQ : ∀ D (ys : List Value) e h' tk vs, Kp s.heap h' → Made s.heap h' [(D, listOf ys.toArray e)] → IntsAre vs ((List.range n).map Int.ofNat) → Paired R (vs.filter p) ys → Q (.ref D) { s with heap := h', toks := tk }) :
    CompOk prog w A env scope cl x ifs elt p R Q (.ref r) s := by
  refine wpAny_pyIter_range hr (small_one (by decide) (by decide) (by omega) (by omega)) ?_
  have hrs : Builtin.Range.rangeSize 0 ((n : Nat) : Int) 1 = ((n : Nat) : Int) := by rw [rangeSize_one]; split <;> omega
  rw [hrs]
  refine compIt (tk := s.toks) (walksLt (Walks.range hh s.heap.objs.size 0 1 n)) rfl (by rw [sizeLine_eq]; omega) ?_ ?_ p R ?_ ?_ ?_
  · show IsRangeIter _ _ _ _ _
    have e1 : (0 : Int) + ((0 : Nat) : Int) * 1 = 0 := by decide
    have e2 : (n : Int) - ((0 : Nat) : Int) = n := by omega
    rw [e1, e2]
    exact Heap.get?_push_size _ rfl
  · intro b hb
    rw [List.mem_singleton.mp hb]; exact Nat.le_refl _
  · rintro C i v s₃ m₃ E' ⟨hi, t, rfl⟩
    rw [show (0 : Int) + (i : Nat) * 1 = (i : Nat) by omega]
    exact tests C i t s₃ m₃ E' hi
  · rintro C i v s₃ m₃ E' ⟨hi, t, rfl⟩
    rw [show (0 : Int) + (i : Nat) * 1 = (i : Nat) by omega]
    exact elts C i t s₃ m₃ E' hi
  · intro D ys e h' tk vs hk hm hlen hP hR
    refine hQ D ys e h' tk vs hk hm (intsAre_of (by simpa using hlen) fun j v hv => ?_) hR
    obtain ⟨hj, t, rfl⟩ := hP j v hv
    refine ⟨t, ?_⟩
    rw [show (0 : Int) + (j : Nat) * 1 = (j : Nat) by omega]
    simp [List.getD_eq_getElem?_getD, hj]
end
end Mine
end

section
open PySem PySem.W PySem.Calls PyProof.Rows
namespace Mine

/-- values that are lists of whole numbers -/
def RLs (Has : Addr → Obj → Prop) (rvs : List Value) (rows : List (List Int)) : Prop :=
  rvs.length = rows.length ∧ ∀ (i : Nat) (v : Value), rvs[i]? = some v → ∃ b bvs n, v = Value.ref b ∧ Has b (listOf bvs.toArray n) ∧ IntsAre bvs (rows.getD i [])
theorem RLs.nil {Has : Addr → Obj → Prop} : RLs Has [] [] := ⟨rfl, by intro i v h; simp at h⟩
theorem RLs.mono {Has Has' : Addr → Obj → Prop} {rvs : List Value} {rows : List (List Int)} (x : RLs Has rvs rows) (k : ∀ b o, Has b o → Has' b o) : RLs Has' rvs rows :=
  ⟨x.1, fun i v h => by obtain ⟨b, bvs, n, e, hb, hi⟩ := x.2 i v h; exact ⟨b, bvs, n, e, k _ _ hb, hi⟩⟩
theorem RLs.snoc {Has : Addr → Obj → Prop} {rvs : List Value} {rows : List (List Int)} (x : RLs Has rvs rows) {b : Addr} {bvs : List Value} {n : Nat} {ns : List Int} (hb : Has b (listOf bvs.toArray n)) (hi : IntsAre bvs ns) :
    RLs Has (rvs ++ [.ref b]) (rows ++ [ns]) := by
  refine ⟨by simp [x.1], fun i v h => ?_⟩
  rcases Nat.lt_or_ge i rvs.length with q | q
  · rw [List.getElem?_append_left q] at h
    have := x.2 i v h
    rwa [List.getD_eq_getElem?_getD, List.getElem?_append_left (by rw [← x.1]; exact q), ← List.getD_eq_getElem?_getD]
  · rw [List.getElem?_append_right q] at h
    have e0 : i - rvs.length = 0 := by
      rcases Nat.eq_zero_or_pos (i - rvs.length) with r | r
      · exact r
      · rw [List.getElem?_eq_none (by simp; omega)] at h; cases h
    rw [e0] at h
    obtain rfl : Value.ref b = v := by simpa using h
    refine ⟨b, bvs, n, rfl, hb, ?_⟩
    rw [List.getD_eq_getElem?_getD, List.getElem?_append_right (by rw [← x.1]; exact q), ← x.1, e0]
    exact hi

theorem filter_ints {f : Int → Bool} {g : Value → Bool} (hg : ∀ x t, g (.int x t) = f x) : ∀ {vs : List Value} {ss : List Int}, IntsAre vs ss → (vs.filter g).length = (ss.filter f).length
  | _, _, .nil => rfl
  | _, _, .cons x t h => by
    rw [List.filter_cons, List.filter_cons, hg]
    split
    · simp [filter_ints hg h]
    · exact filter_ints hg h

/-- what a place of an order fails -/
def unB (picks os : List Str) (k : Nat) : Bool := !readyB (os.getD k Str.empty) picks (os.take k)
def unV (picks os : List Str) : Value → Bool
  | .int k _ => unB picks os k.toNat
  | _ => false
theorem un_empty {picks os : List Str} {vs ys : List Value} {R : Value → Value → Prop} (h : IntsAre vs ((List.range os.length).map Int.ofNat)) (hR : Paired R (vs.filter (unV picks os)) ys) : ys.isEmpty = validB picks os := by
  have e : ys.length = ((List.range os.length).filter (unB picks os)).length := by
    rw [← Paired.len hR, filter_ints (f := fun k => unB picks os k.toNat) (fun _ _ => rfl) h, List.filter_map, List.length_map]
    rfl
  unfold validB
  change ys.isEmpty = ((List.range os.length).filter (unB picks os)).isEmpty
  generalize (List.range os.length).filter (unB picks os) = z at e
  cases ys <;> cases z <;> first | rfl | (simp at e)

def numV (v y : Value) : Prop := ∃ x t u, v = Value.str x t ∧ y = Value.int (num x) u
theorem ints_of_numV : ∀ {vs ys : List Value} {ss : List Str}, StrsAre vs ss → Paired numV (vs.filter fun _ => true) ys → IntsAre ys (ss.map num)
  | _, _, _, .nil, .nil => .nil
  | _, _, _, .cons x t h, p => by
    rw [List.filter_cons_of_pos rfl] at p
    cases p with
    | cons hd tl =>
      obtain ⟨x', t', u, e1, rfl⟩ := hd
      injection e1 with e1; subst e1
      exact .cons _ u (ints_of_numV h tl)

/-- said of a def's body and scope -/
def OnDef (P : List Stmt → Scope → Prop) : Stmt → Prop
  | .FunctionDef _ _ body _ _ _ scope _ _ _ => P body scope
  | _ => True
end Mine
end

section
open PySem PySem.W PySem.Calls PyProof.Rows
namespace Mine

theorem least_row {picks gone : List Str} (hr : ∀ x ∈ picks, x ∈ rowL) (hn : picks.Nodup) (hg : Greedy picks gone) (hl : gone.length = picks.length) :
    gone.map num ∈ ((ordersOf picks).filter (validB picks)).map (·.map num) ∧ (∀ r ∈ ((ordersOf picks).filter (validB picks)).map (·.map num), r.length = picks.length) ∧
    ∀ r ∈ ((ordersOf picks).filter (validB picks)).map (·.map num), gone.map num = r ∨ ltL (gone.map num) r = true := by
  refine ⟨List.mem_map.mpr ⟨gone, List.mem_filter.mpr (greedy_in hg hl), rfl⟩, fun r hr' => ?_, fun r hr' => ?_⟩
  · obtain ⟨o, ho, rfl⟩ := List.mem_map.mp hr'
    rw [List.length_map]
    exact ordersOf_each _ picks rfl o (List.mem_filter.mp ho).1
  · obtain ⟨o, ho, rfl⟩ := List.mem_map.mp hr'
    exact greedy_least hr hn hg (perm_of_orders _ picks rfl o (List.mem_filter.mp ho).1) (List.mem_filter.mp ho).2 hl

theorem law_body (prog : Program) (w : World) (mg mb : Str → Option Value) : OnDef (fun body scope => ∀ (A : Around) (E : Value → Shared → Prop) (s s₁ : Shared) (cd : Value) (L a sa : Addr) (m cm : Str → Option Value) (vs : List Value) (ns : List Int) (Q : Flow → Shared → Prop),
    Ar 10 A → Wd prog w mg mb s.heap → Fm s s.heap (envC (Str.ofString "law") scope cd L a) m cm [] s₁ → m (Str.ofString "script") = some (.ref sa) → s.heap.IsList sa vs.toArray → IntsAre vs ns → ns.length ≤ 1000 →
    (∀ m cm nw s', Fm s s.heap (envC (Str.ofString "law") scope cd L a) m cm nw s' → Q (.ret (.bool true)) s') → wpAny (model prog w) A (execs body (envC (Str.ofString "law") scope cd L a)) Q E s₁) (stm 60) := by
  conv => whnf
  intro A E s s₁ cd L a sa m cm vs ns Q hA W F hm hs hi hlen hQ
  -- picks = _law_picks(script)
  obtain ⟨g1, hg1, og1, pm1, cd1, doc1, hgo1, hgd1, _⟩ := W.picks
  refine wpAny_execs_cons <| wpAny_Assign_Name <| callFn (W.keeps F.keep) hg1 hgd1 <| wpAny_items_cons <| nmL F hm <| wpAny_items_nil ⟨F.keep _ _ hgo1, ?_⟩
  refine picks_spec (hA.le (by omega)) (W.keeps F.keep) hg1 (hs.at fun o e => F.keep _ _ e) hi hlen fun pa h1 tk1 pvs n1 kp1 M1 hps => ?_
  obtain ⟨hpn, hpr, hpl⟩ := picksOf_ok ns
  generalize picksOf ns = picks at *
  refine stC (F.more (tk := tk1) kp1 M1) rfl fun s2 F2 _ => ?_
  -- row = _law_row()
  obtain ⟨g2, hg2, og2, pm2, cd2, doc2, hgo2, hgd2, _⟩ := W.row
  refine wpAny_execs_cons <| wpAny_Assign_Name <| callFn0 (W.keeps F2.keep) hg2 (F2.keep _ _ hgo2) hgd2 <| row_spec (hA.le (by omega)) (W.keeps F2.keep) hg2 fun ra h2 tk2 rvs kp2 M2 hrs => ?_
  refine stC (F2.more (tk := tk2) kp2 M2) rfl fun s3 F3 _ => ?_
  -- rows = []
  refine wpAny_execs_cons <| wpAny_Assign_Name <| wpAny_List <| wpAny_items_nil ⟨by size_fits, stL (F3.push (tk := s3.toks) _) fun s4 F4 _ => ?_⟩
  obtain ⟨wa, m, cm, F4, mw, cp, cr⟩ : ∃ wa m cm, Fm s s.heap _ m cm ((wa, listOf ([] : List Value).toArray 0) :: [(ra, listOf rvs.toArray 0), (pa, listOf pvs.toArray n1)]) s4 ∧ m (Str.ofString "rows") = some (.ref wa) ∧ cm (Str.ofString "picks") = some (.ref pa) ∧ cm (Str.ofString "row") = some (.ref ra) := ⟨_, _, _, F4, rfl, rfl, rfl⟩
  clear F3 F2 M1 M2
  have hpv : pvs.length = picks.length := StrsAre.len hps
  let P : Flow → Shared → Prop := fun fl s' => fl = .next ∧ ∃ (m cm : Str → Option Value) (rv : List Value) (e : Nat) (imm : List (Addr × Obj)), Fm s s.heap F4.ev m cm ((wa, listOf rv.toArray e) :: imm) s' ∧ m (Str.ofString "rows") = some (.ref wa) ∧ cm (Str.ofString "picks") = some (.ref pa) ∧
    (pa, listOf pvs.toArray n1) ∈ imm ∧ RLs (fun b o => (b, o) ∈ imm) rv (((ordersOf picks).filter (validB picks)).map (·.map num))
  refine wpAny_execs_cons <| wpAny_mono (Q := P) ?_ ?_ fun _ _ x => x
  · obtain ⟨g3, hg3, og3, pm3, cd3, doc3, hgo3, hgd3, _⟩ := W.orders
    refine forFm (s₀ := s) (h₀ := s.heap) (um := noM) (uc := upM (Str.ofString "order")) hA.hh (storeC rfl) <| callFn (W.keeps F4.keep) hg3 hgd3 <| wpAny_items_cons <| nmC F4 rfl cp <| wpAny_items_nil ⟨F4.keep _ _ hgo3, ?_⟩
    refine orders_spec (hA.le (by omega)) (W.keeps F4.keep) hg3 (isList_of (F4.get (.tail _ (.tail _ (.head _))))) hps hpl fun h5 tk5 oa ovs n5 tl kp5 M5 hol => ?_
    have F5 := (F4.more (tk := tk5) kp5 M5).perm (news' := (wa, listOf ([] : List Value).toArray 0) :: (((oa, listOf ovs.toArray n5) :: tl) ++ [(ra, listOf rvs.toArray 0), (pa, listOf pvs.toArray n1)])) List.perm_middle.symm
    have hov : ovs.length = (ordersOf picks).length := hol.len
    have hov2 : (ordersOf picks).length ≤ 5 ^ 5 := Nat.le_trans (ordersOf_le _ picks rfl hpl) (Nat.pow_le_pow_right (by decide) hpl)
    generalize hbase : ((oa, listOf ovs.toArray n5) :: tl) ++ [(ra, listOf rvs.toArray 0), (pa, listOf pvs.toArray n1)] = base at F5
    have bO : (oa, listOf ovs.toArray n5) ∈ base := by rw [← hbase]; exact .head _
    have bT : ∀ p ∈ tl, p ∈ base := fun p hp => by rw [← hbase]; exact List.mem_append_left _ (.tail _ hp)
    have bR : (ra, listOf rvs.toArray 0) ∈ base := by rw [← hbase]; exact List.mem_append_right _ (.head _)
    have bP : (pa, listOf pvs.toArray n1) ∈ base := by rw [← hbase]; exact List.mem_append_right _ (.tail _ (.head _))
    clear hbase M5 kp5
    refine ForOk.intro (items := ovs.toArray) (fun i m cm nw => ∃ rv e imm, nw = (wa, listOf rv.toArray e) :: imm ∧ (∀ p ∈ base, p ∈ imm) ∧ m (Str.ofString "rows") = some (.ref wa) ∧ cm (Str.ofString "picks") = some (.ref pa) ∧ cm (Str.ofString "row") = some (.ref ra) ∧
      RLs (fun b o => (b, o) ∈ imm) rv ((((ordersOf picks).take i).filter (validB picks)).map (·.map num))) F5 (isList_of (F5.get (.tail _ bO))) ⟨[], 0, base, rfl, fun _ h => h, mw, cp, cr, RLs.nil⟩ ?_ ?_ ?_
    · rintro i m cm nw s' ⟨rv, e, imm, rfl, hb, _⟩ F'
      exact isList_of (F'.get (.tail _ (hb _ bO)))
    · clear F5
      rintro E' i v m cm nw s' I io hv ⟨rv, e, imm, rfl, hb, mw, cp, cr, hrl⟩ F
      have hil : i < (ordersOf picks).length := by
        rcases Nat.lt_or_ge i ovs.length with q | q
        · omega
        · rw [List.getElem?_toArray, List.getElem?_eq_none q] at hv; cases hv
      obtain ⟨b, bvs, nb, hbv, hbt, hbs⟩ := hol.get (i := i) (os := (ordersOf picks)[i]) (List.getElem?_eq_getElem hil)
      obtain rfl : v = .ref b := by rw [List.getElem?_toArray, hbv] at hv; exact (Option.some.inj hv).symm
      have hstep : (ordersOf picks).take (i + 1) = (ordersOf picks).take i ++ [(ordersOf picks)[i]] := by rw [List.take_add_one, List.getElem?_eq_getElem hil]; rfl
      have hosl : ((ordersOf picks)[i]).length = picks.length := ordersOf_each _ picks rfl _ (List.getElem_mem hil)
      have hosm : ∀ x ∈ (ordersOf picks)[i], x ∈ rowL := fun x hx => hpr x ((perm_of_orders _ picks rfl _ (List.getElem_mem hil)).subset hx)
      generalize (ordersOf picks)[i] = os at *
      have cp' : upM (Str.ofString "order") (.ref b) cm (Str.ofString "picks") = some (.ref pa) := cp
      have cr' : upM (Str.ofString "order") (.ref b) cm (Str.ofString "row") = some (.ref ra) := cr
      have co' : upM (Str.ofString "order") (.ref b) cm (Str.ofString "order") = some (.ref b) := rfl
      have gB := F.get (.tail _ (.tail _ (hb _ (bT _ hbt))))
      have gP := F.get (.tail _ (.tail _ (hb _ bP)))
      have gR := F.get (.tail _ (.tail _ (hb _ bR)))
      have cO := F.cell (Str.ofString "order") _ rfl
      have cP := F.cell (Str.ofString "picks") _ rfl
      have cR := F.cell (Str.ofString "row") _ rfl
      rw [co'] at cO
      rw [cp'] at cP
      rw [cr'] at cR
      have hbl : bvs.length = os.length := StrsAre.len hbs
      -- the test
      obtain ⟨g4, hg4, og4, pm4, cd4, doc4, hgo4, hgd4, _⟩ := W.ready
      refine wpAny_execs_cons <| wpAny_If <| wpAny_isTrue_Compare1 <| compExpr (unV picks os) (fun _ _ => True) rfl (by decide) rfl (by decide) rfl <| callTy (W.keeps F.keep) W.range <| wpAny_items_cons <| callBf (W.keeps F.keep) W.len <| wpAny_items_cons <| nmC F rfl co' <| wpAny_items_nil <|
        call_len_list (isList_of gB) (by rw [List.size_toArray]; omega) <| wpAny_items_nil <| call_range_1 ?_
      have e1 : ((bvs.toArray.size : Nat) : Int) = ((os.length : Nat) : Int) := by rw [List.size_toArray, hbl]
      rw [e1]
      have kpr : ∀ {h3 : Heap} {o : Obj}, Kp (s'.heap.push o) h3 → Kp s'.heap h3 := fun k => (Kp.push _ _).trans k
      refine compRange (n := os.length) hA.hh (IsRange.new ..) (by omega) _ _ ?_ ?_ ?_
      · intro C k tk s₃ m₃ E3 hk hn hmk hkp
        have kp3 := kpr hkp
        have W3 := W.keeps (F.keep.trans kp3)
        have hkb : k < bvs.length := by omega
        obtain ⟨tb, htb⟩ := StrsAre.get hbs (i := k) (x := os[k]) (List.getElem?_eq_getElem hk)
        have lb : s₃.heap.IsList b bvs.toArray := isList_of (kp3 _ _ gB)
        refine wpAny_tests_one <| wpAny_isTrue_Not <| wpAny_isTrue_value <| callFn W3 hg4 hgd4 <| wpAny_items_cons <| Subscript_ <| cnC (cO.keeps kp3) <| cnL hn hmk <| subTail (i := k) lb htb (by omega) <|
          wpAny_items_cons <| cnC (cP.keeps kp3) <| wpAny_items_cons <| wpAny_Subscript_list_slice <| cnC (cO.keeps kp3) <| wpAny_evalPart_none <| wpAny_evalPart_some <| cnL hn hmk ⟨b, bvs.toArray, none, some (k : Int), rfl, lb, by rw [List.size_toArray, sizeLine_eq]; omega, .none, .int _ _, ?_⟩
        rw [pick_upto]
        generalize h1 : s₃.heap.push { cls := .type "slice", data := .fields #[Value.none, .int (k : Nat) tk, .none] } = H1
        have q1 : Kp s₃.heap H1 := by rw [← h1]; exact Kp.push _ _
        generalize h2 : H1.push { cls := .type "list", data := .seq (bvs.toArray.toList.take k).toArray } = H2
        have q2 : Kp H1 H2 := by rw [← h2]; exact Kp.push _ _
        have gL : H2.get? H1.objs.size = some (listOf (bvs.take k).toArray 0) := by rw [← h2]; exact getPush rfl
        have gL' : H2.get? (s₃.heap.objs.size + 1) = some (listOf (bvs.take k).toArray 0) := by rw [← gL, ← h1, Heap.size_push]
        have q3 := q1.trans q2
        refine wpAny_items_nil ⟨q3 _ _ (kp3 _ _ (F.keep _ _ hgo4)), ?_⟩
        refine ready_spec (hA.le (by omega)) (W3.keeps q3) hg4 (isList_of (q3 _ _ (kp3 _ _ gP))) hps (by omega) (isList_of gL') (StrsAre.take hbs k) fun h4 tk4 kp4 => wpAny_truthy_bool ⟨?_, ⟨_, _, rfl, q3.trans kp4⟩⟩
        show (!readyB os[k] picks (os.take k)) = !readyB (os.getD k Str.empty) picks (os.take k)
        rw [List.getD_eq_getElem?_getD, List.getElem?_eq_getElem hk]; rfl
      · intro C k tk s₃ m₃ E3 hk _ hn hmk hkp
        exact cnL hn hmk ⟨trivial, keeps_refl⟩
      · intro D ys e6 h6 tk6 kvs kp6 M6 hkv hR
        have hval := un_empty hkv hR
        have kp7 := kpr kp6
        have F6 := F.more (tk := tk6) kp7 (tl := [(D, listOf ys.toArray e6)]) ⟨fun p hp => ?_, M6.2⟩
        · refine wpAny_List <| wpAny_items_nil ⟨by size_fits, ?_⟩
          have F7 := F6.push (tk := tk6) { cls := .type "list", data := .seq ([] : List Value).toArray }
          refine eqNil hA.units (isList_of (F7.get (.tail _ (.head _)))) (isList_of (n := 0) (F7.get (.head _))) <| wpAny_truthy_bool ?_
          rw [hval]
          have F8 := F7.drop (List.sublist_append_right [(_, _), (_, _)] _)
          clear F7 F6
          have hrvl : rv.length ≤ 5 ^ 5 := by
            rw [hrl.1, List.length_map]
            exact Nat.le_trans (List.length_filter_le _ _) (Nat.le_trans (by rw [List.length_take]; omega) hov2)
          cases hvb : validB picks os with
          | false =>
            rw [if_neg (by decide)]
            refine wpAny_execs_nil <| wpAny_execs_nil ⟨_, _, _, F8, rv, e, imm, rfl, hb, mw, cp', cr', ?_⟩
            rw [hstep, List.filter_append, List.filter_cons_of_neg (by rw [hvb]; decide), List.filter_nil, List.append_nil]
            exact hrl
          | true =>
            rw [if_pos rfl]
            refine (fun (H : ∀ s8, Fm s s.heap F4.ev (noM (.ref b) m) (upM (Str.ofString "order") (.ref b) cm) ((I, io) :: (wa, listOf rv.toArray e) :: imm) s8 → Kp s'.heap s8.heap → wpAny (model prog w) A _ _ _ s8) => H _ F8 (kp7.trans (Kp.push _ _))) ?_
            clear F8
            intro s8 F8 kp8
            refine wpAny_execs_cons <| apStmt <| nmL F8 mw ⟨_, rfl, plainL_of (F8.get (.tail _ (.head _))), compExpr (fun _ => true) numV rfl (by decide) rfl (by decide) rfl <| nmC F8 rfl co' <| compList hA.hh (isList_of (kp8 _ _ gB)) (by omega) _ _ ?_ ?_ ?_⟩
            · intro C v s₃ m₃ E3 hv3 hn hmk hkp
              exact wpAny_tests_nil ⟨rfl, keeps_refl⟩
            · intro C v s₃ m₃ E3 hv3 _ hn hmk hkp
              obtain ⟨x, tx, rfl, hx⟩ := StrsAre.mem hbs hv3
              have kp9 := kp8.trans hkp
              refine wpAny_BinOp <| wpAny_Constant_int <| wpAny_Call_method rfl rfl rfl PySem.F.plainAttrs_list PySem.F.slot_list_index PySem.F.type_list_index <| cnC ((cR.keeps kp8).keeps hkp) ⟨⟨_, kp9 _ _ gR, rfl⟩, (fun a e => by cases e; exact ⟨_, kp9 _ _ gR, rfl⟩),
                methArg1 <| cnL hn hmk <| index_strs (kp9 _ _ gR) hrs (by decide) (hosm x hx) <| add_int ⟨⟨x, tx, _, rfl, rfl⟩, ⟨_, _, rfl, Kp.rfl⟩⟩⟩
            · intro D2 ys2 e2 h9 tk9 kp9 M9 hR9
              have F9 := F8.more (tk := tk9) kp9 M9
              refine apCall (pre := [(D2, listOf ys2.toArray e2), (I, io)]) F9 (by omega) fun s10 F10 => ⟨rfl, ?_⟩
              refine wpAny_execs_nil <| wpAny_execs_nil ⟨_, _, _, F10.perm (news' := (I, io) :: (wa, listOf (rv ++ [Value.ref D2]).toArray (e + 1)) :: ((D2, listOf ys2.toArray e2) :: imm)) ?_, rv ++ [Value.ref D2], e + 1, (D2, listOf ys2.toArray e2) :: imm, rfl, fun p hp => .tail _ (hb p hp), mw, cp', cr', ?_⟩
              · exact List.perm_middle (l₁ := [(I, io), (wa, listOf (rv ++ [Value.ref D2]).toArray (e + 1))])
              · rw [hstep, List.filter_append, List.filter_cons_of_pos hvb, List.filter_nil, List.map_append]
                exact (hrl.mono fun _ _ h => .tail _ h).snoc (.head _) (ints_of_numV hbs hR9)
        · have q := M6.1 p hp
          exact ⟨q.1, none_of_none (Kp.push _ _) q.2⟩
    · rintro m cm nw s' ⟨rv, e, imm, rfl, hb, mw, cp, cr, hrl⟩ F
      refine ⟨rfl, m, cm, rv, e, imm, F, mw, cp, hb _ bP, ?_⟩
      rw [List.size_toArray, hov, List.take_length] at hrl
      exact hrl
  · rintro fl s6 ⟨rfl, m, cm, rv, e, imm, F6, mw, cp, hpm, hrl⟩
    obtain ⟨g7, hg7, og7, pm7, cd7, doc7, hgo7, hgd7, _⟩ := W.byHeap
    refine wpAny_execs_cons <| wpAny_Return_some <| wpAny_Compare1 <| callFn (W.keeps F6.keep) hg7 hgd7 <| wpAny_items_cons <| nmC F6 rfl cp <| wpAny_items_nil ⟨F6.keep _ _ hgo7, ?_⟩
    refine byHeap_spec (hA.le (by omega)) (W.keeps F6.keep) hg7 (isList_of (F6.get (.tail _ hpm))) hps hpn hpr hpl fun h7 tk7 ta tvs n7 gone kp7 M7 htv hG hgl => ?_
    have F7 := F6.more (tk := tk7) kp7 M7
    have hlast := least_row hpr hpn hG hgl
    generalize hrows : ((ordersOf picks).filter (validB picks)).map (·.map num) = rows at *
    have hin := hlast.1
    have hro : ∀ i v, rv[i]? = some v → IL h7 v (rows.getD i []) := fun i v hv => by
      obtain ⟨b, bvs, n, e1, hb, hi⟩ := hrl.2 i v hv
      exact ⟨b, bvs, n, e1, F7.get (.tail _ (.tail _ hb)), hi⟩
    have hmem : ∀ i, i < rows.length → rows.getD i [] ∈ rows := fun i hi => by
      rw [List.getD_eq_getElem?_getD, List.getElem?_eq_getElem hi]; exact List.getElem_mem hi
    refine callBf (W.keeps F7.keep) W.min <| wpAny_items_cons <| nmL F7 mw <| wpAny_items_nil <| min_spec (ro := fun i => rows.getD i []) (N := picks.length) hA.hh (hA.in1 (k := 9)).units (isList_of (F7.get (.tail _ (.head _)))) ?_ hro ?_ fun i v h8 tk8 hv hbest kp8 => ?_
    · rw [hrl.1]; exact List.length_pos_of_mem hin
    · intro i hi
      exact hlast.2.1 _ (hmem i (by rw [← hrl.1]; exact hi))
    · have F8 := F7.keeps (tk := tk8) kp8
      have hil : i < rows.length := by
        rw [← hrl.1]
        rcases Nat.lt_or_ge i rv.length with q | q
        · exact q
        · rw [List.getElem?_eq_none q] at hv; cases hv
      have heq : rows.getD i [] = gone.map num := by
        rcases hlast.2.2 _ (hmem i hil) with q | q
        · exact q.symm
        · obtain ⟨j, hj, ej⟩ := List.mem_iff_getElem.mp hin
          have hb := hbest j (by rw [hrl.1]; exact hj)
          rw [List.getD_eq_getElem?_getD (l := rows) (i := j), List.getElem?_eq_getElem hj, Option.getD_some, ej, q] at hb
          cases hb
      obtain ⟨b, bvs, n, rfl, hb, hi⟩ := hrl.2 i v hv
      rw [heq] at hi
      have l1 : tvs.length = gone.length := by rw [htv.length, List.length_map]
      have l2 : bvs.length = gone.length := by rw [hi.length, List.length_map]
      refine cmp_ofEq <| SeqAt.RcAt.lists (e := fun _ => true) (isList_of (F8.get (.head _))) (isList_of (F8.get (.tail _ (.tail _ hb)))) (by simp [l1, l2]) hA.units ?_ prog w _ _ ?_
      · intro j h1 h2
        have hjg : j < (gone.map num).length := by rw [← htv.length]; simpa using h1
        obtain ⟨t, ht⟩ := htv.get j _ (List.getElem?_eq_getElem hjg)
        obtain ⟨u, hu⟩ := hi.get j _ (List.getElem?_eq_getElem hjg)
        have e1 : tvs.toArray[j] = .int (gone.map num)[j] t := by
          rw [List.getElem?_eq_getElem (by simpa using h1)] at ht
          simpa using Option.some.inj ht
        have e2 : bvs.toArray[j] = .int (gone.map num)[j] u := by
          rw [List.getElem?_eq_getElem (by simpa using h2)] at hu
          simpa using Option.some.inj hu
        rw [e1, e2, show true = ((gone.map num)[j] == (gone.map num)[j]) by simp]
        exact SeqAt.EqAt.int_int _ _ _ _
      · rw [show ((List.range tvs.toArray.size).all fun _ => true) = true by simp]
        exact hQ _ _ _ _ F8
end Mine
end

section
open PySem PySem.W PySem.Calls PyProof.Rows
namespace Mine

def recOf : Stmt → Option DefRec
  | .FunctionDef name args body _ _ _ scope _ _ pos => some { name := name, params := args, body := body, scope := scope, pos := pos }
  | _ => none

section
variable {p : Program} {loose : List Str} {mean : ExcName → Option Value} {mg mb : Str → Option Value} {h : Heap} {prog : Program} {w : World}
theorem fnAt_of (T : Top p loose mean mg mb h) {st : Stmt} {nm : Str} (hm : recOf st ∈ (recsOf p).map some) (hn : (recOf st).map (·.name) = some nm) : ∃ a, mg nm = some (.ref a) ∧ FnAt h a st := by
  obtain ⟨d, hd, e⟩ := List.mem_map.mp hm
  cases st with
  | FunctionDef name args body _ _ _ scope _ _ pos =>
    unfold recOf at e hn
    obtain rfl := Option.some.inj e
    obtain rfl : name = nm := Option.some.inj hn
    obtain ⟨a, o, pm, code, doc, h1, h2, h3, h4⟩ := T.fn _ hd
    exact ⟨a, h1, o, pm, code, doc, h2, h3, h4⟩
  | _ => cases hn

def tokOk (K : Frag) (ta : Addr) : Bool := rowL.all fun x => match nsIn K ta x with
  | some (some (.int k _)) => k == num x
  | _ => false

theorem wd_of {K : Frag} {ta : Addr} {es : Array DictEntry} {n : Nat} (T : Top p loose mean mg mb h) (X : K.In h)
    (hr : (recsOf p).map some = [1, 2, 3, 4, 55, 56, 57, 58, 59, 60].map fun i => recOf (stm i))
    (f1 : nsIn K mainGlobals "len" = some none) (f2 : nsIn K mainGlobals "range" = some none) (f3 : nsIn K mainGlobals "min" = some none)
    (ht : nsIn K mainGlobals "EXACT_TOKEN_TYPES" = some (some (.ref ta))) (hl : K.lookup ta = some ⟨.type "dict", none, .dict es n, #[]⟩) (hk : KeysLit w.params es.toList) (hv : tokOk K ta = true) : Wd prog w mg mb h where
  g := T.g
  b := T.b
  nolimit := T.nolimit
  len := ⟨mg_none_of X T.g f1, (T.builtins _ (by decide)).trans (by decide +kernel)⟩
  range := ⟨mg_none_of X T.g f2, (T.builtins _ (by decide)).trans (by decide +kernel)⟩
  min := ⟨mg_none_of X T.g f3, (T.builtins _ (by decide)).trans (by decide +kernel)⟩
  heappush := fnAt_of T (by rw [hr]; exact List.mem_map.mpr ⟨1, by decide, rfl⟩) rfl
  heappop := fnAt_of T (by rw [hr]; exact List.mem_map.mpr ⟨2, by decide, rfl⟩) rfl
  siftdown := fnAt_of T (by rw [hr]; exact List.mem_map.mpr ⟨3, by decide, rfl⟩) rfl
  siftup := fnAt_of T (by rw [hr]; exact List.mem_map.mpr ⟨4, by decide, rfl⟩) rfl
  row := fnAt_of T (by rw [hr]; exact List.mem_map.mpr ⟨55, by decide, rfl⟩) rfl
  picks := fnAt_of T (by rw [hr]; exact List.mem_map.mpr ⟨56, by decide, rfl⟩) rfl
  ready := fnAt_of T (by rw [hr]; exact List.mem_map.mpr ⟨57, by decide, rfl⟩) rfl
  byHeap := fnAt_of T (by rw [hr]; exact List.mem_map.mpr ⟨58, by decide, rfl⟩) rfl
  orders := fnAt_of T (by rw [hr]; exact List.mem_map.mpr ⟨59, by decide, rfl⟩) rfl
  tok := ⟨ta, _, mg_of X T.g ht, mapOf_K X hl hk, fun x hx => by
    have q := List.all_eq_true.mp hv x hx
    generalize hz : nsIn K ta x = z at q
    match z, q with
    | some (some (.int k t)), q =>
      rw [beq_iff_eq.mp q] at hz
      exact ⟨t, find_K hl hz⟩⟩
end

theorem caller_ar {env : Env} : Ar 10 (callerA.deeper env) := Ar.deeper (k := 10) ⟨rfl, by decide, by decide⟩

theorem law_end {prog : Program} {w : World} {mg mb : Str → Option Value} {s : Shared} {h₁ : Heap} {tk : Nat} {A : Around} {E : Value → Shared → Prop} {Q : Flow → Shared → Prop} {cd : Value} {a sa : Addr} {vs : List Value} {ns : List Int} {m : Str → Option Value} {o1 o2 o3 : Obj}
    (hA : Ar 10 A) (W : Wd prog w mg mb s.heap) (F : Fr s.heap s.heap.objs.size h₁ m) (N : News s.heap s.heap.objs.size h₁ [(s.heap.objs.size + 1 + 1 + 1, o3), (s.heap.objs.size + 1 + 1, o2), (s.heap.objs.size + 1, o1)])
    (c1 : o1.data = .cell none) (c2 : o2.data = .cell none) (c3 : o3.data = .cell none) (hm : m (Str.ofString "script") = some (.ref sa)) (hL : s.heap.IsList sa vs.toArray) (hI : IntsAre vs ns) (hlen : ¬ ((63 : Int) < (ns.length : Int)))
    (hQ : ∀ h' tk' m', Fr s.heap s.heap.objs.size h' m' → Q (.ret (.bool true)) { s with heap := h', toks := tk' }) :
    OnDef (fun body scope => wpAny (model prog w) A (execs body (envOfC (Str.ofString "law") scope s.heap.objs.size a cd)) Q E { s with heap := h₁, toks := tk }) (stm 60) := by
  conv => whnf
  refine law_body prog w mg mb A E s _ cd s.heap.objs.size a sa m (fun _ => none) vs ns Q hA W ?_ hm hL hI (by omega) ?_
  · have n1 := N _ (.tail _ (.tail _ (.head _)))
    have n2 := N _ (.tail _ (.head _))
    have n3 := N _ (.head _)
    refine ⟨⟨h₁, tk, rfl⟩, F.ns, F.keep, none_size _, ?_, ?_, ?_, ?_, (by intro p hp; cases hp), List.nodup_nil⟩
    · intro x c e
      have q := mem_of_lookup e
      rcases List.mem_cons.mp q with q | q
      · obtain ⟨_, rfl⟩ := Prod.mk.inj q; exact ⟨o3, n3.1, c3⟩
      · rcases List.mem_cons.mp q with q | q
        · obtain ⟨_, rfl⟩ := Prod.mk.inj q; exact ⟨o2, n2.1, c2⟩
        · rcases List.mem_cons.mp q with q | q
          · obtain ⟨_, rfl⟩ := Prod.mk.inj q; exact ⟨o1, n1.1, c1⟩
          · cases q
    · show List.Pairwise _ [(Str.ofString "order", s.heap.objs.size + 1 + 1 + 1), (Str.ofString "row", s.heap.objs.size + 1 + 1), (Str.ofString "picks", s.heap.objs.size + 1)]
      simp only [List.pairwise_cons, List.mem_cons, List.not_mem_nil, or_false]
      refine ⟨?_, ?_, ?_, .nil⟩
      · rintro p (rfl | rfl) e
        · have e' : (s.heap.objs.size + 1 + 1 + 1 : Nat) = (s.heap.objs.size + 1 + 1 : Nat) := e
          omega
        · have e' : (s.heap.objs.size + 1 + 1 + 1 : Nat) = (s.heap.objs.size + 1 : Nat) := e
          omega
      · rintro p rfl e
        have e' : (s.heap.objs.size + 1 + 1 : Nat) = (s.heap.objs.size + 1 : Nat) := e
        omega
      · intro p hp; cases hp
    · intro p q
      rcases List.mem_cons.mp q with q | q
      · rw [q]; exact n3.2
      · rcases List.mem_cons.mp q with q | q
        · rw [q]; exact n2.2
        · rcases List.mem_cons.mp q with q | q
          · rw [q]; exact n1.2
          · cases q
    · intro p q
      rcases List.mem_cons.mp q with q | q
      · rw [q]; rfl
      · rcases List.mem_cons.mp q with q | q
        · rw [q]; rfl
        · rcases List.mem_cons.mp q with q | q
          · rw [q]; rfl
          · cases q
  · intro m' cm' nw' s' F'
    obtain ⟨h', tk', rfl⟩ := F'.same
    exact hQ h' tk' m' ⟨F'.ns, F'.keep, Nat.le_refl _⟩
end Mine
end

section
open PySem PySem.W PyProof.Rows
set_option maxHeartbeats 0
namespace Mine
open_top hd for PySem.Challenge.rw_mj0153_01
end Mine
end

open PySem PySem.W PySem.Calls PyProof.Rows Mine in
set_option maxHeartbeats 0 in
theorem PySem.Challenge.cw_mj0153_01_holds : PySem.Challenge.rw_mj0153_01.Holds := by
  exact hd (by
    w_strict (
      k_go0
      have T := ‹Top _ _ _ _ _ _›
      have KX := ‹Frag.In _ _›
      refine law_end (W := wd_of T KX (by kernel_rfl) (by kernel_rfl) (by kernel_rfl) (by kernel_rfl) (by k_is) (by k_is) ?hk ?hv) caller_ar ‹Fr _ _ _ _› ‹News _ _ _ _› ‹_› ‹_› ‹_› rfl ‹Heap.IsList _ _ _› ‹IntsAre _ _› ‹_› ?hq
      case hk => k_keys
      case hv => kernel_rfl
      case hq =>
        intro h' tk' m' F'
        refine goodW_bool F' (by assumption) (raisesW_false ?_) ?_
        · wrow_none_raised
        · kc_post))
