import PyProof.Rows.All
import Wide.All
import OpenK.AllK
import Wide.FinOn
import PyProof.AttrMissHeap
import Lean
import PySem.Challenge.RW_xc0041_01
/-! Piecewise-linear rowmotion on a 2x2, 2x3 or 3x2 board: the law of add_func_stats.
One theorem a def (contracts Ct, CtG), one a statement of _law_run and of law; the plain law in recip; the head by hand. -/
set_option Elab.async false
set_option maxRecDepth 100000
set_option linter.unusedVariables false
set_option compiler.extract_closed false
section
open PySem PySem.W PyProof.Rows
namespace Mine
set_option maxHeartbeats 8000000 in
open_top hd for PySem.Challenge.rw_xc0041_01
end Mine
end
section
open PySem PySem.W PySem.Spec PySem.Calls PyProof.Rows
namespace Mine
theorem hide {G : Prop} (h : ∀ G' : Prop, (G → G') → G') : G := h G id
abbrev Led := List (Addr × Obj)
abbrev tupO (vs : List Value) : Obj := { cls := .type "tuple", data := .seq vs.toArray }
structure Row where
  a : Int
  b : Int
  c : Int
  d : Int
  e : Int
  f : Int

inductive RowIn (news : Led) : Value → Row → Prop
  | mk {p : Addr} {t0 t1 t2 t3 t4 t5 : Tok} {r : Row} :
    (p, tupO [.int r.a t0, .int r.b t1, .int r.c t2, .int r.d t3, .int r.e t4, .int r.f t5]) ∈ news → RowIn news (.ref p) r

inductive EntryIn (prog : Program) (w : World) (news : Led) : Value → Row → Prop
  | mk {p d q : Addr} {o : Obj} {t0 t1 t2 t3 t4 t5 t6 t7 th : Tok} {r : Row} :
    (p, tupO [.int r.a t0, .int r.b t1, .int r.c t2, .int r.d t3, .ref d]) ∈ news →
    (d, o) ∈ news → (d == sysModules) = false →
    o.IsDictOf (PySem.strKind prog w) [(Str.ofString "f", .ref q), (Str.ofString "g", .int (2 * r.e - r.f) th)] →
    (q, tupO [.int r.e t4, .int r.f t5, .int (r.a - r.f) t6, .int (r.b + r.e) t7]) ∈ news →
    EntryIn prog w news (.ref p) r

/-- a ledger that has grown -/
structure Grow (l l' : Led) : Prop where
  sub : ∀ p ∈ l, p ∈ l'
  new : ∀ p ∈ l', p ∈ l ∨ ∀ q ∈ l, q.1 < p.1
theorem Grow.refl {l : Led} : Grow l l := ⟨fun _ h => h, fun _ h => .inl h⟩
theorem allLt_mem {d : Addr} : ∀ {l : Led}, AllLt d l → ∀ p ∈ l, p.1 < d
  | [], _, _, hp => (nomatch hp)
  | q :: r, h, p, hp => by
    rcases List.mem_cons.mp hp with rfl | hp
    · exact h.1
    · exact allLt_mem h.2 p hp
theorem Grow.cons {l l' : Led} {a : Addr} {o : Obj} (h : AllLt a l') (g : Grow l l') : Grow l ((a, o) :: l') :=
  ⟨fun p hp => .tail _ (g.sub p hp), fun p hp => by
    rcases List.mem_cons.mp hp with rfl | hp
    · exact .inr fun q hq => allLt_mem h q (g.sub q hq)
    · exact g.new p hp⟩
theorem Grow.trans {a b c : Led} (g : Grow a b) (k : Grow b c) : Grow a c :=
  ⟨fun p hp => k.sub p (g.sub p hp), fun p hp => (k.new p hp).elim (fun h => g.new p h) fun h => .inr fun q hq => h q (g.sub q hq)⟩
theorem Grow.mem {l l' : Led} {p : Addr × Obj} (g : Grow l l') (h : p ∈ l) : p ∈ l' := g.sub p h
theorem mem_of {a : Addr × Obj} {l : List (Addr × Obj)} (h : a ∈ l) : List.Mem a l := h
theorem Grow.mem' {l l' : Led} {p : Addr × Obj} (g : Grow l l') (h : p ∈ l) : List.Mem p l' := g.sub p h

/-- what of l' lies above all of l -/
def fresh (l l' : Led) : Led := l'.filter fun p => decide (∀ q ∈ l, q.1 < p.1)
theorem fresh_mem {l l' : Led} {p : Addr × Obj} : p ∈ fresh l l' ↔ p ∈ l' ∧ ∀ q ∈ l, q.1 < p.1 := by
  unfold fresh
  rw [List.mem_filter, decide_eq_true_eq]
theorem fr_mem {l l' : Led} {p : Addr × Obj} (hm : p ∈ l') (h : AllLt p.1 l) : p ∈ fresh l l' := fresh_mem.mpr ⟨hm, allLt_mem h⟩
theorem fresh_sub {l l' : Led} : ∀ p ∈ fresh l l', p ∈ l' := fun _ h => (fresh_mem.mp h).1
theorem Grow.fresh {l l' : Led} : Grow l (l ++ Mine.fresh l l') :=
  ⟨fun _ h => List.mem_append_left _ h, fun _ h => (List.mem_append.mp h).imp id fun h => (fresh_mem.mp h).2⟩
theorem fresh_mono {l l' k k' : Led} (h1 : ∀ p ∈ k, p ∈ l) (h2 : ∀ p ∈ l', p ∈ k') : ∀ p ∈ Mine.fresh l l', p ∈ Mine.fresh k k' := fun p h =>
  have z := fresh_mem.mp h
  fresh_mem.mpr ⟨h2 p z.1, fun q hq => z.2 q (h1 q hq)⟩
abbrev TR (mg mb : Str → Option Value) (h : Heap) : Prop := TopRead hd.view_39 (looseW hd.view_39 []) mg mb h
/-- entering a def of the text's, over a base of which only the names are known -/
theorem code_defR {prog : Program} {w : World} {A A₀ : Around} {s : Shared} {K : Frag} {L : Addr} {h₀ base : Heap} {m mg mb : Str → Option Value} {news : List (Addr × Obj)} {env : Env} {outer : List Env} {R : Result → Shared → Prop} {name qual : Str} {params : Arguments} {body : List Stmt} {scope : Scope} {dV kV doc pm cdv ct oc : Value} {an od : Option Addr} {osl : Array (Option Value)} {f : Addr} {args : Args} {binds : List (Str × Value)}
    (hA : A.frames = some (env :: outer)) (hf : env.frame = some L) (hke : env.scope.kind = .function) (B : Below A₀ base outer h₀) (F : Fr h₀ L s.heap m) (X₀ : K.In h₀) (N : News h₀ L s.heap news) (T : TR mg mb h₀)
    (ho : K.lookup f = some ⟨oc, od, .func (fnOf name qual params body scope dV kV doc pm an cdv ct), osl⟩) (hcd : codeIn K cdv qual = true) (hroom : A.depth < recursionLimit)
    (hbind : BindsTo s (fnOf name qual params body scope dV kV doc pm an cdv ct) args binds) (hcell : ∀ x ∈ scope.names, x.2 ≠ .cell) (hloc : ∀ y ∈ binds, scope.names.lookup y.1 = some .local)
    (hco : scope.isCoroutine = false) (hgen : scope.isGenerator = false) (hk : scope.kind = .function)
    (h : ∀ g L' h₁, Fr h₀ L g m → Fr g L' h₁ (fun y => binds.reverse.lookup y) → News g L' h₁ news → Below A base (env :: outer) g → K.In g → TR mg mb g → h₀.StaysIn g → (∀ p ∈ news, p.1 < L') →
      wpAny (model prog w) (A.deeper (envOf qual scope L' f cdv)) (execs body (envOf qual scope L' f cdv))
        (fun fl s' => LeaveK h₀ L m g R (match fl with | .ret v => v | _ => .none) s')
        (fun e s' => wpAny (model prog w) (A.deeper (envOf qual scope L' f cdv)) (leaving (envOf qual scope L' f cdv) e) (fun _ s'' => R (.error e) s'') (fun e' s'' => R (.error e') s'') s')
        { s with heap := h₁, toks := s.toks + binds.length }) : codeAny (model prog w) A (.call (.ref f) args) R s :=
  callX_plain (cl := []) B F N T.nolimit hA hf hke ((X₀.keeps F.keep) _ _ ho) rfl (codeRec_of (X₀.keeps F.keep) hcd) hroom hbind hloc (fun g L' h₁ FG F' N' B' st hL => h g L' h₁ FG F' N' B' (X₀.keeps st) (T.keeps st) st hL) hcell hco hgen hk
theorem RowIn.mono {n n' : Led} {v : Value} {r : Row} (h : RowIn n v r) (g : ∀ p ∈ n, p ∈ n') : RowIn n' v r := by
  cases h with | mk h => exact .mk (g _ h)
theorem EntryIn.mono {prog : Program} {w : World} {n n' : Led} {v : Value} {r : Row} (h : EntryIn prog w n v r) (g : ∀ p ∈ n, p ∈ n') : EntryIn prog w n' v r := by
  cases h with | mk a b c d e => exact .mk (g _ a) (g _ b) c d (g _ e)
/-- the same for a def some of whose names a block closes over -/
theorem code_defCR {prog : Program} {w : World} {A A₀ : Around} {s : Shared} {K : Frag} {L : Addr} {h₀ base : Heap} {m mg mb : Str → Option Value} {news : List (Addr × Obj)} {env : Env} {outer : List Env} {R : Result → Shared → Prop} {name qual : Str} {params : Arguments} {body : List Stmt} {scope : Scope} {dV kV doc pm cdv ct oc : Value} {an od : Option Addr} {osl : Array (Option Value)} {f : Addr} {args : Args} {binds : List (Str × Value)}
    (hA : A.frames = some (env :: outer)) (hf : env.frame = some L) (hke : env.scope.kind = .function) (B : Below A₀ base outer h₀) (F : Fr h₀ L s.heap m) (X₀ : K.In h₀) (N : News h₀ L s.heap news) (T : TR mg mb h₀)
    (ho : K.lookup f = some ⟨oc, od, .func (fnOf name qual params body scope dV kV doc pm an cdv ct), osl⟩) (hcd : codeIn K cdv qual = true) (hroom : A.depth < recursionLimit)
    (hbind : BindsTo s (fnOf name qual params body scope dV kV doc pm an cdv ct) args binds) (hkind : (binds.all fun y => scope.names.lookup y.1 == some .local || scope.names.lookup y.1 == some .cell) = true)
    (hnd : ((cellsFrom 0 scope.names []).map (·.1)).Nodup) (hco : scope.isCoroutine = false) (hgen : scope.isGenerator = false) (hk : scope.kind = .function)
    (h : ∀ g L' h₁ tk cells, Fr h₀ L g m → Fr g L' h₁ (bindL (envOfC qual scope L' f cdv).kindOf binds fun _ => none) → News g L' h₁ (cells ++ news) →
      CellsAre (bindC (envOfC qual scope L' f cdv).kindOf binds fun _ => none) (cellsFrom (L' + 1) scope.names []) cells → Below A base (env :: outer) g → K.In g → TR mg mb g → h₀.StaysIn g → (∀ p ∈ news, p.1 < L') →
      wpAny (model prog w) (A.deeper (envOfC qual scope L' f cdv)) (execs body (envOfC qual scope L' f cdv))
        (fun fl s' => LeaveK h₀ L m g R (match fl with | .ret v => v | _ => .none) s')
        (fun e s' => wpAny (model prog w) (A.deeper (envOfC qual scope L' f cdv)) (leaving (envOfC qual scope L' f cdv) e) (fun _ s'' => R (.error e) s'') (fun e' s'' => R (.error e') s'') s')
        { s with heap := h₁, toks := tk }) : codeAny (model prog w) A (.call (.ref f) args) R s :=
  callX_cells B F N T.nolimit hA hf hke ((X₀.keeps F.keep) _ _ ho) rfl (codeRec_of (X₀.keeps F.keep) hcd) hroom hbind (kindsX hkind) hnd (fun g L' h₁ tk cells FG F' N' Y B' st l => h g L' h₁ tk cells FG F' N' Y B' (X₀.keeps st) (T.keeps st) st l) hco hgen hk
/-- a contract of a def of the text's: its value, what it makes -/
def Ct (prog : Program) (w : World) (mg mb : Str → Option Value) (n : Nat) (f : Value) (vs : List Value) (news : Led) (Out : Led → Value → Prop) : Prop :=
  ∀ (dp un : Nat) (gd : Option (List Code)) (cn : Str) (cs : Scope) (a : Addr) (ccd : Value) (cl : List (Str × Addr)) (outer : List Env) (A₀ : Around) (base h₀ : Heap) (L : Addr) (m : Str → Option Value) (s : Shared)
    (Q E : Value → Shared → Prop),
    Below A₀ base outer h₀ → Fr h₀ L s.heap m → (hd.heap_39 w.params).In h₀ → News h₀ L s.heap news → TR mg mb h₀ → cs.kind = .function → dp + n < recursionLimit → un + 8 * n < cLine →
    (∀ r news' h' tk', Fr h₀ L h' m → News h₀ L h' news' → Grow news news' → Out news' r → Q r { s with heap := h', toks := tk' }) →
    wpAny (model prog w) (ktrTop dp un gd cn cs L a ccd cl outer) (call f vs) Q E s
theorem Ct.use {prog : Program} {w : World} {mg mb : Str → Option Value} {n : Nat} {f : Value} {vs : List Value} {news : Led} {Out : Led → Value → Prop} {dp un : Nat} {gd : Option (List Code)} {cn : Str} {cs : Scope} {a : Addr} {ccd : Value} {cl : List (Str × Addr)} {outer : List Env} {A₀ : Around} {base h₀ : Heap} {L : Addr} {m : Str → Option Value} {s : Shared} {Q E : Value → Shared → Prop}
    (N : News h₀ L s.heap news) (B : Below A₀ base outer h₀) (F : Fr h₀ L s.heap m) (X : (hd.heap_39 w.params).In h₀) (T : TR mg mb h₀) (c : Ct prog w mg mb n f vs news Out) (k : cs.kind = .function) (d : dp + n < recursionLimit) (u : un + 8 * n < cLine)
    (h : ∀ r news' h' tk', Fr h₀ L h' m → News h₀ L h' news' → Grow news news' → Out news' r → Q r { s with heap := h', toks := tk' }) :
    wpAny (model prog w) (ktrTop dp un gd cn cs L a ccd cl outer) (call f vs) Q E s := c dp un gd cn cs a ccd cl outer A₀ base h₀ L m s Q E B F X N T k d u h
end Mine
end
section
open PySem PySem.W PySem.Spec PySem.Calls PyProof.Rows
namespace Mine
section
variable {prog : Program} {w : World} {A : Around} {E : Value → Shared → Prop} {s : Shared} {h₀ : Heap} {L : Addr} {m : Str → Option Value} {news : List (Addr × Obj)}

theorem adjust_upto (b n : Nat) (hb : b ≤ n) : Builtin.Slice.sliceAdjust none (some (b : Int)) 1 (n : Int) = (0, (b : Int)) := by
  unfold Builtin.Slice.sliceAdjust
  have h1 : ¬ ((1 : Int) < 0) := by omega
  have h2 : ¬ ((b : Int) < 0) := by omega
  simp only [h1, h2, if_false]
  congr 1
  omega
theorem places_upto (b : Nat) : Builtin.Slice.slicePlaces 0 (b : Int) 1 = b := by
  unfold Builtin.Slice.slicePlaces
  have h1 : (1 : Int) > 0 := by omega
  simp only [h1, if_true, Int.ediv_one]
  split <;> omega
theorem sliceApplied_upto {sl : Addr} {b n : Nat} {u : Tok} {Q : Int × Int × Nat → Shared → Prop} (hs : s.heap.IsSliceOf sl .none (.int b u) .none) (hb : b ≤ n) (h : Q (0, 1, b) s) :
    wpAny (model prog w) A (Builtin.Slice.sliceApplied (.ref sl) (pure (n : Int))) Q E s := by
  obtain ⟨os, hos, hcs, hds⟩ := id hs
  unfold Builtin.Slice.sliceApplied Builtin.Slice.sliceFields
  refine wpAny_bind (wpAny_bind (wpAny_field hos hds (x := .none) rfl (wpAny_bind (wpAny_field hos hds (x := .int b u) rfl (wpAny_bind (wpAny_field hos hds (x := .none) rfl (wpAny_pure ?_)))))))
  refine wpAny_bind (slicePart_none ?_)
  show wpAny _ _ (if ((1 : Int) == 0) = true then _ else _) _ _ s
  rw [if_neg (by decide)]
  refine wpAny_bind (slicePart_none (wpAny_bind (slicePart_int (wpAny_bind (wpAny_pure ?_)))))
  show wpAny _ _ (match Builtin.Slice.sliceAdjust none (some (b : Int)) 1 (n : Int) with | (lo, hi) => pure (lo, (1 : Int), Builtin.Slice.slicePlaces lo hi 1)) _ _ s
  rw [adjust_upto b n hb]
  show wpAny _ _ (pure ((0 : Int), (1 : Int), Builtin.Slice.slicePlaces 0 (b : Int) 1)) _ _ s
  rw [places_upto b]
  exact wpAny_pure h
theorem pick_upto (xs : Array Value) (b : Nat) : ((List.range b).filterMap fun (k : Nat) => xs[((0 : Int) + (k : Int) * 1).toNat]?).toArray = (xs.toList.take b).toArray := by
  have e : (fun (k : Nat) => xs[((0 : Int) + (k : Int) * 1).toNat]?) = fun k => xs[0 + k]? := by
    funext k
    have : ((0 : Int) + (k : Int) * 1).toNat = 0 + k := by omega
    rw [this]
  rw [e]
  have := pick_run xs 0 b
  rw [List.filterMap_map] at this
  have e2 : ((fun x => xs[x]?) ∘ fun x => 0 + x) = fun k => xs[0 + k]? := rfl
  rw [e2] at this
  rw [this, List.drop_zero]

theorem getItem_tuple_upto {t sl : Addr} {items : Array Value} {b : Nat} {u : Tok} {Q : Value → Shared → Prop} (ht : IsTup s.heap t items) (hs : s.heap.IsSliceOf sl .none (.int b u) .none) (hb : b < items.size)
    (h : Q (.ref s.heap.objs.size) { s with heap := s.heap.push { cls := .type "tuple", data := .seq (items.toList.take b).toArray } })
    (hsz : items.size ≤ sizeLine := by size_fits) : wpAny (model prog w) A (getItem (.ref t) (.ref sl)) Q E s := by
  have hdrop : sizeOk (.seq (items.toList.take b).toArray) := by
    show (items.toList.take b).toArray.size ≤ sizeLine
    rw [List.size_toArray, List.length_take, Array.length_toList]
    omega
  obtain ⟨os, hos, hcs, hds⟩ := id hs
  have hTs : s.TypeIs (.ref sl) "slice" := ⟨os, hos, hcs⟩
  unfold getItem
  try with_reducible refine wpAny_holding ?_
  first | refine wpAny_bind (wpAny_pure ?_) | skip
  refine wpAny_bind (wpAny_sequenceKey ht.typeIs (by decide) ?_)
  refine wpAny_bind (wpAny_callSpecial?_slot (name := Str.ofString "__getitem__") ht.typeIs slot_tuple_getitem
    (wpAny_call_entry slot_tuple_getitem ht.typeIs entry_tuple_getitem ?_ (args_tuple_getitem _ _)))
  show wpAny _ _ (Builtin.Tuple.tupleItemsOf (.ref t) >>= _) _ _ s
  refine wpAny_bind (tupleItemsOf_ ht ?_)
  refine wpAny_bind (wpAny_typeOf hTs ?_)
  rw [if_pos (by decide)]
  refine wpAny_bind (sliceApplied_upto hs (Nat.le_of_lt hb) ?_)
  have hno : ¬ (((0 : Int) == 0 && (1 : Int) == 1 && b == items.size) = true) := by
    have : (b == items.size) = false := by rw [beq_eq_false_iff_ne]; omega
    rw [this]; simp
  show wpAny _ _ (if ((0 : Int) == 0 && (1 : Int) == 1 && b == items.size) = true then _ else _) _ _ s
  rw [if_neg hno, pick_upto items b]
  first
    | exact wpAny_bind (m := Builtin.Tuple.tupleExact _) (wpAny_newObj_type (wpAny_pure ⟨_, rfl, wpAny_pure h⟩) hdrop)
    | exact wpAny_bind (m := Builtin.Tuple.tupleExact _) (wpAny_newObj_type (wpAny_bind (wpAny_pure (wpAny_pure ⟨_, rfl, wpAny_pure h⟩))) hdrop)
    | exact wpAny_bind (wpAny_bind (m := Builtin.Tuple.tupleExact _) (wpAny_newObj_type (wpAny_pure (wpAny_pure ⟨_, rfl, wpAny_pure h⟩)) hdrop))
    | exact wpAny_bind (wpAny_bind (m := Builtin.Tuple.tupleExact _) (wpAny_newObj_type (wpAny_pure ⟨_, rfl, wpAny_pure h⟩) hdrop))

theorem slice_tuple_upto {value slice : Expr} {t : Addr} {vs : List Value} {b : Nat} {u : Tok} {n : Nat} {Q : Value → Shared → Prop}
    (F : Fr h₀ L s.heap m) (N : News h₀ L s.heap news) (ht : (t, ({ cls := .type "tuple", data := .seq vs.toArray n } : Obj)) ∈ news) (hb : b < vs.length) (hsz : vs.length ≤ sizeLine)
    (h : ∀ D h', Fr h₀ L h' m → News h₀ L h' ((D, { cls := .type "tuple", data := .seq (vs.take b).toArray }) :: news) → (∀ p ∈ news, p.1 < D) → Q (.ref D) { s with heap := h' })
    (hs : subscripted slice false (.ref t) (.ref s.heap.objs.size) = operate [.ref s.heap.objs.size, .ref t] (getItem (.ref t) (.ref s.heap.objs.size)))
    (hg : ∀ r, letTemporaryGo value (.ref t) r = pure ()) :
    wpAny (model prog w) A (subscriptTail value slice (.ref t) (.ref s.heap.objs.size)) Q E { s with heap := s.heap.push { cls := .type "slice", data := .fields #[.none, .int b u, .none] } } := by
  have ht0 : IsTup s.heap t vs.toArray := ⟨_, (N _ ht).1, rfl, n, rfl⟩
  have ht' : IsTup (s.heap.push { cls := .type "slice", data := .fields #[.none, .int b u, .none] }) t vs.toArray := ht0.keeps fun _ _ e => Heap.get?_push_of_some _ e
  refine subscriptTail_ops (s := { s with heap := s.heap.push { cls := .type "slice", data := .fields #[.none, .int b u, .none] } }) ht'.typeIs slot_tuple_getitem.lookup
    (getItem_tuple_upto ht' (Heap.IsSliceOf.new ..) (by simpa using hb) ?_ (by simpa using hsz)) hs hg
  have N1 := News.push (F.push { cls := .type "slice", data := .fields #[.none, .int b u, .none] }) (N.grown fun _ _ e => Heap.get?_push_of_some _ e) { cls := .type "tuple", data := .seq (vs.take b).toArray }
  rw [Heap.size_push] at N1
  show Q (.ref (s.heap.push _).objs.size) _
  rw [Heap.size_push]
  exact h _ _ ((F.push _).push _) N1 fun p hp => Nat.lt_succ_of_lt (Heap.lt_size (N p hp).1)
theorem slice_tuple_uptoK {value slice : Expr} {t : Addr} {vs ws : List Value} {k : Int} {u : Tok} {n : Nat} {Q : Value → Shared → Prop}
    (F : Fr h₀ L s.heap m) (N : News h₀ L s.heap news) (ht : (t, ({ cls := .type "tuple", data := .seq vs.toArray n } : Obj)) ∈ news) (h0 : 0 ≤ k) (hb : k.toNat < vs.length) (hw : vs.take k.toNat = ws) (hsz : vs.length ≤ sizeLine)
    (h : ∀ D h', Fr h₀ L h' m → News h₀ L h' ((D, { cls := .type "tuple", data := .seq ws.toArray }) :: news) → (∀ p ∈ news, p.1 < D) → Q (.ref D) { s with heap := h' })
    (hs : subscripted slice false (.ref t) (.ref s.heap.objs.size) = operate [.ref s.heap.objs.size, .ref t] (getItem (.ref t) (.ref s.heap.objs.size)))
    (hg : ∀ r, letTemporaryGo value (.ref t) r = pure ()) :
    wpAny (model prog w) A (subscriptTail value slice (.ref t) (.ref s.heap.objs.size)) Q E { s with heap := s.heap.push { cls := .type "slice", data := .fields #[.none, .int k u, .none] } } := by
  have e : k = (k.toNat : Int) := by omega
  rw [e]
  subst hw
  exact slice_tuple_upto F N ht hb hsz h hs hg
theorem item_tupM {value slice : Expr} {t : Addr} {vs : List Value} {n : Nat} {k : Int} {u : Tok} {j : Nat} {x : Value} {Q : Value → Shared → Prop} (N : News h₀ L s.heap news)
    (ht : (t, ({ cls := .type "tuple", data := .seq vs.toArray n } : Obj)) ∈ news) (hlo : -(2 ^ 63) ≤ k) (hhi : k < 2 ^ 63) (hj : seqIndex? k vs.length = some j) (hx : vs[j]? = some x) (h : Q x s)
    (hs : subscripted slice false (.ref t) (.int k u) = operate [.ref t, .int k u] (getItem (.ref t) (.int k u)) := by with_unfolding_all rfl) :
    wpAny (model prog w) A (subscriptTail value slice (.ref t) (.int k u)) Q E s :=
  item_tupleT (N.isTup ht) hlo hhi hj hx h hs
theorem item_lstM {value slice : Expr} {t : Addr} {vs : List Value} {n : Nat} {k : Int} {u : Tok} {x : Value} {Q : Value → Shared → Prop} (N : News h₀ L s.heap news)
    (ht : (t, ({ cls := .type "list", data := .seq vs.toArray n } : Obj)) ∈ news) (h0 : 0 ≤ k) (hhi : k < 2 ^ 63) (hx : vs[k.toNat]? = some x) (h : Q x s)
    (hs : subscripted slice false (.ref t) (.int k u) = operate [.ref t, .int k u] (getItem (.ref t) (.int k u)) := by with_unfolding_all rfl) :
    wpAny (model prog w) A (subscriptTail value slice (.ref t) (.int k u)) Q E s :=
  have hL := N.isList ht
  tail_any hL.typeIs slot_list_getitem.lookup (wpAny_getItem_list hL h0 hhi (by simpa using hx) h) hs
end
end Mine
end
section
open PySem PySem.W PySem.Spec PySem.Calls PyProof.Rows
namespace Mine
theorem fill1 : PySem.Challenge.rw_xc0041_01 = PySem.Challenge.rw_xc0041_01 ∧ hd.heap_39 = hd.heap_39 := by k_fill; exact ⟨rfl, rfl⟩
local macro_rules | `(tactic| k_mem) => `(tactic| (refine' mem_of ?_; ktr_member))
local macro_rules | `(tactic| k_mem) => `(tactic| (refine Grow.mem' ?_ ?_; with_reducible assumption; k_mem))
local macro_rules | `(tactic| ktn_ord) => `(tactic| first | exact Grow.refl | with_reducible assumption | (refine Grow.cons ?_ ?_; (first | assumption | exact allLt_of (by assumption)); ktn_ord) | (refine Grow.trans ?_ ?_; rotate_left; with_reducible assumption; ktn_ord))
local macro_rules | `(tactic| ktn_ord) => `(tactic| ((with_reducible show AllLt _ _); first | assumption | exact allLt_of (by assumption) | exact And.right (by assumption) | exact And.right (And.right (by assumption)) | exact And.right (And.right (And.right (by assumption)))))
local macro_rules | `(tactic| walk_at $s:str) => `(tactic| k_extra $s)
theorem lay_1 : True := by
  k_with "subscriptTail" => (k_here; (with_reducible show wpAny _ _ (subscriptTail _ (PySem.Expr.Slice none (some _) none _) (Value.ref _) (Value.ref _)) _ _ _); k_dflt (refine slice_tuple_uptoK (by k_asm) (by k_asm) (by k_mem) (by decide) (by exact Nat.le_of_ble_eq_true rfl) (by kl_lit) (by exact Nat.le_of_ble_eq_true rfl) ?_ (by with_unfolding_all rfl) (by kmk_pure)); intro D'_k h'_k F'_k N'_k l1_k; (try k_lt l1_k); (try k_sweep))
  k_with "subscriptTail" => (k_here; (with_reducible show wpAny _ _ (subscriptTail _ _ (Value.ref _) (Value.int _ _)) _ _ _); k_dflt (refine item_tupM (by k_asm) (by k_mem) (by decide) (by decide) (by rfl) (by rfl) ?_; k_whole))
  k_with "subscriptTail" => (k_here; (with_reducible show wpAny _ _ (subscriptTail _ _ (Value.ref _) (Value.int _ _)) _ _ _); k_dflt (refine item_lstM (by k_asm) (by k_mem) (by decide) (by decide) (by rfl) ?_; k_whole))
  k_with "subscriptTail" => (k_here; first | ((with_reducible show wpAny _ _ (subscriptTail _ _ (Value.ref _) (Value.str _ _)) _ _ _); k_dflt (refine kdt_tail (knd := PySem.strKind _ _) (by k_asm) (by k_mem) (by k_asm) (kdt_getItem (knd := PySem.strKind _ _) (by k_asm) (by k_mem) (by k_asm) (strKind_is _ _ _ _) (by rfl) ?_))) | ((with_reducible show wpAny _ _ (subscriptTail _ _ (Value.ref _) (Value.int _ _)) _ _ _); k_dflt (refine kdt_tail (knd := PySem.intKind _ _) (by k_asm) (by k_mem) (by k_asm) (kdt_getItem (knd := PySem.intKind _ _) (by k_asm) (by k_mem) (by k_asm) (intKind_is _ _ _ _) (by rfl) ?_))))
  k_with "setItem ref str" => (k_here; k_dflt (refine kda_set (knd := PySem.strKind _ _) (by k_asm) (by k_asm) (by k_updF) (by k_asm) (strKind_is _ _ _ _) (by (rw [sizeLine_eq]; exact Nat.le_of_ble_eq_true (by with_unfolding_all rfl))) ?_); intro h'_k o'_k F'_k N'_k hd'_k; (try dsimp only at N'_k))
  trivial
set_option maxHeartbeats 4000000 in
theorem law_row_ct {prog w mg mb news v r} (hR : EntryIn prog w news v r) : Ct prog w mg mb 10 (.ref 70) [v] news (fun n v => RowIn (fresh news n) v r) := by
  intro dp un gd cn cs a ccd cl outer A₀ base h₀ L m s Q E B F X N T hk hdp hun hret
  cases hR
  refine wpAny_call ?_
  k_dflt (refine code_defR (by exact rfl) (by exact rfl) (by assumption) (by k_asm) (by k_asm) (by k_asm) (by k_asm) (by k_asm) (by k_is) (by k_is) (by ktr_room) (by exact BindsTo.of_eq rfl) (by decide) (by exact locs rfl) (by exact rfl) (by exact rfl) (by exact rfl) ?_; k_whole; intro g'_k L'_k h'_k FG'_k F'_k N'_k B'_k X'_k T'_k st'_k hL'_k; (try dsimp only); (try k_fold))
  k_steps
  rename Fr h₀ L _ m => kF; rename News h₀ L _ _ => kN
  exact hret _ _ _ _ kF kN (by ktn_ord) (RowIn.mk (fr_mem (by k_mem) (by ktn_ord)))
end Mine
theorem Mine.lay_2 : True := by
  k_with_none
  trivial
end
section
open PySem PySem.W PySem.Spec PySem.Calls PyProof.Rows
namespace Mine
local macro_rules | `(tactic| k_mem) => `(tactic| (refine' mem_of ?_; ktr_member))
local macro_rules | `(tactic| k_mem) => `(tactic| (refine Grow.mem' ?_ ?_; with_reducible assumption; k_mem))
local macro_rules | `(tactic| ktn_ord) => `(tactic| first | exact Grow.refl | with_reducible assumption | (refine Grow.cons ?_ ?_; (first | assumption | exact allLt_of (by assumption)); ktn_ord) | (refine Grow.trans ?_ ?_; rotate_left; with_reducible assumption; ktn_ord))
local macro_rules | `(tactic| walk_at $s:str) => `(tactic| k_extra $s)
theorem lay_3 : True := by
  k_with "eval Dict" => (k_here; k_dflt (refine kdn_str (by rfl) (by k_asm) (by k_asm) (by exact TopRead.nolimit (by k_asm)) (by rfl) (by rfl) (by exact List.cons_ne_nil _ _) (by exact Nat.le_of_ble_eq_true rfl) ?_); intro d'_k h'_k o'_k F'_k N'_k l1_k lo'_k hd'_k; (try k_lt l1_k))
  k_with "subscriptTail" => (k_here; (with_reducible show wpAny _ _ (subscriptTail _ (PySem.Expr.Slice none (some _) none _) (Value.ref _) (Value.ref _)) _ _ _); k_dflt (refine slice_tuple_uptoK (by k_asm) (by k_asm) (by k_mem) (by decide) (by exact Nat.le_of_ble_eq_true rfl) (by kl_lit) (by exact Nat.le_of_ble_eq_true rfl) ?_ (by with_unfolding_all rfl) (by kmk_pure)); intro D'_k h'_k F'_k N'_k l1_k; (try k_lt l1_k); (try k_sweep))
  k_with "subscriptTail" => (k_here; (with_reducible show wpAny _ _ (subscriptTail _ _ (Value.ref _) (Value.int _ _)) _ _ _); k_dflt (refine item_tupM (by k_asm) (by k_mem) (by decide) (by decide) (by rfl) (by rfl) ?_; k_whole))
  k_with "subscriptTail" => (k_here; (with_reducible show wpAny _ _ (subscriptTail _ _ (Value.ref _) (Value.int _ _)) _ _ _); k_dflt (refine item_lstM (by k_asm) (by k_mem) (by decide) (by decide) (by rfl) ?_; k_whole))
  k_with "subscriptTail" => (k_here; first | ((with_reducible show wpAny _ _ (subscriptTail _ _ (Value.ref _) (Value.str _ _)) _ _ _); k_dflt (refine kdt_tail (knd := PySem.strKind _ _) (by k_asm) (by k_mem) (by k_asm) (kdt_getItem (knd := PySem.strKind _ _) (by k_asm) (by k_mem) (by k_asm) (strKind_is _ _ _ _) (by rfl) ?_))) | ((with_reducible show wpAny _ _ (subscriptTail _ _ (Value.ref _) (Value.int _ _)) _ _ _); k_dflt (refine kdt_tail (knd := PySem.intKind _ _) (by k_asm) (by k_mem) (by k_asm) (kdt_getItem (knd := PySem.intKind _ _) (by k_asm) (by k_mem) (by k_asm) (intKind_is _ _ _ _) (by rfl) ?_))))
  k_with "setItem ref str" => (k_here; k_dflt (refine kda_set (knd := PySem.strKind _ _) (by k_asm) (by k_asm) (by k_updF) (by k_asm) (strKind_is _ _ _ _) (by (rw [sizeLine_eq]; exact Nat.le_of_ble_eq_true (by with_unfolding_all rfl))) ?_); intro h'_k o'_k F'_k N'_k hd'_k; (try dsimp only at N'_k))
  trivial
inductive RowL (news : Led) : Value → Row → Prop
  | mk {p : Addr} {n : Nat} {t0 t1 t2 t3 t4 t5 : Tok} {r : Row} :
    (p, ({ cls := .type "list", data := .seq [.int r.a t0, .int r.b t1, .int r.c t2, .int r.d t3, .int r.e t4, .int r.f t5].toArray n } : Obj)) ∈ news → RowL news (.ref p) r
local macro_rules | `(tactic| ktn_ord) => `(tactic| ((with_reducible show AllLt _ _); first | assumption | exact allLt_of (by assumption) | exact And.right (by assumption) | exact And.right (And.right (by assumption)) | exact And.right (And.right (And.right (by assumption)))))
set_option maxHeartbeats 4000000 in
theorem law_entry_ct {prog w mg mb news v r} (hR : RowL news v r) : Ct prog w mg mb 10 (.ref 63) [v] news (fun n v => EntryIn prog w (fresh news n) v r) := by
  intro dp un gd cn cs a ccd cl outer A₀ base h₀ L m s Q E B F X N T hk hdp hun hret
  cases hR
  refine wpAny_call ?_
  k_dflt (refine code_defR (by exact rfl) (by exact rfl) (by assumption) (by k_asm) (by k_asm) (by k_asm) (by k_asm) (by k_asm) (by k_is) (by k_is) (by ktr_room) (by exact BindsTo.of_eq rfl) (by decide) (by exact locs rfl) (by exact rfl) (by exact rfl) (by exact rfl) ?_; k_whole; intro g'_k L'_k h'_k FG'_k F'_k N'_k B'_k X'_k T'_k st'_k hL'_k; (try dsimp only); (try k_fold))
  k_steps
  rename Fr h₀ L _ m => kF; rename News h₀ L _ _ => kN
  exact hret _ _ _ _ kF kN (by ktn_ord) (EntryIn.mk (fr_mem (by k_mem) (by ktn_ord)) (fr_mem (by k_mem) (by ktn_ord)) (by assumption) (by assumption) (fr_mem (by k_mem) (by ktn_ord)))
end Mine
theorem Mine.lay_4 : True := by
  k_with_none
  trivial
end
section
open PySem PySem.W PySem.Spec PySem.Calls PyProof.Rows
namespace Mine
abbrev listO (vs : List Value) (n : Nat) : Obj := { cls := .type "list", data := .seq vs.toArray n }

/-- a frame of which some names are known -/
@[reducible] def cf : List (Str × Value) → (Str → Option Value) → Str → Option Value
  | [], u => u
  | (x, v) :: r, u => fun y => if y = x then some v else cf r u y
def Knows (m : Str → Option Value) : List (Str × Value) → Prop
  | [] => True
  | (x, v) :: r => m x = some v ∧ Knows m r
theorem cf_of {m : Str → Option Value} : ∀ {l : List (Str × Value)}, Knows m l → m = cf l m
  | [], _ => rfl
  | (x, v) :: r, h => by
    funext y
    show m y = if y = x then some v else cf r m y
    by_cases e : y = x
    · rw [if_pos e, e]; exact h.1
    · rw [if_neg e, ← cf_of h.2]
/-- the end of a turn: the frame, the ledger with the loop's own objects its, the rest apart from them, what holds -/
inductive TEnd (h₀ : Heap) (L : Addr) (s₁ : Shared) (its : Led) (rest : (Str → Option Value) → Led → Prop) (s₂ : Shared) : Prop
  | mk (h' : Heap) (tk : Nat) (m' : Str → Option Value) (news' : Led) : s₂ = { s₁ with heap := h', toks := tk } → Fr h₀ L h' m' → News h₀ L h' (its ++ news') → (∀ p ∈ news', ∀ q ∈ its, p.1 ≠ q.1) → rest m' news' → TEnd h₀ L s₁ its rest s₂
theorem gen2 {M : Model} {A : Around} {α β : Type} {c₁ : Sem β} {c₂ : Sem α} {P : α → Shared → Prop} {E : Value → Shared → Prop} {s : Shared} (h : ∀ (P' : α → Shared → Prop) (E' : Value → Shared → Prop), (∀ f s', P f s' → P' f s') → wpAny M A c₁ (fun _ s₂ => wpAny M A c₂ P' E' s₂) E' s) : wpAny M A c₁ (fun _ s₂ => wpAny M A c₂ P E s₂) E s := h P E fun _ _ x => x
theorem gen2q {M : Model} {A : Around} {α β : Type} {c₁ : Sem β} {c₂ : Sem α} {P : α → Shared → Prop} {E : Value → Shared → Prop} {s : Shared} (h : ∀ P' : α → Shared → Prop, (∀ f s', P f s' → P' f s') → wpAny M A c₁ (fun _ s₂ => wpAny M A c₂ P' E s₂) E s) : wpAny M A c₁ (fun _ s₂ => wpAny M A c₂ P E s₂) E s := h P fun _ _ x => x
def TPost (h₀ : Heap) (L : Addr) (s₁ : Shared) (its : Led) (rest : (Str → Option Value) → Led → Prop) (Q : Flow → Shared → Prop) (f : Flow) (s₂ : Shared) : Prop :=
  match f with
  | .ret v => Q (.ret v) s₂
  | .brk => Q .next s₂
  | _ => TEnd h₀ L s₁ its rest s₂

theorem TPost.fin {h₀ : Heap} {L : Addr} {s₁ : Shared} {its news' : Led} {R : (Str → Option Value) → Led → Prop} {Q : Flow → Shared → Prop} {h' : Heap} {tk : Nat} {m' : Str → Option Value} (F : Fr h₀ L h' m') (N : News h₀ L h' (its ++ news')) (off : ∀ p ∈ news', ∀ q ∈ its, p.1 ≠ q.1) (j : R m' news') : TPost h₀ L s₁ its R Q .next { s₁ with heap := h', toks := tk } := ⟨h', tk, m', news', rfl, F, N, off, j⟩
section
variable {prog : Program} {w : World} {A : Around} {E : Value → Shared → Prop} {s : Shared} {env : Env} {h₀ : Heap} {target : Expr} {body : List Stmt} {Q : Flow → Shared → Prop}

theorem AllObj.of {ws : List (Addr × String)} {k : Led → Prop} (h : ∀ its : Led, its.map (·.1) = ws.map (·.1) → k its) : AllObj ws k := by
  induction ws generalizing k with
  | nil => exact h [] rfl
  | cons a r ih =>
    intro o _
    exact ih fun its e => h ((a.1, o) :: its) (by simp [e])

theorem items_inv {ws : List (Addr × String)} {keep : Led} {xs : List Itm} (Inv : Nat → (Str → Option Value) → Led → Prop)
    (step : ∀ i a v m₁ news₁ h tk (its : Led), xs[i]? = some a → Inv i m₁ news₁ → SubL keep news₁ → (∀ p ∈ news₁, ∀ q ∈ ws, p.1 ≠ q.1) → a.Is v h → its.map (·.1) = ws.map (·.1) → Fr h₀ env.locals h m₁ → News h₀ env.locals h (its ++ news₁) →
      wpAny (model prog w) A (assign target env v) (fun _ s₂ => wpAny (model prog w) A (execs body env) (TPost h₀ env.locals { s with heap := h, toks := tk } its (fun m' n' => SubL keep n' ∧ Inv (i + 1) m' n') Q) E s₂) E { s with heap := h, toks := tk })
    (done : ∀ m₁ news₁ h tk, Inv xs.length m₁ news₁ → Fr h₀ env.locals h m₁ → News h₀ env.locals h news₁ → Q .next { s with heap := h, toks := tk })
    {m : Str → Option Value} {news : Led} (h0 : Inv 0 m news) (hk : SubL keep news) (hoff : ∀ p ∈ news, ∀ q ∈ ws, p.1 ≠ q.1) :
    ItemsRest prog w A E h₀ env target body Q s ws keep xs m news := by
  have all : ∀ (j i : Nat) (m : Str → Option Value) (news : Led), j = xs.length - i → i ≤ xs.length → Inv i m news → SubL keep news → (∀ p ∈ news, ∀ q ∈ ws, p.1 ≠ q.1) → ItemsRest prog w A E h₀ env target body Q s ws keep (xs.drop i) m news := by
    intro j
    induction j with
    | zero =>
      intro i m news hj hi hI _ _
      have e : i = xs.length := by omega
      subst e
      rw [List.drop_length]
      exact fun h tk F N => done m news h tk hI F N
    | succ j ih =>
      intro i m news hj hi hI hk hoff
      have hlt : i < xs.length := by omega
      rw [List.drop_eq_getElem_cons hlt]
      intro v h tk ha F
      refine AllObj.of fun its e N => ?_
      refine wpAny_mono (step i xs[i] v m news h tk its (List.getElem?_eq_getElem hlt) hI hk hoff ha e F N) (fun _ s₂ h₂ => wpAny_mono h₂ (fun f s₃ h₃ => ?_) fun _ _ x => x) fun _ _ x => x
      have conv : TEnd h₀ env.locals { s with heap := h, toks := tk } its (fun m' n' => SubL keep n' ∧ Inv (i + 1) m' n') s₃ →
          UnrEndW h₀ env.locals { s with heap := h, toks := tk } its (fun m' n' => SubL keep n' ∧ ItemsRest prog w A E h₀ env target body Q s ws keep (xs.drop (i + 1)) m' n') s₃ := by
        rintro ⟨h', tk', m', news', rfl, F', N', off', hk', hI'⟩
        refine ⟨h', tk', m', news', rfl, F', N', off', hk', ih (i + 1) m' news' (by omega) hlt hI' hk' fun p hp q hq => ?_⟩
        have : q.1 ∈ its.map (·.1) := by rw [e]; exact List.mem_map_of_mem hq
        obtain ⟨r, hr, hre⟩ := List.mem_map.mp this
        rw [← hre]
        exact off' p hp r hr
      cases f with
      | ret v => exact h₃
      | brk => exact h₃
      | next => exact conv h₃
      | cont => exact conv h₃
  have := all (xs.length - 0) 0 m news rfl (Nat.zero_le _) h0 hk hoff
  rwa [List.drop_zero] at this

theorem its_one {I : Addr} {n : String} {its : Led} (h : its.map (·.1) = [(I, n)].map (·.1)) : ∃ it, its = [(I, it)] := by
  have hl : its.length = 1 := by
    have := congrArg List.length h
    rwa [List.length_map, List.length_map] at this
  obtain ⟨q, rfl⟩ := List.length_eq_one_iff.mp hl
  have e : q.1 = I := (List.cons.inj h).1
  exact ⟨q.2, by rw [← e]⟩
/-- a loop over a list of the ledger's -/
theorem list_loop {ax : Addr} {vs : List Value} {n : Nat} {m₀ : Str → Option Value} {news : Led} (Inv : Nat → (Str → Option Value) → Led → Prop)
    (hh : A.handled = none) (F : Fr h₀ env.locals s.heap m₀) (N : News h₀ env.locals s.heap news) (hm : (ax, listO vs n) ∈ news) (h0 : Inv 0 m₀ news)
    (step : ∀ I i v m₁ news₁ h tk (it : Obj), (∀ p ∈ news, p.1 < I) → vs[i]? = some v → Inv i m₁ news₁ → (ax, listO vs n) ∈ news₁ → (∀ p ∈ news₁, p.1 ≠ I) → Fr h₀ env.locals h m₁ → News h₀ env.locals h ((I, it) :: news₁) →
      wpAny (model prog w) A (assign target env v) (fun _ s₂ => wpAny (model prog w) A (execs body env) (TPost h₀ env.locals { s with heap := h, toks := tk } [(I, it)] (fun m' n' => (ax, listO vs n) ∈ n' ∧ Inv (i + 1) m' n') Q) E s₂) E { s with heap := h, toks := tk })
    (done : ∀ m₁ news₁ h tk, Inv vs.length m₁ news₁ → Fr h₀ env.locals h m₁ → News h₀ env.locals h news₁ → Q .next { s with heap := h, toks := tk }) :
    wpAny (model prog w) A (pyIter (.ref ax)) (fun it s₂ => TurnsAt prog w A h₀ env target body Q E it s₂) E s := by
  refine iter_listTurns hh F N hm rfl rfl fun I hI => ?_
  refine items_inv Inv ?_ ?_ h0 ⟨hm, trivial⟩ (fun p hp q hq => by rw [List.mem_singleton.mp hq]; exact Nat.ne_of_lt (hI p hp))
  · intro i a v m₁ news₁ h tk its ha hJ hk hoff hav hits F₁ N₁
    have ha' : ∃ x, vs[i]? = some x ∧ a = .val x := by
      rw [List.getElem?_map] at ha
      cases hx : vs[i]? with
      | none => rw [hx] at ha; cases ha
      | some x => rw [hx] at ha; exact ⟨x, rfl, (Option.some.inj ha).symm⟩
    obtain ⟨x, hx, rfl⟩ := ha'
    have hvx : v = x := hav
    subst hvx
    obtain ⟨it, rfl⟩ : ∃ it, its = [(I, it)] := its_one hits
    refine wpAny_mono (step I i v m₁ news₁ h tk it hI hx hJ hk.1 (fun p hp => hoff p hp _ (List.mem_singleton.mpr rfl)) F₁ N₁) (fun _ s₂ h₂ => wpAny_mono h₂ (fun f s₃ h₃ => ?_) fun _ _ e => e) fun _ _ e => e
    have conv : TEnd h₀ env.locals { s with heap := h, toks := tk } [(I, it)] (fun m' n' => (ax, listO vs n) ∈ n' ∧ Inv (i + 1) m' n') s₃ → TEnd h₀ env.locals { s with heap := h, toks := tk } [(I, it)] (fun m' n' => SubL [(ax, listO vs n)] n' ∧ Inv (i + 1) m' n') s₃ := by
      rintro ⟨h', tk', m', news', e, F', N', off', hk', hI'⟩
      exact ⟨h', tk', m', news', e, F', N', off', ⟨hk', trivial⟩, hI'⟩
    cases f with
    | ret v => exact h₃
    | brk => exact h₃
    | next => exact conv h₃
    | cont => exact conv h₃
  · intro m₁ news₁ h tk hJ F₁ N₁
    rw [List.length_map] at hJ
    exact done m₁ news₁ h tk hJ F₁ N₁
end
end Mine
end
section
open PySem PySem.W PySem.Spec PySem.Calls PyProof.Rows
namespace Mine
section
variable {prog : Program} {w : World} {A : Around} {E : Value → Shared → Prop} {s : Shared}

theorem nextOf_tuple {it t : Addr} {i : Nat} {items : Array Value} {x : Value} {Q : Value → Shared → Prop} (hit : s.heap.IsTupleIter it t i)
    (ht : s.heap.IsTuple t items) (hx : items[i]? = some x)
    (hQ : ∀ h', h'.IsTupleIter it t (i + 1) → Heap.SameBut it s.heap h' → Q x { s with heap := h' }) :
    wpAny (model prog w) A (Builtin.SmallTypes.nextOf (.ref it)) Q E s := by
  obtain ⟨o, ho, hc, hd⟩ := id hit
  obtain ⟨ol, hol, _, nl, hdl⟩ := ht
  unfold Builtin.SmallTypes.nextOf
  refine wpAny_bind (wpAny_callSpecial?_slot (name := Str.ofString "__next__") hit.typeIs F.slot_tuple_iterator_next
    (wpAny_call_entry F.slot_tuple_iterator_next hit.typeIs F.entry_tuple_iterator_next ?_ (F.args_tuple_iterator_next_1 _)))
  show wpAny _ _ (field (.ref it) 0 >>= _) _ _ s
  refine wpAny_bind (wpAny_field ho hd (x := .ref t) rfl ?_)
  show wpAny _ _ (if (Value.ref t == Value.none) = true then _ else _) _ _ s
  rw [if_neg (show ¬ ((Value.ref t == Value.none) = true) from Bool.false_ne_true)]
  show wpAny _ _ (field (.ref it) 1 >>= _) _ _ s
  refine wpAny_bind (wpAny_field ho hd (x := .int i 0) rfl ?_)
  show wpAny _ _ (seqItems? (.ref t) >>= _) _ _ s
  refine wpAny_bind (wpAny_seqItems hol hdl ?_)
  simp only [Int.toNat_natCast, hx]
  refine wpAny_bind (wpAny_setField ho hd (by simp) (wpAny_pure ⟨x, rfl, wpAny_pure (hQ _ ?_ (Heap.SameBut.update ..))⟩))
  exact ⟨_, Heap.get?_update_self _ ho (Obj.isFreed_of_fields (Obj.data_mapFields hd _)), (Obj.cls_mapFields ..).trans hc, by
    rw [Obj.data_mapFields hd]; simp [rawInt]⟩

theorem nextOf_tuple_end {it t : Addr} {i : Nat} {items : Array Value} {Q : Value → Shared → Prop} (hh : A.handled = none)
    (hit : s.heap.IsTupleIter it t i) (ht : s.heap.IsTuple t items) (hx : items[i]? = none)
    (hE : ∀ h' e, Heap.ExtBut it s.heap h' → (∃ o, h'.get? e = some o ∧ o.cls = .type "StopIteration") → E (.ref e) { s with heap := h' }) :
    wpAny (model prog w) A (Builtin.SmallTypes.nextOf (.ref it)) Q E s := by
  obtain ⟨o, ho, hc, hd⟩ := id hit
  obtain ⟨ol, hol, _, nl, hdl⟩ := ht
  unfold Builtin.SmallTypes.nextOf
  refine wpAny_bind (wpAny_callSpecial?_slot (name := Str.ofString "__next__") hit.typeIs F.slot_tuple_iterator_next
    (wpAny_call_entry F.slot_tuple_iterator_next hit.typeIs F.entry_tuple_iterator_next ?_ (F.args_tuple_iterator_next_1 _)))
  show wpAny _ _ (field (.ref it) 0 >>= _) _ _ s
  refine wpAny_bind (wpAny_field ho hd (x := .ref t) rfl ?_)
  show wpAny _ _ (if (Value.ref t == Value.none) = true then _ else _) _ _ s
  rw [if_neg (show ¬ ((Value.ref t == Value.none) = true) from Bool.false_ne_true)]
  show wpAny _ _ (field (.ref it) 1 >>= _) _ _ s
  refine wpAny_bind (wpAny_field ho hd (x := .int i 0) rfl ?_)
  show wpAny _ _ (seqItems? (.ref t) >>= _) _ _ s
  refine wpAny_bind (wpAny_seqItems hol hdl ?_)
  simp only [Int.toNat_natCast, hx]
  refine wpAny_bind (wpAny_rule (wpAny_bind (wpAny_setField ho hd (by simp) ?_)))
  show wpAny _ _ (newExc (.type "StopIteration") [] >>= _) _ _ _
  refine wpAny_bind ?_
  simp only [newExc, newTuple]
  refine wpAny_bind (wpAny_newObj_type ?_ (by size_fits))
  refine wpAny_bind (m := firstArgMember _ _) (wpAny_of_eq (a := Value.none) (by first | rfl | (simp only [firstArgMember]; rfl)) ?_)
  refine wpAny_newObj_type ?_ (by size_fits)
  simp only [raiseNew]
  refine wpAny_bind (wpAny_handled ?_)
  first | rw [show A.in1.handled = none from hh] | rw [hh]
  refine wpAny_bind (wpAny_pure (wpAny_throw ?_))
  exact hE _ _ (((Heap.SameBut.update ..).extBut.push _).push _) ⟨_, Heap.get?_push_size _ rfl, rfl⟩

/-- a place in a list or in a tuple -/
structure Cur where
  it : Nat
  src : Nat
  tup : Bool
  xs : List Value
def Cur.At (c : Cur) (k : Nat) (h : Heap) : Prop :=
  if c.tup = true then h.IsTupleIter c.it c.src k ∧ h.IsTuple c.src c.xs.toArray else h.IsListIter c.it c.src k ∧ h.IsList c.src c.xs.toArray
theorem Cur.At.keep {c : Cur} {k : Nat} {h h' : Heap} (x : c.At k h) (k1 : ∀ o, h.get? c.it = some o → h'.get? c.it = some o) (k2 : ∀ o, h.get? c.src = some o → h'.get? c.src = some o) : c.At k h' := by
  unfold Cur.At at x ⊢
  split at x
  · rename_i ht
    rw [if_pos ht]
    exact ⟨x.1.at k1, x.2.at k2⟩
  · rename_i ht
    rw [if_neg ht]
    exact ⟨x.1.at k1, x.2.at k2⟩
theorem Cur.At.obj {c : Cur} {k : Nat} {h : Heap} (x : c.At k h) : (∃ o, h.get? c.it = some o) ∧ ∃ o, h.get? c.src = some o := by
  unfold Cur.At at x
  split at x
  · exact ⟨let ⟨o, e, _⟩ := x.1; ⟨o, e⟩, let ⟨o, e, _⟩ := x.2; ⟨o, e⟩⟩
  · exact ⟨let ⟨o, e, _⟩ := x.1; ⟨o, e⟩, let ⟨o, e, _⟩ := x.2; ⟨o, e⟩⟩
theorem Cur.item {c : Cur} {k : Nat} {x : Value} {Q : Value → Shared → Prop} (hne : c.src ≠ c.it) (hc : c.At k s.heap) (hx : c.xs[k]? = some x)
    (hQ : ∀ h', c.At (k + 1) h' → Heap.SameBut c.it s.heap h' → Q x { s with heap := h' }) : wpAny (model prog w) A (Builtin.SmallTypes.nextOf (.ref c.it)) Q E s := by
  unfold Cur.At at hc
  split at hc
  · rename_i ht
    exact nextOf_tuple hc.1 hc.2 (by simpa using hx) fun h' a b => hQ h' (by unfold Cur.At; rw [if_pos ht]; exact ⟨a, hc.2.extBut b.extBut hne⟩) b
  · rename_i ht
    exact wpAny_nextOf_list_item hc.1 hc.2 (by simpa using hx) fun h' a b => hQ h' (by unfold Cur.At; rw [if_neg ht]; exact ⟨a, hc.2.extBut b.extBut hne⟩) b
theorem Cur.fin {c : Cur} {k : Nat} {Q : Value → Shared → Prop} (hh : A.handled = none) (hc : c.At k s.heap) (hx : c.xs[k]? = none)
    (hE : ∀ h' e, Heap.ExtBut c.it s.heap h' → (∃ o, h'.get? e = some o ∧ o.cls = .type "StopIteration") → E (.ref e) { s with heap := h' }) : wpAny (model prog w) A (Builtin.SmallTypes.nextOf (.ref c.it)) Q E s := by
  unfold Cur.At at hc
  split at hc
  · exact nextOf_tuple_end hh hc.1 hc.2 (by simpa using hx) hE
  · exact wpAny_nextOf_list_end hh hc.1 hc.2 (by simpa using hx) hE

/-- a zip's own object, its iterators, its tuple -/
structure ZAt (b : Nat) (cs : List Cur) (f0 : Value) (h : Heap) : Prop where
  z : h.get? (b + cs.length + 2) = some { cls := .type "zip", dict := none, data := .fields #[f0, .bool false, .bool false, .ref (b + cs.length), .ref (b + cs.length + 1)], slots := #[] }
  its : h.get? (b + cs.length) = some { cls := .type "tuple", data := .seq (cs.map fun c => Value.ref c.it).toArray }
/-- drawing from every place in turn into the zip's own tuple -/
theorem draw_all {β : Type} {O : Nat} (f : Value × Nat → β → Sem (ForInStep β)) (b0 : β) {Qf : β → Shared → Prop} (k : Nat)
    (hstep : ∀ (j : Nat) (c : Cur) (vals : List Value) (x : Value) (s : Shared) (Q : ForInStep β → Shared → Prop), c.At k s.heap → c.src ≠ c.it → c.it ≠ O → c.src ≠ O → c.xs[k]? = some x → j < vals.length → vals.length ≤ sizeLine → s.heap.get? O = some { cls := .type "tuple", data := .seq vals.toArray } →
      (∀ h', c.At (k + 1) h' → h'.get? O = some { cls := .type "tuple", data := .seq (vals.set j x).toArray } → h'.objs.size = s.heap.objs.size → (∀ a o, a ≠ O → a ≠ c.it → s.heap.get? a = some o → h'.get? a = some o) → Q (.yield b0) { s with heap := h' }) →
      wpAny (model prog w) A (f (.ref c.it, j) b0) Q E s) :
    ∀ (cs : List Cur) (j : Nat) (vals : List Value) (s : Shared), (∀ c ∈ cs, c.At k s.heap ∧ c.src ≠ O ∧ c.it ≠ O ∧ (∃ x, c.xs[k]? = some x) ∧ ∀ d ∈ cs, c.src ≠ d.it) → (cs.map (·.it)).Nodup → j + cs.length = vals.length → vals.length ≤ sizeLine →
      s.heap.get? O = some { cls := .type "tuple", data := .seq vals.toArray } →
      (∀ h', (∀ c ∈ cs, c.At (k + 1) h') → h'.get? O = some { cls := .type "tuple", data := .seq (vals.take j ++ cs.map fun c => c.xs[k]?.getD .none).toArray } → h'.objs.size = s.heap.objs.size →
        (∀ a o, a ≠ O → a ∉ cs.map (·.it) → s.heap.get? a = some o → h'.get? a = some o) → Qf b0 { s with heap := h' }) →
      wpAny (model prog w) A (forIn ((cs.map fun c => Value.ref c.it).zipIdx j) b0 f) Qf E s := by
  intro cs
  induction cs with
  | nil =>
    intro j vals s _ _ hl _ hO hQ
    have hl' : j = vals.length := by simpa using hl
    show wpAny _ _ (pure b0) _ _ _
    refine wpAny_pure (hQ s.heap (fun _ h => nomatch h) ?_ rfl fun _ _ _ _ e => e)
    rw [hl', List.take_length]
    simpa using hO
  | cons c r ih =>
    intro j vals s hc hn hl hz hO hQ
    obtain ⟨hat, h1, h2, ⟨x, hx⟩, h4⟩ := hc c (.head _)
    rw [List.map_cons, List.zipIdx_cons, List.forIn_cons]
    have hjl : j < vals.length := by rw [← hl, List.length_cons]; omega
    refine wpAny_bind (hstep j c vals x s _ hat (h4 c (.head _)) h2 h1 hx hjl hz hO fun h' hat' hO' hsz hk => ?_)
    have hnot : ∀ d ∈ r, d.it ≠ c.it := fun d hd e => (List.nodup_cons.mp hn).1 (by show c.it ∈ _; rw [← e]; exact List.mem_map_of_mem hd)
    refine ih (j + 1) (vals.set j x) { s with heap := h' } (fun d hd => ?_) (List.nodup_cons.mp hn).2 (by rw [List.length_set, ← hl, List.length_cons]; omega) (by rw [List.length_set]; exact hz) hO' fun h'' hat'' hO'' hsz' hk' => ?_
    · obtain ⟨a1, a2, a3, a4, a5⟩ := hc d (.tail _ hd)
      exact ⟨a1.keep (fun o e => hk _ o a3 (hnot d hd) e) fun o e => hk _ o a2 (a5 c (.head _)) e, a2, a3, a4, fun e he => a5 e (.tail _ he)⟩
    · refine hQ h'' (fun d hd => ?_) ?_ (hsz'.trans hsz) fun a o ha hna e => ?_
      · rcases List.mem_cons.mp hd with rfl | hd
        · refine hat'.keep (fun o e => hk' _ o h2 (fun q => (List.nodup_cons.mp hn).1 q) e) fun o e => hk' _ o h1 (fun q => ?_) e
          obtain ⟨d, hd', e'⟩ := List.mem_map.mp q
          exact h4 d (.tail _ hd') e'.symm
        · exact hat'' d hd
      · rw [hO'']
        have hx' : c.xs[k]?.getD .none = x := by rw [hx]; rfl
        have e : (vals.set j x).take (j + 1) = vals.take j ++ [x] := by
          rw [List.take_add_one, List.take_set_of_le (Nat.le_refl _), List.getElem?_set_self hjl]
          rfl
        rw [e, List.map_cons, hx', List.append_assoc]
        rfl
      · exact hk' a o ha (fun q => hna (.tail _ q)) (hk a o ha (fun q => hna (by rw [q]; exact .head _)) e)

/-- a zip over the places cs, its objects from b on -/
structure ZipAt (b : Nat) (cs : List Cur) (k : Nat) (f0 : Value) (h : Heap) : Prop where
  zat : ZAt b cs f0 h
  own : ∃ vals : List Value, vals.length = cs.length ∧ h.get? (b + cs.length + 1) = some { cls := .type "tuple", data := .seq vals.toArray }
  cur : ∀ c ∈ cs, c.At k h
/-- how the places lie: the iterators at b, b + 1 .., the sources below -/
def CursFrom (b : Nat) : List Cur → Prop
  | [] => True
  | c :: r => c.it = b ∧ CursFrom (b + 1) r
theorem CursFrom.ge {b : Nat} : ∀ {cs : List Cur}, CursFrom b cs → ∀ c ∈ cs, b ≤ c.it ∧ c.it < b + cs.length
  | [], _, _, h => nomatch h
  | c :: r, x, d, h => by
    rcases List.mem_cons.mp h with rfl | h
    · rw [x.1, List.length_cons]; exact ⟨Nat.le_refl _, by omega⟩
    · have := CursFrom.ge x.2 d h; rw [List.length_cons]; exact ⟨by omega, by omega⟩
theorem CursFrom.nodup {b : Nat} : ∀ {cs : List Cur}, CursFrom b cs → (cs.map (·.it)).Nodup
  | [], _ => List.nodup_nil
  | c :: r, x => by
    refine List.nodup_cons.mpr ⟨fun h => ?_, CursFrom.nodup x.2⟩
    obtain ⟨d, hd, e⟩ := List.mem_map.mp h
    have := (CursFrom.ge x.2 d hd).1
    have e' : d.it = c.it := e
    rw [e', x.1] at this
    omega
theorem zip_item {b : Nat} {cs : List Cur} {k : Nat} {Q : Value → Shared → Prop} (hcs : CursFrom b cs) (hsrc : ∀ c ∈ cs, c.src < b) (h0 : cs ≠ [])
    (Z : ZipAt b cs k .none s.heap) (hx : ∀ c ∈ cs, ∃ x, c.xs[k]? = some x) (hlen : cs.length ≤ sizeLine)
    (hQ : ∀ h', ZipAt b cs (k + 1) (rawInt s.heap.objs.size) h' → h'.get? s.heap.objs.size = some { cls := .type "tuple", data := .seq (cs.map fun c => c.xs[k]?.getD .none).toArray } → h'.objs.size = s.heap.objs.size + 1 →
      (∀ a o, a ≠ b + cs.length + 2 → a ≠ b + cs.length + 1 → a ∉ cs.map (·.it) → s.heap.get? a = some o → h'.get? a = some o) → Q (.ref s.heap.objs.size) { s with heap := h' }) :
    wpAny (model prog w) A (Builtin.«zip.__next__» ⟨[.ref (b + cs.length + 2)], []⟩) (fun fin s' => ∃ v, fin = .done (.ret v) ∧ Q v s') E s := by
  obtain ⟨⟨hz, hTI⟩, ⟨vals, hvl, hTO⟩, hcur⟩ := Z
  show wpAny _ _ (field (.ref _) 2 >>= _) _ _ _
  refine wpAny_bind (wpAny_field hz rfl (x := .bool false) rfl ?_)
  show wpAny _ _ (field (.ref _) 3 >>= _) _ _ _
  refine wpAny_bind (wpAny_field hz rfl (x := .ref (b + cs.length)) rfl ?_)
  refine wpAny_bind (wpAny_seqItems hTI rfl ?_)
  have hne : ((cs.map fun c => Value.ref c.it).toArray).isEmpty = false := by
    cases cs with
    | nil => exact absurd rfl h0
    | cons c r => rfl
  simp only [hne, Bool.false_eq_true, if_false]
  show wpAny _ _ (Builtin.SmallTypes.ownedTupleIsFree (.ref _) >>= _) _ _ _
  refine wpAny_bind ?_
  unfold Builtin.SmallTypes.ownedTupleIsFree
  refine wpAny_bind (wpAny_field hz rfl (x := .none) rfl (wpAny_pure ?_))
  simp only [if_true]
  refine wpAny_bind (wpAny_rule ?_)
  refine wpAny_bind (wpAny_field hz rfl (x := .ref (b + cs.length + 1)) rfl ?_)
  refine wpAny_bind (wpAny_setField_rec hz (by simp) fun h₁ hz₁ hs₁ => ?_)
  have hzr : ∀ c ∈ cs, c.it ≠ b + cs.length + 2 ∧ c.it ≠ b + cs.length + 1 ∧ c.src ≠ b + cs.length + 2 ∧ c.src ≠ b + cs.length + 1 ∧ ∀ d ∈ cs, c.src ≠ d.it := fun c hc => by
    have g := hcs.ge c hc
    have g2 := hsrc c hc
    exact ⟨by omega, by omega, by omega, by omega, fun d hd => by have := (hcs.ge d hd).1; omega⟩
  have hTO₁ : h₁.get? (b + cs.length + 1) = some { cls := .type "tuple", data := .seq vals.toArray } := hs₁.extBut _ _ (Nat.ne_of_lt (Nat.lt_succ_self _)) hTO
  refine wpAny_bind ?_
  refine draw_all (O := b + cs.length + 1) _ _ k ?_ cs 0 vals { s with heap := h₁ } (fun c hc => ?_) hcs.nodup (by rw [hvl]; exact Nat.zero_add _) (by rw [hvl]; exact hlen) hTO₁ ?_
  · intro j c vs x s₂ Q₂ hat hsi hiO hsO hxc hj hvz hO hQ₂
    refine wpAny_bind (wpAny_onRaise ?_)
    show wpAny _ _ (Builtin.SmallTypes.nextOf (.ref c.it) >>= _) _ _ _
    refine wpAny_bind (Cur.item hsi hat hxc fun h' hat' hs' => wpAny_pure ?_)
    have hO' := hs'.extBut _ _ (Ne.symm hiO) hO
    refine wpAny_bind (wpAny_seqItems hO' rfl ?_)
    refine wpAny_bind (wpAny_updateSeq hO' rfl ?_ (by rw [List.size_toArray]; exact hvz) (by rw [Array.size_setIfInBounds, List.size_toArray]; exact Nat.le_succ_of_le hvz))
    refine wpAny_bind (wpAny_letGo (wpAny_pure ?_))
    refine hQ₂ _ ?_ ?_ ?_ ?_
    · exact hat'.keep (fun o e => (Heap.SameBut.update ..).extBut _ _ hiO e) fun o e => (Heap.SameBut.update ..).extBut _ _ hsO e
    · rw [Heap.get?_update_self _ hO' rfl]
      simp [Obj.mapSeq]
    · have h1 := (Heap.SameBut.update h' (b + cs.length + 1) (fun o => o.mapSeq (·.setIfInBounds j x))).1
      exact h1.trans hs'.1
    · exact fun a o ha hai e => (Heap.SameBut.update ..).extBut _ _ ha (hs'.extBut _ _ hai e)
  · obtain ⟨x, hxc⟩ := hx c hc
    obtain ⟨a1, a2, a3, a4, a5⟩ := hzr c hc
    exact ⟨(hcur c hc).keep (fun o e => hs₁.extBut _ o a1 e) fun o e => hs₁.extBut _ o a3 e, a4, a2, ⟨x, hxc⟩, a5⟩
  · intro h₂ hcur₂ hTO₂ hsz₂ hk₂
    rw [List.take_zero, List.nil_append] at hTO₂
    dsimp only
    refine wpAny_bind (wpAny_seqItems hTO₂ rfl ?_)
    refine wpAny_bind (wpAny_newTuple ?_ (by simpa using hlen))
    have hsz : h₂.objs.size = s.heap.objs.size := by rw [hsz₂]; exact hs₁.1
    have nz : b + cs.length + 2 ∉ cs.map (·.it) := fun q => by
      obtain ⟨d, hd, e⟩ := List.mem_map.mp q
      exact (hzr d hd).1 e
    have nt : b + cs.length ∉ cs.map (·.it) := fun q => by
      obtain ⟨d, hd, e⟩ := List.mem_map.mp q
      have := (hcs.ge d hd).2
      have e' : d.it = b + cs.length := e
      omega
    have hz₂ := hk₂ _ _ (Nat.ne_of_gt (Nat.lt_succ_self _)) nz hz₁
    have hTI₂ := hk₂ _ _ (Nat.ne_of_lt (Nat.lt_succ_self _)) nt (hs₁.extBut _ _ (Nat.ne_of_lt (show b + cs.length < b + cs.length + 2 by omega)) hTI)
    show wpAny _ _ (Builtin.SmallTypes.ownedTupleHandOut (.ref _) (.ref h₂.objs.size) >>= _) _ _ _
    refine wpAny_bind ?_
    unfold Builtin.SmallTypes.ownedTupleHandOut
    refine wpAny_bind (wpAny_setField_rec (Heap.get?_push_of_some _ hz₂) (by simp) fun h₇ hz₇ hs₇ => ?_)
    refine wpAny_setField_rec hz₇ (by simp) fun h₈ hz₈ hs₈ => ?_
    have up : ∀ c o, c ≠ b + cs.length + 2 → h₂.get? c = some o → h₈.get? c = some o := fun c o c1 e => hs₈.extBut _ _ c1 (hs₇.extBut _ _ c1 (Heap.get?_push_of_some _ e))
    have hzlt : b + cs.length + 2 < h₂.objs.size := Heap.lt_size hz₂
    have hT₈ := hs₈.extBut _ _ (Nat.ne_of_gt hzlt) (hs₇.extBut _ _ (Nat.ne_of_gt hzlt) (Heap.get?_push_size h₂ (o := { cls := .type "tuple", data := .seq (cs.map fun c => c.xs[k]?.getD .none).toArray }) rfl))
    have hz8 : h₈.objs.size = h₂.objs.size + 1 := by rw [hs₈.1, hs₇.1, Heap.size_push]
    refine wpAny_pure ⟨_, rfl, ?_⟩
    show Q (.ref h₂.objs.size) _
    rw [hsz] at hT₈ hz8 ⊢
    refine hQ h₈ ⟨⟨?_, up _ _ (Nat.ne_of_lt (show b + cs.length < b + cs.length + 2 by omega)) hTI₂⟩, ⟨_, by simp, up _ _ (Nat.ne_of_lt (Nat.lt_succ_self _)) hTO₂⟩, fun c hc => (hcur₂ c hc).keep (fun o e => up _ o (hzr c hc).1 e) fun o e => up _ o (hzr c hc).2.2.1 e⟩ hT₈ hz8 fun a o a1 a2 a3 e => up a o a1 (hk₂ a o a2 a3 (hs₁.extBut _ _ a1 e))
    rw [hsz] at hz₈
    exact hz₈
theorem zip_end {b : Nat} {c : Cur} {r : List Cur} {k : Nat} {Q : Fin → Shared → Prop} (hh : A.handled = none) (hcs : CursFrom b (c :: r)) (hsrc : c.src < b)
    (Z : ZipAt b (c :: r) k .none s.heap) (hx : c.xs[k]? = none)
    (hE : ∀ h' e, (∀ a o, a ≠ b + (c :: r).length + 2 → a ≠ c.it → s.heap.get? a = some o → h'.get? a = some o) → (∃ o, h'.get? e = some o ∧ o.cls = .type "StopIteration") → E (.ref e) { s with heap := h' }) :
    wpAny (model prog w) A (Builtin.«zip.__next__» ⟨[.ref (b + (c :: r).length + 2)], []⟩) Q E s := by
  obtain ⟨⟨hz, hTI⟩, ⟨vals, hvl, hTO⟩, hcur⟩ := Z
  show wpAny _ _ (field (.ref _) 2 >>= _) _ _ _
  refine wpAny_bind (wpAny_field hz rfl (x := .bool false) rfl ?_)
  show wpAny _ _ (field (.ref _) 3 >>= _) _ _ _
  refine wpAny_bind (wpAny_field hz rfl (x := .ref (b + (c :: r).length)) rfl ?_)
  refine wpAny_bind (wpAny_seqItems hTI rfl ?_)
  have hne : (((c :: r).map fun c => Value.ref c.it).toArray).isEmpty = false := rfl
  simp only [hne, Bool.false_eq_true, if_false]
  show wpAny _ _ (Builtin.SmallTypes.ownedTupleIsFree (.ref _) >>= _) _ _ _
  refine wpAny_bind ?_
  unfold Builtin.SmallTypes.ownedTupleIsFree
  refine wpAny_bind (wpAny_field hz rfl (x := .none) rfl (wpAny_pure ?_))
  simp only [if_true]
  refine wpAny_bind (wpAny_rule ?_)
  refine wpAny_bind (wpAny_field hz rfl (x := .ref (b + (c :: r).length + 1)) rfl ?_)
  refine wpAny_bind (wpAny_setField_rec hz (by simp) fun h₁ hz₁ hs₁ => ?_)
  refine wpAny_bind ?_
  simp only [List.map_cons, List.zipIdx_cons, List.forIn_cons]
  refine wpAny_bind (wpAny_bind (wpAny_onRaise ?_))
  show wpAny _ _ (Builtin.SmallTypes.nextOf (.ref c.it) >>= _) _ _ _
  have hci : c.it = b := hcs.1
  have n1 : c.it ≠ b + (c :: r).length + 2 := by omega
  have n2 : c.src ≠ b + (c :: r).length + 2 := by omega
  refine wpAny_bind (Cur.fin hh ((hcur c (.head _)).keep (fun o e => hs₁.extBut _ o n1 e) fun o e => hs₁.extBut _ o n2 e) hx fun h₂ e hs₂ he => ?_)
  obtain ⟨oe, hoe, hce⟩ := he
  have hz₂ := hs₂ _ _ (Ne.symm n1) hz₁
  have hez : e ≠ b + (c :: r).length + 2 := fun x => by
    rw [x, hz₂] at hoe
    cases hoe
    simp at hce
  refine wpAny_setField_rec hz₂ (by simp) fun h₃ _ hs₃ => hE h₃ e (fun a o a1 a2 x => hs₃.extBut _ _ a1 (hs₂ _ _ a2 (hs₁.extBut _ _ a1 x))) ⟨oe, hs₃.extBut _ _ hez hoe, hce⟩
end
end Mine
end
section
open PySem PySem.W PySem.Spec PySem.Calls PyProof.Rows
namespace Mine
section
variable {prog : Program} {w : World} {A : Around} {E : Value → Shared → Prop} {s : Shared}
def zipFp (b : Nat) (cs : List Cur) : List Addr := [b + cs.length + 2, b + cs.length + 1, b + cs.length] ++ (cs.map (·.it) ++ cs.map (·.src))
def zipWr (b : Nat) (cs : List Cur) : List Addr := [b + cs.length + 2, b + cs.length + 1] ++ cs.map (·.it)
theorem zip_walks (hh : A.handled = none) {b : Nat} {c₀ : Cur} {r : List Cur} {N : Nat} (hcs : CursFrom b (c₀ :: r)) (hsrc : ∀ c ∈ c₀ :: r, c.src < b) (hN : ∀ c ∈ c₀ :: r, c.xs.length = N) (hlen : (c₀ :: r).length ≤ sizeLine) :
    WalksU prog w A (b + (c₀ :: r).length + 2) (zipFp b (c₀ :: r)) (zipWr b (c₀ :: r)) N (fun i vals => i < N ∧ vals = ((c₀ :: r).map fun c => c.xs[i]?.getD .none).toArray)
      (fun i h => ZipAt b (c₀ :: r) i .none h) (fun i T h => ZipAt b (c₀ :: r) (i + 1) (rawInt T) h ∧ T ∉ zipWr b (c₀ :: r)) := by
  generalize hcsE : c₀ :: r = cs at *
  have zin : b + cs.length + 2 ∈ zipFp b cs := by simp [zipFp]
  have tin : b + cs.length + 1 ∈ zipFp b cs := by simp [zipFp]
  have iin : b + cs.length ∈ zipFp b cs := by simp [zipFp]
  have cin : ∀ c ∈ cs, c.it ∈ zipFp b cs ∧ c.src ∈ zipFp b cs := fun c hc => ⟨List.mem_append_right _ (List.mem_append_left _ (List.mem_map_of_mem hc)), List.mem_append_right _ (List.mem_append_right _ (List.mem_map_of_mem hc))⟩
  have off : ∀ a, a ∉ zipWr b cs → a ≠ b + cs.length + 2 ∧ a ≠ b + cs.length + 1 ∧ a ∉ cs.map (·.it) := fun a ha => by
    simp only [zipWr, List.cons_append, List.nil_append, List.mem_cons, not_or] at ha
    exact ⟨ha.1, ha.2.1, ha.2.2⟩
  have src_off : ∀ c ∈ cs, c.src ≠ b + cs.length + 2 := fun c hc => by have := hsrc c hc; omega
  have it_off : ∀ c ∈ cs, c.it ≠ b + cs.length + 2 := fun c hc => by have := (hcs.ge c hc).2; omega
  constructor
  · intro a ha
    simp only [zipWr, List.cons_append, List.nil_append, List.mem_cons] at ha
    rcases ha with rfl | rfl | ha
    · exact zin
    · exact tin
    · obtain ⟨c, hc, rfl⟩ := List.mem_map.mp ha
      exact (cin c hc).1
  · rintro i h h' ⟨⟨hz, hTI⟩, ⟨vals, hvl, hTO⟩, hcur⟩ hk
    exact ⟨⟨hk _ zin _ hz, hk _ iin _ hTI⟩, ⟨vals, hvl, hk _ tin _ hTO⟩, fun c hc => (hcur c hc).keep (fun o e => hk _ (cin c hc).1 o e) fun o e => hk _ (cin c hc).2 o e⟩
  · intro i s Q E hi Z hQ
    have hT : s.TypeIs (.ref (b + cs.length + 2)) "zip" := ⟨_, Z.zat.z, rfl⟩
    unfold pyNext
    refine wpAny_bind (wpAny_attempt (wpAny_callSpecial?_slot (name := Str.ofString "__next__") hT F.slot_zip_next (wpAny_call_entry F.slot_zip_next hT F.entry_zip_next
      (zip_item hcs hsrc (by rw [← hcsE]; exact List.cons_ne_nil _ _) Z (fun c hc => ⟨c.xs[i]'(by rw [hN c hc]; exact hi), List.getElem?_eq_getElem _⟩) hlen fun h' Z' hT' hsz hk => wpAny_pure ?_) (F.args_zip_next_1 _))))
    have hbig : b + cs.length + 2 < s.heap.objs.size := Heap.lt_size Z.zat.z
    refine hQ s.heap.objs.size _ h' s.toks ⟨hi, rfl⟩ ⟨_, hT', rfl, 0, rfl⟩ ⟨Z', fun q => ?_⟩ fun a o ha e => ?_
    · simp only [zipWr, List.cons_append, List.nil_append, List.mem_cons] at q
      rcases q with q | q | q
      · exact absurd q (Nat.ne_of_gt hbig)
      · exact absurd q (Nat.ne_of_gt (Nat.lt_of_succ_lt hbig))
      · obtain ⟨c, hc, e⟩ := List.mem_map.mp q
        have := (hcs.ge c hc).2
        have e' : c.it = s.heap.objs.size := e
        omega
    · obtain ⟨a1, a2, a3⟩ := off a ha
      exact hk a o a1 a2 a3 e
  · rintro elts k pos i T s Q E ⟨⟨⟨hz, hTI⟩, ⟨vals, hvl, hTO⟩, hcur⟩, hT⟩ hQ
    refine wpAny_letOwnedTupleGo_zip (TI := b + cs.length) (TO := b + cs.length + 1) hz fun h' hz' hs' => hQ h' ⟨⟨hz', hs'.extBut _ _ (Nat.ne_of_lt (show b + cs.length < b + cs.length + 2 by omega)) hTI⟩, ⟨vals, hvl, hs'.extBut _ _ (Nat.ne_of_lt (Nat.lt_succ_self _)) hTO⟩,
      fun c hc => (hcur c hc).keep (fun o e => hs'.extBut _ o (it_off c hc) e) fun o e => hs'.extBut _ o (src_off c hc) e⟩ fun a o ha e => hs'.extBut _ _ (off a ha).1 e
  · exact fun i T h hm => hm.2
  · intro s Q E Z hQ
    have hT : s.TypeIs (.ref (b + cs.length + 2)) "zip" := ⟨_, Z.zat.z, rfl⟩
    unfold pyNext
    subst hcsE
    refine wpAny_bind (wpAny_attempt (wpAny_callSpecial?_slot (name := Str.ofString "__next__") hT F.slot_zip_next
      (wpAny_call_entry F.slot_zip_next hT F.entry_zip_next (zip_end hh hcs (hsrc c₀ (.head _)) Z (List.getElem?_eq_none (Nat.le_of_eq (hN c₀ (.head _)))) fun h' e hk he => ?_) (F.args_zip_next_1 _))))
    obtain ⟨o, ho, hc⟩ := he
    refine wpAny_bind (wpAny_isInstance (T := "StopIteration") (b := true) ⟨o, ho, hc⟩ isSubtype_stop ?_)
    exact wpAny_pure (hQ h' s.toks fun a o ha e => hk a o (off a ha).1 (fun q => (off a ha).2.2 (by rw [q]; exact .head _)) e)
  · intro i s Q E Z hQ
    exact wpAny_pyIter_zip Z.zat.z hQ

theorem typeCall_zip_3 (a b c : Value) : checkTypeCall "zip" ⟨[a, b, c], []⟩ = pure () := by kernel_rfl
theorem newCall_zip_3 (a b c : Value) : checkBuiltinCall "zip.__new__" ⟨[.type "zip", a, b, c], []⟩ = pure () := by kernel_rfl
theorem args_object_init_4 (a b c d : Value) : argsOk "object.__init__" ⟨[a, b, c, d], []⟩ := by
  unfold argsOk; rw [signature?_of (id := "object.__init__") (n := ['_', '_', 't', 'i', 'n', 'i', '_', '_']) (o := ['t', 'c', 'e', 'j', 'b', 'o']) (by kernel_rfl) F.owner_object]; kernel_rfl

abbrev itO (n : String) (l : Addr) : Obj := { cls := .type n, data := .fields #[.ref l, .int 0 0] }
def zipHeap2 (h : Heap) (l1 l2 : Addr) : Heap :=
  ((((h.push (itO "tuple_iterator" l1)).push (itO "tuple_iterator" l2)).push { cls := .type "tuple", data := .seq #[.ref h.objs.size, .ref (h.push (itO "tuple_iterator" l1)).objs.size] }).push { cls := .type "tuple", data := .seq #[.none, .none] }).push
    { cls := .type "zip", data := .fields #[.none, .bool false, .bool false, .ref ((h.push (itO "tuple_iterator" l1)).push (itO "tuple_iterator" l2)).objs.size,
        .ref (((h.push (itO "tuple_iterator" l1)).push (itO "tuple_iterator" l2)).push { cls := .type "tuple", data := .seq #[.ref h.objs.size, .ref (h.push (itO "tuple_iterator" l1)).objs.size] }).objs.size] }
set_option maxHeartbeats 2000000 in
theorem meets_zip_tt (l1 l2 : Addr) (xs ys : Array Value) :
    Meets (Builtin.«zip.__new__» ⟨[.type "zip", .ref l1, .ref l2], []⟩) (fun _ R s => s.heap.IsTuple l1 xs ∧ s.heap.IsTuple l2 ys ∧
      R (.ok (.ret (.ref ((((s.heap.push (itO "tuple_iterator" l1)).push (itO "tuple_iterator" l2)).push { cls := .type "tuple", data := .seq #[.ref s.heap.objs.size, .ref (s.heap.push (itO "tuple_iterator" l1)).objs.size] }).push { cls := .type "tuple", data := .seq #[.none, .none] }).objs.size))) { s with heap := zipHeap2 s.heap l1 l2 }) :=
  .of_wp fun prog w A R s h => by
    obtain ⟨hp, g, d, tk, os⟩ := s; obtain ⟨hl1, hl2, h⟩ := h
    have hsub := sub_zip
    have hL1 : Heap.IsTuple (Shared.heap ⟨hp, g, d, tk, os⟩) l1 xs := hl1
    have hL2 : Heap.IsTuple (Shared.heap ⟨hp.push { cls := .type "tuple_iterator", data := .fields #[.ref l1, .int 0 0] }, g, d, tk, os⟩) l2 ys := Heap.IsTuple.push hl2 _
    wp_walk using wpAny_pyIter_tuple hL1, wpAny_pyIter_tuple hL2
    exact ⟨_, rfl, h⟩
def zipHeap3 (h : Heap) (l1 l2 l3 : Addr) : Heap :=
  (((((h.push (itO "list_iterator" l1)).push (itO "list_iterator" l2)).push (itO "tuple_iterator" l3)).push { cls := .type "tuple", data := .seq #[.ref h.objs.size, .ref (h.push (itO "list_iterator" l1)).objs.size, .ref ((h.push (itO "list_iterator" l1)).push (itO "list_iterator" l2)).objs.size] }).push { cls := .type "tuple", data := .seq #[.none, .none, .none] }).push
    { cls := .type "zip", data := .fields #[.none, .bool false, .bool false, .ref (((h.push (itO "list_iterator" l1)).push (itO "list_iterator" l2)).push (itO "tuple_iterator" l3)).objs.size,
        .ref ((((h.push (itO "list_iterator" l1)).push (itO "list_iterator" l2)).push (itO "tuple_iterator" l3)).push { cls := .type "tuple", data := .seq #[.ref h.objs.size, .ref (h.push (itO "list_iterator" l1)).objs.size, .ref ((h.push (itO "list_iterator" l1)).push (itO "list_iterator" l2)).objs.size] }).objs.size] }
set_option maxHeartbeats 2000000 in
theorem meets_zip_llt (l1 l2 l3 : Addr) (xs ys zs : Array Value) :
    Meets (Builtin.«zip.__new__» ⟨[.type "zip", .ref l1, .ref l2, .ref l3], []⟩) (fun _ R s => s.heap.IsList l1 xs ∧ s.heap.IsList l2 ys ∧ s.heap.IsTuple l3 zs ∧
      R (.ok (.ret (.ref (((((s.heap.push (itO "list_iterator" l1)).push (itO "list_iterator" l2)).push (itO "tuple_iterator" l3)).push { cls := .type "tuple", data := .seq #[.ref s.heap.objs.size, .ref (s.heap.push (itO "list_iterator" l1)).objs.size, .ref ((s.heap.push (itO "list_iterator" l1)).push (itO "list_iterator" l2)).objs.size] }).push { cls := .type "tuple", data := .seq #[.none, .none, .none] }).objs.size))) { s with heap := zipHeap3 s.heap l1 l2 l3 }) :=
  .of_wp fun prog w A R s h => by
    obtain ⟨hp, g, d, tk, os⟩ := s; obtain ⟨hl1, hl2, hl3, h⟩ := h
    have hsub := sub_zip
    have hL1 : Heap.IsList (Shared.heap ⟨hp, g, d, tk, os⟩) l1 xs := hl1
    have hL2 : Heap.IsList (Shared.heap ⟨hp.push { cls := .type "list_iterator", data := .fields #[.ref l1, .int 0 0] }, g, d, tk, os⟩) l2 ys := Heap.IsList.push hl2 _
    have hL3 : Heap.IsTuple (Shared.heap ⟨(hp.push { cls := .type "list_iterator", data := .fields #[.ref l1, .int 0 0] }).push { cls := .type "list_iterator", data := .fields #[.ref l2, .int 0 0] }, g, d, tk, os⟩) l3 zs := Heap.IsTuple.push (Heap.IsTuple.push hl3 _) _
    wp_walk using wpAny_pyIter_list hL1, wpAny_pyIter_list hL2, wpAny_pyIter_tuple hL3
    exact ⟨_, rfl, h⟩

theorem call_zip_tt {l1 l2 : Addr} {xs ys : List Value} {Q : Value → Shared → Prop} (hl1 : s.heap.IsTuple l1 xs.toArray) (hl2 : s.heap.IsTuple l2 ys.toArray)
    (h : ∀ h', ZipAt s.heap.objs.size [⟨s.heap.objs.size, l1, true, xs⟩, ⟨s.heap.objs.size + 1, l2, true, ys⟩] 0 .none h' → h'.objs.size = s.heap.objs.size + 5 →
      (∀ c o, s.heap.get? c = some o → h'.get? c = some o) → Q (.ref (s.heap.objs.size + 4)) { s with heap := h' }) :
    wpAny (model prog w) A (call (.type "zip") [.ref l1, .ref l2]) Q E s := by
  refine callType_new F.called_zip (by decide) (F.typeCall_zip_2 _ _) (F.newCall_zip_2 _ _) (fun obj => F.args_object_init_3 obj _ _) F.entry_zip_new
    (meets_zip_tt l1 l2 xs.toArray ys.toArray) ⟨hl1, hl2, ?_⟩
  have kk : ∀ c o, s.heap.get? c = some o → (zipHeap2 s.heap l1 l2).get? c = some o := fun c o x =>
    Heap.get?_push_of_some _ (Heap.get?_push_of_some _ (Heap.get?_push_of_some _ (Heap.get?_push_of_some _ (Heap.get?_push_of_some _ x))))
  have g5 : (zipHeap2 s.heap l1 l2).get? _ = some _ := Heap.get?_push_size _ rfl
  have g4 : (zipHeap2 s.heap l1 l2).get? _ = some _ := Heap.get?_push_of_some _ (Heap.get?_push_size _ rfl)
  have g3 : (zipHeap2 s.heap l1 l2).get? _ = some _ := Heap.get?_push_of_some _ (Heap.get?_push_of_some _ (Heap.get?_push_size _ rfl))
  have g2 : (zipHeap2 s.heap l1 l2).get? _ = some _ := Heap.get?_push_of_some _ (Heap.get?_push_of_some _ (Heap.get?_push_of_some _ (Heap.get?_push_size _ rfl)))
  have g1 : (zipHeap2 s.heap l1 l2).get? _ = some _ := Heap.get?_push_of_some _ (Heap.get?_push_of_some _ (Heap.get?_push_of_some _ (Heap.get?_push_of_some _ (Heap.get?_push_size _ rfl))))
  simp only [Heap.size_push] at g1 g2 g3 g4 g5 ⊢
  refine ⟨⟨_, g5, rfl⟩, h _ ⟨⟨g5, g3⟩, ⟨_, rfl, g4⟩, fun c hc => ?_⟩ (by simp only [zipHeap2, Heap.size_push]) kk⟩
  simp only [List.mem_cons, List.not_mem_nil, or_false] at hc
  rcases hc with rfl | rfl
  · exact (show _ ∧ _ from ⟨⟨_, g1, rfl, rfl⟩, hl1.at fun o e => kk _ _ e⟩)
  · exact (show _ ∧ _ from ⟨⟨_, g2, rfl, rfl⟩, hl2.at fun o e => kk _ _ e⟩)
theorem call_zip_llt {l1 l2 l3 : Addr} {xs ys zs : List Value} {Q : Value → Shared → Prop} (hl1 : s.heap.IsList l1 xs.toArray) (hl2 : s.heap.IsList l2 ys.toArray) (hl3 : s.heap.IsTuple l3 zs.toArray)
    (h : ∀ h', ZipAt s.heap.objs.size [⟨s.heap.objs.size, l1, false, xs⟩, ⟨s.heap.objs.size + 1, l2, false, ys⟩, ⟨s.heap.objs.size + 2, l3, true, zs⟩] 0 .none h' → h'.objs.size = s.heap.objs.size + 6 →
      (∀ c o, s.heap.get? c = some o → h'.get? c = some o) → Q (.ref (s.heap.objs.size + 5)) { s with heap := h' }) :
    wpAny (model prog w) A (call (.type "zip") [.ref l1, .ref l2, .ref l3]) Q E s := by
  refine callType_new F.called_zip (by decide) (typeCall_zip_3 _ _ _) (newCall_zip_3 _ _ _) (fun obj => args_object_init_4 obj _ _ _) F.entry_zip_new
    (meets_zip_llt l1 l2 l3 xs.toArray ys.toArray zs.toArray) ⟨hl1, hl2, hl3, ?_⟩
  have kk : ∀ c o, s.heap.get? c = some o → (zipHeap3 s.heap l1 l2 l3).get? c = some o := fun c o x =>
    Heap.get?_push_of_some _ (Heap.get?_push_of_some _ (Heap.get?_push_of_some _ (Heap.get?_push_of_some _ (Heap.get?_push_of_some _ (Heap.get?_push_of_some _ x)))))
  have g5 : (zipHeap3 s.heap l1 l2 l3).get? _ = some _ := Heap.get?_push_size _ rfl
  have g4 : (zipHeap3 s.heap l1 l2 l3).get? _ = some _ := Heap.get?_push_of_some _ (Heap.get?_push_size _ rfl)
  have g3 : (zipHeap3 s.heap l1 l2 l3).get? _ = some _ := Heap.get?_push_of_some _ (Heap.get?_push_of_some _ (Heap.get?_push_size _ rfl))
  have g2 : (zipHeap3 s.heap l1 l2 l3).get? _ = some _ := Heap.get?_push_of_some _ (Heap.get?_push_of_some _ (Heap.get?_push_of_some _ (Heap.get?_push_size _ rfl)))
  have g1 : (zipHeap3 s.heap l1 l2 l3).get? _ = some _ := Heap.get?_push_of_some _ (Heap.get?_push_of_some _ (Heap.get?_push_of_some _ (Heap.get?_push_of_some _ (Heap.get?_push_size _ rfl))))
  have g0 : (zipHeap3 s.heap l1 l2 l3).get? _ = some _ := Heap.get?_push_of_some _ (Heap.get?_push_of_some _ (Heap.get?_push_of_some _ (Heap.get?_push_of_some _ (Heap.get?_push_of_some _ (Heap.get?_push_size _ rfl)))))
  simp only [Heap.size_push] at g0 g1 g2 g3 g4 g5 ⊢
  refine ⟨⟨_, g5, rfl⟩, h _ ⟨⟨g5, g3⟩, ⟨_, rfl, g4⟩, fun c hc => ?_⟩ (by simp only [zipHeap3, Heap.size_push]) kk⟩
  simp only [List.mem_cons, List.not_mem_nil, or_false] at hc
  rcases hc with rfl | rfl | rfl
  · exact (show _ ∧ _ from ⟨⟨_, g0, rfl, rfl⟩, hl1.at fun o e => kk _ _ e⟩)
  · exact (show _ ∧ _ from ⟨⟨_, g1, rfl, rfl⟩, hl2.at fun o e => kk _ _ e⟩)
  · exact (show _ ∧ _ from ⟨⟨_, g2, rfl, rfl⟩, hl3.at fun o e => kk _ _ e⟩)
end
end Mine
end
section
open PySem PySem.W PySem.Spec PySem.Calls PyProof.Rows
namespace Mine
open LCg (NsObj ns_obj lst lst_snoc)
section
variable {prog : Program} {w : World} {A : Around} {E : Value → Shared → Prop} {s : Shared} {h₀ : Heap} {L : Addr} {m : Str → Option Value} {env : Env}
abbrev compTests (ifs : List Expr) (env : Env) : Sem Bool := forIn ifs true fun c r => if r = true then do let ok ← isTrue c env (eval c env); pure (ForInStep.yield ok) else pure (ForInStep.yield r)
theorem compLoop_any {elt target iter : Expr} {ifs : List Expr} {scope : Scope} {pos : Pos} {it acc : Value} {env : Env} {R : Result → Shared → Prop} (I : Nat → Shared → Prop)
    (turn : ∀ n s, I n s → wpAny (model prog w) A (pyNext it) (fun r s₁ => match r with
      | none => R (.ok .next) s₁
      | some v => wpAny (model prog w) A (letOwnedTupleGo target it v) (fun _ s₁' => wpAny (model prog w) A (assign target env v) (fun _ s₂ =>
          wpAny (model prog w) A (compTests ifs env) (fun ok s₃ =>
            if ok = true then wpAny (model prog w) A (eval elt env) (fun x s₄ =>
              wpAny (model prog w) A (call (.builtin "list.append") [acc, x]) (fun _ s₅ => ∃ m, m < n ∧ I m s₅) (notedBy (model prog w) A env fun e s' => R (.error e) s') s₄) (notedBy (model prog w) A env fun e s' => R (.error e) s') s₃
            else ∃ m, m < n ∧ I m s₃) (notedBy (model prog w) A env fun e s' => R (.error e) s') s₂) (notedBy (model prog w) A env fun e s' => R (.error e) s') s₁') (notedBy (model prog w) A env fun e s' => R (.error e) s') s₁) (notedBy (model prog w) A env fun e s' => R (.error e) s') s)
    (n : Nat) (h : I n s) : codeAny (model prog w) A (.compLoop (.ListComp elt [⟨target, iter, ifs, 0⟩] scope pos) 0 it acc env) R s := by
  refine codeAny_loop rfl I (fun n s hI => ?_) n h
  show wpAny _ A ((compTurn (.ListComp elt [⟨target, iter, ifs, 0⟩] scope pos) 0 it acc env).onRaise (fun x => do noteFrame x env; theTreesLotGoes x)) _ _ s
  refine wpAny_noted ?_
  rw [compTurn_list]
  refine wpAny_bind (wpAny_standAt (wpAny_bind (wpAny_mono (turn n s hI) (fun r s₁ h₁ => ?_) fun _ _ h' => h')))
  cases r with
  | none => exact wpAny_pure h₁
  | some v =>
    refine wpAny_bind (wpAny_mono h₁ (fun _ s₁' h₁' => ?_) fun _ _ h' => h')
    refine wpAny_bind (wpAny_mono h₁' (fun _ s₂ h₂ => wpAny_bind (wpAny_mono h₂ (fun ok s₃ h₃ => ?_) fun _ _ h' => h')) fun _ _ h' => h')
    cases ok with
    | false => exact wpAny_pure ⟨rfl, h₃⟩
    | true => exact wpAny_bind (wpAny_bind (wpAny_mono h₃ (fun x s₄ h₄ => wpAny_bind (wpAny_mono h₄ (fun _ s₅ h₅ => wpAny_pure (wpAny_pure ⟨rfl, h₅⟩)) fun _ _ h' => h')) fun _ _ h' => h'))

/-- the end of a comprehension's turn -/
inductive CEnd (h₀ : Heap) (L : Addr) (m : Str → Option Value) (s₁ : Shared) (wr : List Addr) (C D : Addr) (fixed : Led) (rest : Led → Prop) (s₂ : Shared) : Prop
  | mk (h' : Heap) (tk : Nat) (news' : Led) : s₂ = { s₁ with heap := h', toks := tk } → Fr h₀ L h' m → News h₀ L h' (fixed ++ news') → (∀ p ∈ news', p.1 ∉ wr ∧ p.1 ≠ C ∧ p.1 ≠ D) → rest news' → CEnd h₀ L m s₁ wr C D fixed rest s₂
/-- what holds between a comprehension's turns -/
inductive CInv (h₀ : Heap) (L : Addr) (m : Str → Option Value) (s₂ : Shared) (wr : List Addr) (C D : Addr) (St : Nat → Heap → Prop) (Inv : Nat → List Value → Led → Prop) (n k : Nat) (s' : Shared) : Prop
  | mk (h' : Heap) (tk i : Nat) (ys : List Value) (m' : Str → Option Value) (news' : Led) : s' = { s₂ with heap := h', toks := tk } → i ≤ n → k = n + 1 - i → ys.length ≤ i → St i h' → Fr h₀ L h' m → h'.Ns C m' → News h₀ L h' ((D, lst ys) :: news') →
        (∀ p ∈ news', p.1 ∉ wr ∧ p.1 ≠ C ∧ p.1 ≠ D) → Inv i ys news' → CInv h₀ L m s₂ wr C D St Inv n k s'
theorem comp_block {target elt iter : Expr} {ifs : List Expr} {scope : Scope} {cl : List (Str × Addr)} {pos : Pos} {s₂ : Shared} {I : Addr} {fp wr : List Addr} {n : Nat} {P Md : Nat → Value → Heap → Prop} {St : Nat → Heap → Prop} {V : Nat → (Str → Option Value) → Prop} {news : Led}
    {RR : Value → Addr → Result → Shared → Prop} (Inv : Nat → List Value → Led → Prop)
    (W : KTurns prog w A target I fp wr n P Md St) (hself : ∀ (s : Shared) (Q : Value → Shared → Prop) (E : Value → Shared → Prop), St 0 s.heap → Q (.ref I) s → wpAny (model prog w) A (pyIter (.ref I)) Q E s) (hsz : n ≤ sizeLine)
    (hcell : ∀ y ∈ scope.names, y.2 ≠ .cell) (hkind : scope.kind = .function)
    (hasg : ∀ (C : Addr) i v ys news₁ (s : Shared) m₂ (Q : Unit → Shared → Prop) (E : Value → Shared → Prop), i < n → P i v s.heap → Inv i ys news₁ → News h₀ L s.heap news₁ → s.heap.Ns C m₂ →
      (∀ h' tk m₃, h'.Ns C m₃ → V i m₃ → (∀ b o, b ≠ C → s.heap.get? b = some o → h'.get? b = some o) → Q () { s with heap := h', toks := tk }) → wpAny (model prog w) A (assign target (compEnvC scope cl C env) v) Q E s)
    (hobj : ∀ i h, St i h → ∀ a ∈ wr, ∃ o, h.get? a = some o) (hst : St 0 s₂.heap) (hfp : ∀ b ∈ fp, b < s₂.heap.objs.size) (hLf : L ∉ fp) (hwr : ∀ b ∈ wr, h₀.get? b = none)
    (F : Fr h₀ L s₂.heap m) (N : News h₀ L s₂.heap news) (hnw : ∀ p ∈ news, p.1 ∉ wr) (h0 : Inv 0 [] news)
    (step : ∀ i ys news₁ h tk own (C D : Addr) oC m₂ (E' : Value → Shared → Prop), i < n → V i m₂ → Inv i ys news₁ → NsObj oC m₂ → Fr h₀ L h m → News h₀ L h ((own ++ [(C, oC), (D, lst ys)]) ++ news₁) → (∀ p ∈ news₁, p.1 ∉ wr ∧ p.1 ≠ C ∧ p.1 ≠ D) → (∀ a ∈ wr, ∃ o, (a, o) ∈ own) →
      wpAny (model prog w) A (compTests ifs (compEnvC scope cl C env)) (fun ok s₃ => if ok = true then
          wpAny (model prog w) A (eval elt (compEnvC scope cl C env)) (fun y s₄ => CEnd h₀ L m { s₂ with heap := h, toks := tk } wr C D (own ++ [(C, oC), (D, lst ys)]) (Inv (i + 1) (ys ++ [y])) s₄) E' s₃
        else CEnd h₀ L m { s₂ with heap := h, toks := tk } wr C D (own ++ [(C, oC), (D, lst ys)]) (Inv (i + 1) ys) s₃) E' { s₂ with heap := h, toks := tk })
    (hRR : ∀ D C h tk m' ys news', Fr h₀ L h m → News h₀ L h ((D, lst ys) :: news') → (∀ p ∈ news', p.1 ≠ D) → (∀ p ∈ news, p.1 < D) → h.Ns C m' → h₀.get? C = none → C ≠ L → (∀ p ∈ (D, lst ys) :: news', p.1 ≠ C) → Inv n ys news' →
      RR (.ref D) C (.ok .next) { s₂ with heap := h, toks := tk }) :
    wpAny (model prog w) A (newList []) (fun acc s₃ => wpAny (model prog w) A (newFunctionEnv scope env.globals cl [] env.qual none .none (some env)) (fun cenv s₄ =>
      codeAny (model prog w) A (.compStart (.ListComp elt [⟨target, iter, ifs, 0⟩] scope pos) 0 (.ref I) acc { cenv with scope := relabel scope env }) (RR acc cenv.locals) s₄) E s₃) E s₂ := by
  refine wpAny_newObj_type (wpAny_newFunctionEnv hcell (by intro y hy; simp at hy) (fun h₁ hns₁ hsb₁ => ?_) hkind)
  dsimp only at hns₁ hsb₁ ⊢
  generalize hH2 : s₂.heap.push { cls := .type "list", dict := none, data := .seq ([] : List Value).toArray } = H2 at hns₁ hsb₁ ⊢
  have hC : H2.objs.size = s₂.heap.objs.size + 1 := by rw [← hH2, Heap.size_push]
  have hDC : s₂.heap.objs.size ≠ H2.objs.size := by rw [hC]; exact Nat.ne_of_lt (Nat.lt_succ_self _)
  have below : ∀ b, b < s₂.heap.objs.size → b ≠ H2.objs.size ∧ b ≠ s₂.heap.objs.size := fun b hb => ⟨by rw [hC]; exact Nat.ne_of_lt (Nat.lt_succ_of_lt hb), Nat.ne_of_lt hb⟩
  have hDf : s₂.heap.objs.size ∉ fp := fun hm => Nat.lt_irrefl _ (hfp _ hm)
  have hCf : H2.objs.size ∉ fp := fun hm => by have := hfp _ hm; rw [hC] at this; exact Nat.lt_irrefl _ (Nat.lt_of_succ_lt this)
  have hDw : s₂.heap.objs.size ∉ wr := fun h => hDf (W.sub _ h)
  have hCw : H2.objs.size ∉ wr := fun h => hCf (W.sub _ h)
  have hLw : L ∉ wr := fun h => hLf (W.sub _ h)
  have old : ∀ b o, s₂.heap.get? b = some o → h₁.get? b = some o := fun b o e => hsb₁.extBut b o (below b (Heap.lt_size e)).1 (Heap.get?_push_of_some _ (hH2 ▸ Heap.get?_push_of_some _ e))
  have hacc : h₁.get? s₂.heap.objs.size = some (lst []) := hsb₁.extBut _ _ hDC (Heap.get?_push_of_some _ (hH2 ▸ Heap.get?_push_size _ rfl))
  have hst₁ : St 0 h₁ := W.frame _ _ _ hst fun b _ o e => old b o e
  have fresh₀ : ∀ a, s₂.heap.objs.size ≤ a → h₀.get? a = none := fun a ha => by
    cases e : h₀.get? a with
    | none => rfl
    | some o' => exact absurd (Heap.lt_size (F.keep a o' e)) (Nat.not_lt.mpr ha)
  have hD₀ : h₀.get? s₂.heap.objs.size = none := fresh₀ _ (Nat.le_refl _)
  have hC₀ : h₀.get? H2.objs.size = none := fresh₀ _ (by rw [hC]; exact Nat.le_succ _)
  have hLlt : L < s₂.heap.objs.size := F.ns.lt
  have hDL : s₂.heap.objs.size ≠ L := Ne.symm (below L hLlt).2
  have hCL : H2.objs.size ≠ L := Ne.symm (below L hLlt).1
  have base : ∀ b o, h₀.get? b = some o → b ∉ wr := fun b o e hb => by rw [hwr b hb] at e; cases e
  have loop : ∀ s₃ : Shared, s₃ = { s₂ with heap := h₁, toks := s₂.toks + ([] : List (Str × Value)).length } →
      codeAny (model prog w) A (.compLoop (.ListComp elt [⟨target, iter, ifs, 0⟩] scope pos) 0 (.ref I) (.ref s₂.heap.objs.size) (compEnvC scope cl H2.objs.size env))
        (RR (.ref s₂.heap.objs.size) H2.objs.size) s₃ := by
    rintro s₃ rfl
    refine compLoop_any
      (CInv h₀ L m s₂ wr H2.objs.size s₂.heap.objs.size St Inv n) ?_ (n + 1)
      ⟨h₁, _, 0, [], _, news, rfl, Nat.zero_le _, rfl, Nat.le_refl _, hst₁, F.keeps old, hns₁, fun p hp => ?_, fun p hp => ?_, h0⟩
    · rintro k s' ⟨h', tk, i, ys, m', news', rfl, hi, rfl, hyl, hst', F', hn', N', off', hI⟩
      by_cases hlt : i < n
      · refine W.item i _ _ _ hlt hst' fun v h₂ tk₂ hMd hk₂ => ?_
        refine W.go i v _ _ _ hMd fun h₃ hP hst₃ hk₃ => ?_
        have kk : ∀ b o, b ∉ wr → h'.get? b = some o → h₃.get? b = some o := fun b o hb e => hk₃ b o hb (hk₂ b o hb e)
        refine hasg H2.objs.size i v ys news' _ m' _ _ hlt hP hI (fun p hp => ⟨kk _ _ (off' p hp).1 (N' p (.tail _ hp)).1, (N' p (.tail _ hp)).2⟩) (hn'.at' fun o e => kk _ o hCw e) fun h₄ tk₄ m₃ hn₄ hV hk₄ => ?_
        have up : ∀ b o, b ∉ wr → b ≠ H2.objs.size → h'.get? b = some o → h₄.get? b = some o := fun b o hb hbC e => hk₄ b o hbC (kk b o hb e)
        refine hide fun G' hG' => ?_
        obtain ⟨oC, heC, hoC⟩ := ns_obj hn₄
        refine hG' ?_
        clear hG' G'
        have F₄ : Fr h₀ L h₄ m := ⟨F'.ns.at' fun o e => up L o hLw (Ne.symm hCL) e, fun b o e => up b o (base b o e) (fun q => by rw [q, hC₀] at e; cases e) (F'.keep b o e), F'.above⟩
        have hst₄ : St (i + 1) h₄ := W.frame _ _ _ hst₃ fun b hb o e => hk₄ b o (fun q => hCf (by have q' : b = H2.objs.size := q; rw [← q']; exact hb)) e
        have Nown : News h₀ L h₄ (ownOf h₀ fp h₄) := news_ownOf hLf
        have N₄ : News h₀ L h₄ ((ownOf h₀ fp h₄ ++ [(H2.objs.size, oC), (s₂.heap.objs.size, lst ys)]) ++ news') := fun p hp => by
          rcases List.mem_append.mp hp with hp | hp
          · rcases List.mem_append.mp hp with hp | hp
            · exact Nown p hp
            · simp only [List.mem_cons, List.not_mem_nil, or_false] at hp
              rcases hp with rfl | rfl
              · exact ⟨heC, hCL, hC₀⟩
              · have z := N' _ (.head _)
                exact ⟨up _ _ hDw hDC z.1, z.2⟩
          · have z := N' p (.tail _ hp)
            have o := off' p hp
            exact ⟨up _ _ o.1 o.2.1 z.1, z.2⟩
        refine wpAny_mono (step i ys news' h₄ tk₄ (ownOf h₀ fp h₄) H2.objs.size s₂.heap.objs.size oC m₃ _ hlt hV hI hoC F₄ N₄ off' fun a ha => (hobj _ _ hst₄ a ha).imp fun o e => mem_ownOf (W.sub _ ha) (hwr a ha) e) (fun ok s₅ h₅ => ?_) fun _ _ e => e
        have stf : ∀ h₆ news₆, Fr h₀ L h₆ m → News h₀ L h₆ ((ownOf h₀ fp h₄ ++ [(H2.objs.size, oC), (s₂.heap.objs.size, lst ys)]) ++ news₆) → St (i + 1) h₆ := fun h₆ news₆ F₆ N₆ =>
          W.frame _ _ _ hst₄ fun b hb o e => by
            cases hb₀ : h₀.get? b with
            | some o₀ =>
              have := F₄.keep b o₀ hb₀
              rw [e] at this
              cases this
              exact F₆.keep b _ hb₀
            | none => exact (N₆ _ (List.mem_append_left _ (List.mem_append_left _ (mem_ownOf hb hb₀ e)))).1
        cases ok with
        | false =>
          simp only [Bool.false_eq_true, if_false] at h₅ ⊢
          refine hide fun G' hG' => ?_
          obtain ⟨h₆, tk₆, news₆, rfl, F₆, N₆, off₆, hI₆⟩ := h₅
          refine hG' ?_
          clear hG' G'
          have zC := (N₆ (H2.objs.size, oC) (List.mem_append_left _ (List.mem_append_right _ (.head _)))).1
          exact ⟨n + 1 - (i + 1), by omega, h₆, tk₆, i + 1, ys, _, news₆, rfl, hlt, rfl, Nat.le_succ_of_le hyl, stf h₆ news₆ F₆ N₆, F₆, hoC.ns zC, fun p hp => N₆ p (by
            rcases List.mem_cons.mp hp with rfl | hp
            · exact List.mem_append_left _ (List.mem_append_right _ (.tail _ (.head _)))
            · exact List.mem_append_right _ hp), off₆, hI₆⟩
        | true =>
          simp only [if_true] at h₅ ⊢
          refine wpAny_mono h₅ (fun y s₆ h₆ => ?_) fun _ _ e => e
          refine hide fun G' hG' => ?_
          obtain ⟨h₆, tk₆, news₆, rfl, F₆, N₆, off₆, hI₆⟩ := h₆
          refine hG' ?_
          clear hG' G'
          have zC := (N₆ (H2.objs.size, oC) (List.mem_append_left _ (List.mem_append_right _ (.head _)))).1
          have zD := (N₆ (s₂.heap.objs.size, lst ys) (List.mem_append_left _ (List.mem_append_right _ (.tail _ (.head _))))).1
          have hst₆ := stf h₆ news₆ F₆ N₆
          refine append_at (hsz := by show ys.toArray.size ≤ sizeLine; rw [List.size_toArray]; exact Nat.le_trans hyl (Nat.le_trans hi hsz)) zD fun h₇ hs₇ hD₇ => ?_
          refine ⟨n + 1 - (i + 1), by omega, h₇, tk₆, i + 1, ys ++ [y], _, news₆, rfl, hlt, rfl, by rw [List.length_append, List.length_singleton]; omega, W.frame _ _ _ hst₆ fun b hb o e => hs₇.extBut b o (fun q => hDf (q ▸ hb)) e, F₆.change hs₇ hDL hD₀,
            (hoC.ns zC).sameBut hs₇ (Ne.symm hDC), fun p hp => ?_, off₆, hI₆⟩
          rcases List.mem_cons.mp hp with rfl | hp
          · exact ⟨hD₇.trans (congrArg some (lst_snoc ys y)), hDL, hD₀⟩
          · have z := N₆ p (List.mem_append_right _ hp)
            exact ⟨hs₇.extBut _ _ (off₆ p hp).2.2 z.1, z.2⟩
      · obtain rfl : i = n := Nat.le_antisymm hi (Nat.not_lt.mp hlt)
        refine W.done _ _ _ hst' fun h₂ tk₂ hk₂ => ?_
        refine hRR _ _ h₂ tk₂ _ ys news' ⟨F'.ns.at' fun o e => hk₂ L o hLw e, fun b o e => hk₂ b o (base b o e) (F'.keep b o e), F'.above⟩ (fun p hp => ?_) (fun p hp => (off' p hp).2.2) (fun p hp => Heap.lt_size (N p hp).1) (hn'.at' fun o e => hk₂ _ o hCw e) hC₀ hCL (fun p hp => ?_) hI
        · have z := N' p hp
          refine ⟨hk₂ _ _ ?_ z.1, z.2⟩
          rcases List.mem_cons.mp hp with rfl | hp
          · exact hDw
          · exact (off' p hp).1
        · rcases List.mem_cons.mp hp with rfl | hp
          · exact hDC
          · exact (off' p hp).2.1
    · rcases List.mem_cons.mp hp with rfl | hp
      · exact ⟨hacc, hDL, hD₀⟩
      · exact ⟨old _ _ (N p hp).1, (N p hp).2⟩
    · have lt := Heap.lt_size (N p hp).1
      exact ⟨hnw p hp, (below _ lt).1, (below _ lt).2⟩
  exact codeAny_compStart_list (loop _ rfl) (hself _ _ _ hst₁ (loop _ rfl))
end
end Mine
end
section
open PySem PySem.W PySem.Spec PySem.Calls PyProof.Rows
namespace Mine
open LCg (NsObj ns_obj lst lst_snoc)
section
variable {prog : Program} {w : World} {A : Around} {E : Value → Shared → Prop} {s : Shared} {h₀ : Heap} {L : Addr} {m : Str → Option Value} {env : Env}

/-- what is left of a comprehension when its source has been made an iterator -/
abbrev CBlk (prog : Program) (w : World) (A : Around) (env : Env) (target elt iter : Expr) (ifs : List Expr) (scope : Scope) (pos : Pos) (cl : List (Str × Addr)) (RR : Value → Addr → Result → Shared → Prop) (E : Value → Shared → Prop) (it : Value) (s₂ : Shared) : Prop :=
  wpAny (model prog w) A (newList []) (fun acc s₃ => wpAny (model prog w) A (newFunctionEnv scope env.globals cl [] env.qual none .none (some env)) (fun cenv s₄ =>
    codeAny (model prog w) A (.compStart (.ListComp elt [⟨target, iter, ifs, 0⟩] scope pos) 0 it acc { cenv with scope := relabel scope env }) (RR acc cenv.locals) s₄) E s₃) E s₂

theorem compE {target elt iter : Expr} {ifs : List Expr} {scope : Scope} {cl : List (Str × Addr)} {pos : Pos} {Q : Value → Shared → Prop}
    (hclos : closureFor scope env = pure cl) (hkind : scope.kind = .function) (hnames : ∀ y ∈ scope.names, y.2 = .local → scope.names.lookup y.1 = some .local)
    (h : wpAny (model prog w) A (eval iter env) (fun xv s₁ => wpAny (model prog w) A (pyIter xv) (fun it s₂ => CBlk prog w A env target elt iter ifs scope pos cl (fun acc C => compPost (model prog w) A E none Q acc C) E it s₂) E s₁) E s)
    (hs : ∀ x, foldedSetIterable iter env x = pure x) :
    wpAny (model prog w) A (eval (.ListComp elt [⟨target, iter, ifs, 0⟩] scope pos) env) Q E s := by
  rw [eval_ListComp]
  exact wpAny_comprehension_free (use := none) rfl hs hclos hkind hnames h

theorem compA {target elt iter : Expr} {ifs : List Expr} {scope : Scope} {cl : List (Str × Addr)} {pos spos py : Pos} {y : Str} {Q : Flow → Shared → Prop}
    (hsw : swapsWith (.ListComp elt [⟨target, iter, ifs, 0⟩] scope pos) (some (.Name y py)) spos.line env = pure true)
    (hclos : closureFor scope env = pure cl) (hkind : scope.kind = .function) (hnames : ∀ y ∈ scope.names, y.2 = .local → scope.names.lookup y.1 = some .local)
    (h : wpAny (model prog w) A (eval iter env) (fun xv s₁ => wpAny (model prog w) A (pyIter xv) (fun it s₂ => CBlk prog w A env target elt iter ifs scope pos cl (fun acc C => compPost (model prog w) A E (some (assign (.Name y py) env)) (fun _ s' => Q .next s') acc C) E it s₂) E s₁) E s)
    (hs : ∀ x, foldedSetIterable iter env x = pure x) :
    wpAny (model prog w) A (exec (.Assign [.Name y py] (.ListComp elt [⟨target, iter, ifs, 0⟩] scope pos) spos) env) Q E s := by
  rw [exec_Assign_Name_used _ _ _ _ hsw]
  refine wpAny_bind (wpAny_standAt (wpAny_bind ?_))
  show wpAny _ A (do let _ ← comprehension (.ListComp elt [⟨target, iter, ifs, 0⟩] scope pos) scope env _ (newList []) false (eval iter env) (some (assign (.Name y py) env))) _ _ s
  exact wpAny_bind (wpAny_mono (wpAny_comprehension_free (use := some (assign (.Name y py) env)) (Q := fun _ s' => Q .next s') rfl hs hclos hkind hnames h) (fun _ s' hq => wpAny_pure (wpAny_pure hq)) fun _ _ e => e)

theorem postE {Q : Value → Shared → Prop} {s₂ : Shared} {D C : Addr} {h : Heap} {tk : Nat} {m' : Str → Option Value} {ys : List Value} {news' : Led} (F : Fr h₀ L h m) (N : News h₀ L h ((D, lst ys) :: news')) (hn : h.Ns C m') (hC₀ : h₀.get? C = none) (hCL : C ≠ L) (off : ∀ p ∈ (D, lst ys) :: news', p.1 ≠ C)
    (fin : ∀ h', Fr h₀ L h' m → News h₀ L h' ((D, lst ys) :: news') → Q (.ref D) { s₂ with heap := h', toks := tk }) :
    compPost (model prog w) A E none Q (.ref D) C (.ok .next) { s₂ with heap := h, toks := tk } :=
  ⟨m', hn, fun h'' hs'' => fin h'' (F.change hs'' hCL hC₀) fun p hp => ⟨hs''.extBut _ _ (off p hp) (N p hp).1, (N p hp).2⟩⟩

theorem postA {Q : Shared → Prop} {s₂ : Shared} {D C : Addr} {h : Heap} {tk : Nat} {m' : Str → Option Value} {ys : List Value} {news' : Led} {y : Str} {py : Pos} (hLe : env.locals = L) (F : Fr h₀ L h m) (N : News h₀ L h ((D, lst ys) :: news')) (hn : h.Ns C m') (hC₀ : h₀.get? C = none) (hCL : C ≠ L) (off : ∀ p ∈ (D, lst ys) :: news', p.1 ≠ C)
    (hy : env.kindOf y = some .local) (hp : (env.scope.kind == .class || (env.scope.kind == .module && env.locals != env.globals)) = false)
    (fin : ∀ h' tk', Fr h₀ L h' (fun z => if z = y then some (.ref D) else m z) → News h₀ L h' ((D, lst ys) :: news') → Q { s₂ with heap := h', toks := tk' }) :
    compPost (model prog w) A E (some (assign (.Name y py) env)) (fun _ s' => Q s') (.ref D) C (.ok .next) { s₂ with heap := h, toks := tk } := by
  subst hLe
  show wpAny _ A (assign (.Name y py) env (.ref D)) _ _ _
  refine wpAny_assign_Name (wpAny_storeName_local hy F.ns (fun h₂ hn₂ hs₂ => ?_) hp)
  have hL₀ : h₀.get? env.locals = none := Heap.get?_none_of_le F.above
  have F₂ : Fr h₀ env.locals h₂ (fun z => if z = y then some (.ref D) else m z) := ⟨hn₂, fun b o e => hs₂.extBut b o (fun q => by rw [q, hL₀] at e; cases e) (F.keep b o e), F.above⟩
  refine ⟨m', hn.sameBut hs₂ hCL, fun h'' hs'' => fin h'' _ (F₂.change hs'' hCL hC₀) fun p hp => ?_⟩
  have z : h₂.get? p.1 = some p.2 := hs₂.extBut _ _ (N p hp).2.1 (N p hp).1
  exact ⟨hs''.extBut _ _ (off p hp) z, (N p hp).2⟩

theorem asg_name {scope : Scope} {cl : List (Str × Addr)} {x : Str} {px : Pos} {C : Addr} {v : Value} {m₂ : Str → Option Value} {Q : Unit → Shared → Prop} (hkind : scope.kind = .function) (hx : scope.names.lookup x = some .local) (hn : s.heap.Ns C m₂)
    (h : ∀ h' tk m₃, h'.Ns C m₃ → m₃ x = some v → (∀ b o, b ≠ C → s.heap.get? b = some o → h'.get? b = some o) → Q () { s with heap := h', toks := tk }) :
    wpAny (model prog w) A (assign (.Name x px) (compEnvC scope cl C env) v) Q E s :=
  wpAny_assign_Name (wpAny_storeName_local (lookup_relabel_local hx) hn (fun h' hn' hs' => h h' _ _ hn' (by simp) fun b o hb e => hs'.extBut b o hb e) (by simp [compEnvC, relabel, hkind]))

theorem asg_pair {scope : Scope} {cl : List (Str × Addr)} {x y : Str} {px py pt : Pos} {k : Nat} {C T : Addr} {a b : Value} {m₂ : Str → Option Value} {Q : Unit → Shared → Prop} (hh : A.handled = none) (hkind : scope.kind = .function) (hx : scope.names.lookup x = some .local) (hy : scope.names.lookup y = some .local) (hxy : x ≠ y)
    (hT : s.heap.IsTuple T #[a, b]) (hn : s.heap.Ns C m₂)
    (h : ∀ h' tk m₃, h'.Ns C m₃ → m₃ x = some a → m₃ y = some b → (∀ c o, c ≠ C → s.heap.get? c = some o → h'.get? c = some o) → Q () { s with heap := h', toks := tk }) :
    wpAny (model prog w) A (assign (.Tuple [.Name x px, .Name y py] k pt) (compEnvC scope cl C env) (.ref T)) Q E s := by
  refine wpAny_assign_Tuple hh hT rfl rfl fun h₁ hx₁ => ?_
  have old : ∀ c o, s.heap.get? c = some o → h₁.get? c = some o := fun c o e => hx₁ c o (Nat.ne_of_lt (Heap.lt_size e)) e
  show wpAny _ _ (do holding [b] (assign (.Name x px) (compEnvC scope cl C env) a); holding [] (assign (.Name y py) (compEnvC scope cl C env) b); pure ()) _ _ _
  refine wpAny_bind (wpAny_holding (asg_name hkind hx (hn.at' fun o e => old _ o e) fun h₂ tk₂ m₃ hn₂ hv₂ hk₂ => ?_))
  refine wpAny_bind (wpAny_holding (wpAny_assign_Name (wpAny_storeName_local (lookup_relabel_local hy) hn₂ (fun h₃ hn₃ hs₃ => wpAny_pure ?_) (by simp [compEnvC, relabel, hkind]))))
  exact h h₃ _ _ hn₃ (by simp [hxy, hv₂]) (by simp) fun c o hc e => hs₃.extBut c o hc (hk₂ c o hc (old c o e))

theorem asg_triple {scope : Scope} {cl : List (Str × Addr)} {x y z : Str} {px py pz pt : Pos} {k : Nat} {C T : Addr} {a b c : Value} {m₂ : Str → Option Value} {Q : Unit → Shared → Prop} (hh : A.handled = none) (hkind : scope.kind = .function) (hx : scope.names.lookup x = some .local) (hy : scope.names.lookup y = some .local) (hz : scope.names.lookup z = some .local) (hxy : x ≠ y) (hxz : x ≠ z) (hyz : y ≠ z)
    (hT : s.heap.IsTuple T #[a, b, c]) (hn : s.heap.Ns C m₂)
    (h : ∀ h' tk m₃, h'.Ns C m₃ → m₃ x = some a → m₃ y = some b → m₃ z = some c → (∀ c o, c ≠ C → s.heap.get? c = some o → h'.get? c = some o) → Q () { s with heap := h', toks := tk }) :
    wpAny (model prog w) A (assign (.Tuple [.Name x px, .Name y py, .Name z pz] k pt) (compEnvC scope cl C env) (.ref T)) Q E s := by
  refine wpAny_assign_Tuple hh hT rfl rfl fun h₁ hx₁ => ?_
  have old : ∀ c o, s.heap.get? c = some o → h₁.get? c = some o := fun c o e => hx₁ c o (Nat.ne_of_lt (Heap.lt_size e)) e
  show wpAny _ _ (do holding [b, c] (assign (.Name x px) (compEnvC scope cl C env) a); (do holding [c] (assign (.Name y py) (compEnvC scope cl C env) b); holding [] (assign (.Name z pz) (compEnvC scope cl C env) c); pure ())) _ _ _
  refine wpAny_bind (wpAny_holding (asg_name hkind hx (hn.at' fun o e => old _ o e) fun h₂ tk₂ m₃ hn₂ hv₂ hk₂ => ?_))
  refine wpAny_bind (wpAny_holding (wpAny_assign_Name (wpAny_storeName_local (lookup_relabel_local hy) hn₂ (fun h₃ hn₃ hs₃ => ?_) (by simp [compEnvC, relabel, hkind]))))
  refine wpAny_bind (wpAny_holding (wpAny_assign_Name (wpAny_storeName_local (lookup_relabel_local hz) hn₃ (fun h₄ hn₄ hs₄ => wpAny_pure ?_) (by simp [compEnvC, relabel, hkind]))))
  exact h h₄ _ _ hn₄ (by simp [hxy, hxz, hv₂]) (by simp [hyz]) (by simp) fun c o hc e => hs₄.extBut c o hc (hs₃.extBut c o hc (hk₂ c o hc (old c o e)))

section
variable {target elt iter : Expr} {ifs : List Expr} {scope : Scope} {cl : List (Str × Addr)} {pos : Pos} {RR : Value → Addr → Result → Shared → Prop} {V : Nat → (Str → Option Value) → Prop} {news : Led}
theorem comp_list {ax : Addr} {vs : List Value} {k : Nat} (Inv : Nat → List Value → Led → Prop) (hh : A.handled = none) (hcell : ∀ y ∈ scope.names, y.2 ≠ .cell) (hkind : scope.kind = .function)
    (F : Fr h₀ L s.heap m) (N : News h₀ L s.heap news) (hm : (ax, listO vs k) ∈ news) (hsz : vs.length ≤ sizeLine) (h0 : Inv 0 [] news)
    (hasg : ∀ (C : Addr) i v ys news₁ (s : Shared) m₂ (Q : Unit → Shared → Prop) (E : Value → Shared → Prop), vs[i]? = some v → Inv i ys news₁ → News h₀ L s.heap news₁ → s.heap.Ns C m₂ →
      (∀ h' tk m₃, h'.Ns C m₃ → V i m₃ → (∀ b o, b ≠ C → s.heap.get? b = some o → h'.get? b = some o) → Q () { s with heap := h', toks := tk }) → wpAny (model prog w) A (assign target (compEnvC scope cl C env) v) Q E s)
    (step : ∀ i ys news₁ h tk own (C D : Addr) oC m₂ wr (E' : Value → Shared → Prop), i < vs.length → V i m₂ → Inv i ys news₁ → NsObj oC m₂ → Fr h₀ L h m → News h₀ L h ((own ++ [(C, oC), (D, lst ys)]) ++ news₁) → (∀ p ∈ news₁, p.1 ∉ wr ∧ p.1 ≠ C ∧ p.1 ≠ D) → (∀ a ∈ wr, ∃ o, (a, o) ∈ own) →
      wpAny (model prog w) A (compTests ifs (compEnvC scope cl C env)) (fun ok s₃ => if ok = true then
          wpAny (model prog w) A (eval elt (compEnvC scope cl C env)) (fun y s₄ => CEnd h₀ L m { s with heap := h, toks := tk } wr C D (own ++ [(C, oC), (D, lst ys)]) (Inv (i + 1) (ys ++ [y])) s₄) E' s₃
        else CEnd h₀ L m { s with heap := h, toks := tk } wr C D (own ++ [(C, oC), (D, lst ys)]) (Inv (i + 1) ys) s₃) E' { s with heap := h, toks := tk })
    (hRR : ∀ D C h tk m' ys news', Fr h₀ L h m → News h₀ L h ((D, lst ys) :: news') → (∀ p ∈ news', p.1 ≠ D) → (∀ p ∈ news, p.1 < D) → h.Ns C m' → h₀.get? C = none → C ≠ L → (∀ p ∈ (D, lst ys) :: news', p.1 ≠ C) → Inv vs.length ys news' →
      RR (.ref D) C (.ok .next) { s with heap := h, toks := tk }) :
    wpAny (model prog w) A (pyIter (.ref ax)) (fun it s₂ => CBlk prog w A env target elt iter ifs scope pos cl RR E it s₂) E s := by
  have hax := N _ hm
  have hl : s.heap.IsList ax vs.toArray := N.isList hm
  have hlt : ax < s.heap.objs.size := Heap.lt_size hax.1
  have hne : ax ≠ s.heap.objs.size := Nat.ne_of_lt hlt
  refine wpAny_pyIter_list hl ?_
  have W := Walks.list (prog := prog) (w := w) hh s.heap.objs.size ax hne vs.toArray
  refine comp_block (V := V) Inv (KTurns.ofWalks W fun i v s Q E st q => letGo_listiter st.1 q) (fun s Q E st q => W.self 0 s Q E st q) (by simpa using hsz) hcell hkind
    (fun C i v ys news₁ s m₂ Q E hi hP hI N₁ hn k => hasg C i v ys news₁ s m₂ Q E (by simpa using hP) hI N₁ hn k)
    (fun i h st a ha => by rw [List.mem_singleton.mp ha]; obtain ⟨o, e, _⟩ := st.1; exact ⟨o, e⟩) ⟨⟨_, Heap.get?_push_size _ rfl, rfl, rfl⟩, hl.at fun o e => Heap.get?_push_of_some _ e⟩ (fun b hb => ?_) (fun hI => ?_) (fun b hb => by rw [List.mem_singleton.mp hb]; exact next_is_new F)
    (F.push _) (fun p hp => ⟨Heap.get?_push_of_some _ (N p hp).1, (N p hp).2⟩) (fun p hp hI => absurd (Heap.lt_size (N p hp).1) ((List.mem_singleton.mp hI) ▸ Nat.lt_irrefl _)) h0 (fun i ys news₁ h tk own C D oC m₂ E' hi => step i ys news₁ h tk own C D oC m₂ _ E' (by simpa using hi)) fun D C h tk m' ys news' a b c d e f g h hI => hRR D C _ tk m' ys news' a b c d e f g h (by simpa using hI)
  · show b < (s.heap.push _).objs.size
    rw [Heap.size_push]
    rcases List.mem_cons.mp hb with e | hb
    · rw [e]; exact Nat.lt_succ_self _
    · rw [List.mem_singleton.mp hb]; exact Nat.lt_succ_of_lt hlt
  · rcases List.mem_cons.mp hI with e | hI
    · exact absurd F.ns.lt (e ▸ Nat.lt_irrefl _)
    · exact hax.2.1 (List.mem_singleton.mp hI).symm
theorem comp_tuple {ax : Addr} {vs : List Value} {k : Nat} (Inv : Nat → List Value → Led → Prop) (hh : A.handled = none) (hcell : ∀ y ∈ scope.names, y.2 ≠ .cell) (hkind : scope.kind = .function)
    (F : Fr h₀ L s.heap m) (N : News h₀ L s.heap news) (hm : (ax, ({ cls := .type "tuple", data := .seq vs.toArray k } : Obj)) ∈ news) (hsz : vs.length ≤ sizeLine) (h0 : Inv 0 [] news)
    (hasg : ∀ (C : Addr) i v ys news₁ (s : Shared) m₂ (Q : Unit → Shared → Prop) (E : Value → Shared → Prop), vs[i]? = some v → Inv i ys news₁ → News h₀ L s.heap news₁ → s.heap.Ns C m₂ →
      (∀ h' tk m₃, h'.Ns C m₃ → V i m₃ → (∀ b o, b ≠ C → s.heap.get? b = some o → h'.get? b = some o) → Q () { s with heap := h', toks := tk }) → wpAny (model prog w) A (assign target (compEnvC scope cl C env) v) Q E s)
    (step : ∀ i ys news₁ h tk own (C D : Addr) oC m₂ wr (E' : Value → Shared → Prop), i < vs.length → V i m₂ → Inv i ys news₁ → NsObj oC m₂ → Fr h₀ L h m → News h₀ L h ((own ++ [(C, oC), (D, lst ys)]) ++ news₁) → (∀ p ∈ news₁, p.1 ∉ wr ∧ p.1 ≠ C ∧ p.1 ≠ D) → (∀ a ∈ wr, ∃ o, (a, o) ∈ own) →
      wpAny (model prog w) A (compTests ifs (compEnvC scope cl C env)) (fun ok s₃ => if ok = true then
          wpAny (model prog w) A (eval elt (compEnvC scope cl C env)) (fun y s₄ => CEnd h₀ L m { s with heap := h, toks := tk } wr C D (own ++ [(C, oC), (D, lst ys)]) (Inv (i + 1) (ys ++ [y])) s₄) E' s₃
        else CEnd h₀ L m { s with heap := h, toks := tk } wr C D (own ++ [(C, oC), (D, lst ys)]) (Inv (i + 1) ys) s₃) E' { s with heap := h, toks := tk })
    (hRR : ∀ D C h tk m' ys news', Fr h₀ L h m → News h₀ L h ((D, lst ys) :: news') → (∀ p ∈ news', p.1 ≠ D) → (∀ p ∈ news, p.1 < D) → h.Ns C m' → h₀.get? C = none → C ≠ L → (∀ p ∈ (D, lst ys) :: news', p.1 ≠ C) → Inv vs.length ys news' →
      RR (.ref D) C (.ok .next) { s with heap := h, toks := tk }) :
    wpAny (model prog w) A (pyIter (.ref ax)) (fun it s₂ => CBlk prog w A env target elt iter ifs scope pos cl RR E it s₂) E s := by
  have hax := N _ hm
  have hl : s.heap.IsTuple ax vs.toArray := ⟨_, hax.1, rfl, k, rfl⟩
  have hlt : ax < s.heap.objs.size := Heap.lt_size hax.1
  have hne : ax ≠ s.heap.objs.size := Nat.ne_of_lt hlt
  refine wpAny_pyIter_tuple hl ?_
  have W := Walks.tuple (prog := prog) (w := w) hh s.heap.objs.size ax hne vs.toArray
  refine comp_block (V := V) Inv (KTurns.ofWalks W fun i v s Q E st q => letGo_tupleiter st.1 q) (fun s Q E st q => W.self 0 s Q E st q) (by simpa using hsz) hcell hkind
    (fun C i v ys news₁ s m₂ Q E hi hP hI N₁ hn k => hasg C i v ys news₁ s m₂ Q E (by simpa using hP) hI N₁ hn k)
    (fun i h st a ha => by rw [List.mem_singleton.mp ha]; obtain ⟨o, e, _⟩ := st.1; exact ⟨o, e⟩) ⟨⟨_, Heap.get?_push_size _ rfl, rfl, rfl⟩, hl.at fun o e => Heap.get?_push_of_some _ e⟩ (fun b hb => ?_) (fun hI => ?_) (fun b hb => by rw [List.mem_singleton.mp hb]; exact next_is_new F)
    (F.push _) (fun p hp => ⟨Heap.get?_push_of_some _ (N p hp).1, (N p hp).2⟩) (fun p hp hI => absurd (Heap.lt_size (N p hp).1) ((List.mem_singleton.mp hI) ▸ Nat.lt_irrefl _)) h0 (fun i ys news₁ h tk own C D oC m₂ E' hi => step i ys news₁ h tk own C D oC m₂ _ E' (by simpa using hi)) fun D C h tk m' ys news' a b c d e f g h hI => hRR D C _ tk m' ys news' a b c d e f g h (by simpa using hI)
  · show b < (s.heap.push _).objs.size
    rw [Heap.size_push]
    rcases List.mem_cons.mp hb with e | hb
    · rw [e]; exact Nat.lt_succ_self _
    · rw [List.mem_singleton.mp hb]; exact Nat.lt_succ_of_lt hlt
  · rcases List.mem_cons.mp hI with e | hI
    · exact absurd F.ns.lt (e ▸ Nat.lt_irrefl _)
    · exact hax.2.1 (List.mem_singleton.mp hI).symm
theorem comp_range {r : Addr} {b : Int} {t u v : Tok} {n : Nat} {x : Str} {px : Pos} (Inv : Nat → List Value → Led → Prop) (hh : A.handled = none) (hcell : ∀ y ∈ scope.names, y.2 ≠ .cell) (hkind : scope.kind = .function) (hx : scope.names.lookup x = some .local)
    (F : Fr h₀ L s.heap m) (N : News h₀ L s.heap news) (hr : IsRange s.heap r 0 b 1 t u v) (hsm : Builtin.Range.small 0 b 1 = true) (hn : Builtin.Range.rangeSize 0 b 1 = ((n : Nat) : Int)) (hsz : n ≤ sizeLine) (h0 : Inv 0 [] news)
    (step : ∀ i ys news₁ h tk own (C D : Addr) oC m₂ wr (E' : Value → Shared → Prop), i < n → (∃ t, m₂ x = some (.int (i : Int) t)) → Inv i ys news₁ → NsObj oC m₂ → Fr h₀ L h m → News h₀ L h ((own ++ [(C, oC), (D, lst ys)]) ++ news₁) → (∀ p ∈ news₁, p.1 ∉ wr ∧ p.1 ≠ C ∧ p.1 ≠ D) → (∀ a ∈ wr, ∃ o, (a, o) ∈ own) →
      wpAny (model prog w) A (compTests ifs (compEnvC scope cl C env)) (fun ok s₃ => if ok = true then
          wpAny (model prog w) A (eval elt (compEnvC scope cl C env)) (fun y s₄ => CEnd h₀ L m { s with heap := h, toks := tk } wr C D (own ++ [(C, oC), (D, lst ys)]) (Inv (i + 1) (ys ++ [y])) s₄) E' s₃
        else CEnd h₀ L m { s with heap := h, toks := tk } wr C D (own ++ [(C, oC), (D, lst ys)]) (Inv (i + 1) ys) s₃) E' { s with heap := h, toks := tk })
    (hRR : ∀ D C h tk m' ys news', Fr h₀ L h m → News h₀ L h ((D, lst ys) :: news') → (∀ p ∈ news', p.1 ≠ D) → (∀ p ∈ news, p.1 < D) → h.Ns C m' → h₀.get? C = none → C ≠ L → (∀ p ∈ (D, lst ys) :: news', p.1 ≠ C) → Inv n ys news' →
      RR (.ref D) C (.ok .next) { s with heap := h, toks := tk }) :
    wpAny (model prog w) A (pyIter (.ref r)) (fun it s₂ => CBlk prog w A env (.Name x px) elt iter ifs scope pos cl RR E it s₂) E s := by
  refine wpAny_pyIter_range hr hsm ?_
  have W := LCg.range_walks (prog := prog) (w := w) (I := s.heap.objs.size) hh 0 n
  refine comp_block (V := fun i m₂ => ∃ t, m₂ x = some (.int (i : Int) t)) Inv (KTurns.ofWalks W fun i v s Q E st q => wpAny_pure q) (fun s Q E st q => W.self 0 s Q E st q) hsz hcell hkind
    (fun C i v ys news₁ s m₂ Q E hi hP hI N₁ hn k => ?_)
    (fun i h st a ha => by rw [List.mem_singleton.mp ha]; exact ⟨_, st⟩) (by show IsRangeIter _ _ _ _ _; rw [hn]; simpa using Heap.get?_push_size _ rfl) (fun b hb => ?_) (fun hI => ?_) (fun b hb => by rw [List.mem_singleton.mp hb]; exact next_is_new F)
    (F.push _) (fun p hp => ⟨Heap.get?_push_of_some _ (N p hp).1, (N p hp).2⟩) (fun p hp hI => absurd (Heap.lt_size (N p hp).1) ((List.mem_singleton.mp hI) ▸ Nat.lt_irrefl _)) h0 (fun i ys news₁ h tk own C D oC m₂ E' hi => step i ys news₁ h tk own C D oC m₂ _ E' hi) fun D C h tk m' ys news' a b c d e f g h hI => hRR D C _ tk m' ys news' a b c d e f g h hI
  · obtain ⟨t, rfl⟩ := hP
    refine asg_name hkind hx hn fun h' tk m₃ a b c => k h' tk m₃ a ⟨t, ?_⟩ c
    rw [b, Int.zero_add]
  · show b < (s.heap.push _).objs.size
    rw [Heap.size_push, List.mem_singleton.mp hb]
    exact Nat.lt_succ_self _
  · exact absurd F.ns.lt ((List.mem_singleton.mp hI) ▸ Nat.lt_irrefl _)
theorem comp_zip {b : Nat} {c₀ : Cur} {r : List Cur} {N₀ : Nat} {elts : List Expr} {kk : Nat} {tp : Pos} (Inv : Nat → List Value → Led → Prop) (hh : A.handled = none) (hcell : ∀ y ∈ scope.names, y.2 ≠ .cell) (hkind : scope.kind = .function)
    (hcs : CursFrom b (c₀ :: r)) (hsrc : ∀ c ∈ c₀ :: r, c.src < b) (hN : ∀ c ∈ c₀ :: r, c.xs.length = N₀) (hlen : (c₀ :: r).length ≤ sizeLine) (hZ : ZipAt b (c₀ :: r) 0 .none s.heap) (hnew : h₀.objs.size ≤ b) (hLb : L < b) (hLs : ∀ c ∈ c₀ :: r, c.src ≠ L) (hnb : ∀ p ∈ news, p.1 < b)
    (F : Fr h₀ L s.heap m) (N : News h₀ L s.heap news) (hsz : N₀ ≤ sizeLine) (h0 : Inv 0 [] news)
    (hasg : ∀ (C T : Addr) i ys news₁ (s : Shared) m₂ (Q : Unit → Shared → Prop) (E : Value → Shared → Prop), i < N₀ → s.heap.IsTuple T ((c₀ :: r).map fun c => c.xs[i]?.getD .none).toArray → Inv i ys news₁ → News h₀ L s.heap news₁ → s.heap.Ns C m₂ →
      (∀ h' tk m₃, h'.Ns C m₃ → V i m₃ → (∀ b o, b ≠ C → s.heap.get? b = some o → h'.get? b = some o) → Q () { s with heap := h', toks := tk }) → wpAny (model prog w) A (assign (.Tuple elts kk tp) (compEnvC scope cl C env) (.ref T)) Q E s)
    (step : ∀ i ys news₁ h tk own (C D : Addr) oC m₂ wr (E' : Value → Shared → Prop), i < N₀ → V i m₂ → Inv i ys news₁ → NsObj oC m₂ → Fr h₀ L h m → News h₀ L h ((own ++ [(C, oC), (D, lst ys)]) ++ news₁) → (∀ p ∈ news₁, p.1 ∉ wr ∧ p.1 ≠ C ∧ p.1 ≠ D) → (∀ a ∈ wr, ∃ o, (a, o) ∈ own) →
      wpAny (model prog w) A (compTests ifs (compEnvC scope cl C env)) (fun ok s₃ => if ok = true then
          wpAny (model prog w) A (eval elt (compEnvC scope cl C env)) (fun y s₄ => CEnd h₀ L m { s with heap := h, toks := tk } wr C D (own ++ [(C, oC), (D, lst ys)]) (Inv (i + 1) (ys ++ [y])) s₄) E' s₃
        else CEnd h₀ L m { s with heap := h, toks := tk } wr C D (own ++ [(C, oC), (D, lst ys)]) (Inv (i + 1) ys) s₃) E' { s with heap := h, toks := tk })
    (hRR : ∀ D C h tk m' ys news', Fr h₀ L h m → News h₀ L h ((D, lst ys) :: news') → (∀ p ∈ news', p.1 ≠ D) → (∀ p ∈ news, p.1 < D) → h.Ns C m' → h₀.get? C = none → C ≠ L → (∀ p ∈ (D, lst ys) :: news', p.1 ≠ C) → Inv N₀ ys news' →
      RR (.ref D) C (.ok .next) { s with heap := h, toks := tk }) :
    wpAny (model prog w) A (pyIter (.ref (b + (c₀ :: r).length + 2))) (fun it s₂ => CBlk prog w A env (.Tuple elts kk tp) elt iter ifs scope pos cl RR E it s₂) E s := by
  refine wpAny_pyIter_zip hZ.zat.z ?_
  have W := zip_walks (prog := prog) (w := w) hh hcs hsrc hN hlen
  have off : ∀ p ∈ news, p.1 ∉ zipWr b (c₀ :: r) := fun p hp hI => by
    have h1 := hnb p hp
    simp only [zipWr, List.cons_append, List.nil_append, List.mem_cons] at hI
    rcases hI with e | e | e
    · rw [e] at h1; exact absurd h1 (Nat.not_lt.mpr (Nat.le_add_right_of_le (Nat.le_add_right _ _)))
    · rw [e] at h1; exact absurd h1 (Nat.not_lt.mpr (Nat.le_add_right_of_le (Nat.le_add_right _ _)))
    · obtain ⟨d, hd, e⟩ := List.mem_map.mp e
      have e' : d.it = p.1 := e
      rw [← e'] at h1
      exact absurd h1 (Nat.not_lt.mpr (hcs.ge d hd).1)
  have new : ∀ a, b ≤ a → h₀.get? a = none := fun a ha => by
    cases e : h₀.get? a with
    | none => rfl
    | some o => exact absurd (Heap.lt_size e) (Nat.not_lt.mpr (Nat.le_trans hnew ha))
  refine comp_block (V := V) Inv (KTurns.ofWalksU W) (fun s Q E st q => W.self 0 s Q E st q) hsz hcell hkind
    (fun C i v ys news₁ s m₂ Q E hi hP hI N₁ hn k => ?_) (fun i h st a ha => ?_) hZ (fun a ha => ?_) (fun hI => ?_) (fun a ha => ?_)
    F N off h0 (fun i ys news₁ h tk own C D oC m₂ E' hi => step i ys news₁ h tk own C D oC m₂ _ E' hi) fun D C h tk m' ys news' a b c d e f g h hI => hRR D C _ tk m' ys news' a b c d e f g h hI
  · obtain ⟨T, vals, rfl, ⟨_, rfl⟩, hT⟩ := hP
    exact hasg C T i ys news₁ s m₂ Q E hi hT hI N₁ hn k
  · simp only [zipWr, List.cons_append, List.nil_append, List.mem_cons] at ha
    rcases ha with rfl | rfl | ha
    · exact ⟨_, st.zat.z⟩
    · obtain ⟨vals, _, e⟩ := st.own
      exact ⟨_, e⟩
    · obtain ⟨d, hd, rfl⟩ := List.mem_map.mp ha
      exact (st.cur d hd).obj.1
  · simp only [zipFp, List.cons_append, List.nil_append, List.mem_cons, List.mem_append] at ha
    rcases ha with rfl | rfl | rfl | ha | ha
    · exact Heap.lt_size hZ.zat.z
    · obtain ⟨vals, _, e⟩ := hZ.own
      exact Heap.lt_size e
    · exact Heap.lt_size hZ.zat.its
    · obtain ⟨d, hd, rfl⟩ := List.mem_map.mp ha
      obtain ⟨o, e⟩ := (hZ.cur d hd).obj.1
      exact Heap.lt_size e
    · obtain ⟨d, hd, rfl⟩ := List.mem_map.mp ha
      obtain ⟨o, e⟩ := (hZ.cur d hd).obj.2
      exact Heap.lt_size e
  · simp only [zipFp, List.cons_append, List.nil_append, List.mem_cons, List.mem_append] at hI
    rcases hI with e | e | e | ha | ha
    · rw [e] at hLb; exact absurd hLb (Nat.not_lt.mpr (Nat.le_add_right_of_le (Nat.le_add_right _ _)))
    · rw [e] at hLb; exact absurd hLb (Nat.not_lt.mpr (Nat.le_add_right_of_le (Nat.le_add_right _ _)))
    · rw [e] at hLb; exact absurd hLb (Nat.not_lt.mpr (Nat.le_add_right _ _))
    · obtain ⟨d, hd, e⟩ := List.mem_map.mp ha
      have e' : d.it = L := e
      rw [← e'] at hLb
      exact absurd hLb (Nat.not_lt.mpr (hcs.ge d hd).1)
    · obtain ⟨d, hd, e⟩ := List.mem_map.mp ha
      exact hLs d hd e
  · simp only [zipWr, List.cons_append, List.nil_append, List.mem_cons] at ha
    rcases ha with rfl | rfl | ha
    · exact new _ (Nat.le_add_right_of_le (Nat.le_add_right _ _))
    · exact new _ (Nat.le_add_right_of_le (Nat.le_add_right _ _))
    · obtain ⟨d, hd, rfl⟩ := List.mem_map.mp ha
      exact new _ (hcs.ge d hd).1
end
end
end Mine
end
section
open PySem PySem.W PySem.Spec PySem.Calls PyProof.Rows
namespace Mine
local macro_rules | `(tactic| k_mem) => `(tactic| (refine' mem_of ?_; ktr_member))
local macro_rules | `(tactic| k_mem) => `(tactic| (refine Grow.mem' ?_ ?_; with_reducible assumption; k_mem))
local macro_rules | `(tactic| ktn_ord) => `(tactic| first | exact Grow.refl | with_reducible assumption | (refine Grow.cons ?_ ?_; (first | assumption | exact allLt_of (by assumption)); ktn_ord) | (refine Grow.trans ?_ ?_; rotate_left; with_reducible assumption; ktn_ord))
local macro_rules | `(tactic| walk_at $s:str) => `(tactic| k_extra $s)
theorem lay_5 : True := by
  k_with "eval Dict" => (k_here; k_dflt (refine kdn_str (by rfl) (by k_asm) (by k_asm) (by exact TopRead.nolimit (by k_asm)) (by rfl) (by rfl) (by exact List.cons_ne_nil _ _) (by exact Nat.le_of_ble_eq_true rfl) ?_); intro d'_k h'_k o'_k F'_k N'_k l1_k lo'_k hd'_k; (try k_lt l1_k))
  k_with "subscriptTail" => (k_here; (with_reducible show wpAny _ _ (subscriptTail _ (PySem.Expr.Slice none (some _) none _) (Value.ref _) (Value.ref _)) _ _ _); k_dflt (refine slice_tuple_uptoK (by k_asm) (by k_asm) (by k_mem) (by decide) (by exact Nat.le_of_ble_eq_true rfl) (by kl_lit) (by exact Nat.le_of_ble_eq_true rfl) ?_ (by with_unfolding_all rfl) (by kmk_pure)); intro D'_k h'_k F'_k N'_k l1_k; (try k_lt l1_k); (try k_sweep))
  k_with "subscriptTail" => (k_here; (with_reducible show wpAny _ _ (subscriptTail _ _ (Value.ref _) (Value.int _ _)) _ _ _); k_dflt (refine item_tupM (by k_asm) (by k_mem) (by decide) (by decide) (by rfl) (by rfl) ?_; k_whole))
  k_with "subscriptTail" => (k_here; (with_reducible show wpAny _ _ (subscriptTail _ _ (Value.ref _) (Value.int _ _)) _ _ _); k_dflt (refine item_lstM (by k_asm) (by k_mem) (by decide) (by decide) (by rfl) ?_; k_whole))
  k_with "subscriptTail" => (k_here; first | ((with_reducible show wpAny _ _ (subscriptTail _ _ (Value.ref _) (Value.str _ _)) _ _ _); k_dflt (refine kdt_tail (knd := PySem.strKind _ _) (by k_asm) (by k_mem) (by k_asm) (kdt_getItem (knd := PySem.strKind _ _) (by k_asm) (by k_mem) (by k_asm) (strKind_is _ _ _ _) (by rfl) ?_))) | ((with_reducible show wpAny _ _ (subscriptTail _ _ (Value.ref _) (Value.int _ _)) _ _ _); k_dflt (refine kdt_tail (knd := PySem.intKind _ _) (by k_asm) (by k_mem) (by k_asm) (kdt_getItem (knd := PySem.intKind _ _) (by k_asm) (by k_mem) (by k_asm) (intKind_is _ _ _ _) (by rfl) ?_))))
  k_with "setItem ref str" => (k_here; k_dflt (refine kda_set (knd := PySem.strKind _ _) (by k_asm) (by k_asm) (by k_updF) (by k_asm) (strKind_is _ _ _ _) (by (rw [sizeLine_eq]; exact Nat.le_of_ble_eq_true (by with_unfolding_all rfl))) ?_); intro h'_k o'_k F'_k N'_k hd'_k; (try dsimp only at N'_k))
  trivial
abbrev Key := Int × Int
def Row.get (r : Row) : Int → Int
  | 0 => r.a
  | 1 => r.b
  | 2 => r.c
  | 3 => r.d
  | 4 => r.e
  | _ => r.f
def cmpK : List Key → Row → Row → Int
  | [], _, _ => 0
  | (i, d) :: ks, u, v => if u.get i < v.get i then -d else if v.get i < u.get i then d else cmpK ks u v
inductive KeysIn (news : Led) : List Value → List Key → Prop
  | nil : KeysIn news [] []
  | cons {p : Addr} {i d : Int} {ti td : Tok} {vs : List Value} {ks : List Key} : (p, tupO [.int i ti, .int d td]) ∈ news → 0 ≤ i → i < 6 → KeysIn news vs ks → KeysIn news (.ref p :: vs) ((i, d) :: ks)
theorem KeysIn.mono {n n' : Led} {vs : List Value} {ks : List Key} (h : KeysIn n vs ks) (g : ∀ p ∈ n, p ∈ n') : KeysIn n' vs ks := by
  induction h with
  | nil => exact .nil
  | cons a b c _ ih => exact .cons (g _ a) b c ih
inductive KeyL (news : Led) : Value → List Key → Prop
  | mk {l : Addr} {n : Nat} {vs : List Value} {ks : List Key} : (l, ({ cls := .type "list", data := .seq vs.toArray n } : Obj)) ∈ news → KeysIn news vs ks → KeyL news (.ref l) ks
inductive CompIn (prog : Program) (w : World) (news : Led) : Value → List Key → Prop
  | mk {x dx : Addr} {n : Nat} {tk : Tok} {v : Value} {ks : List Key} : (x, instObj 38 dx) ∈ news → (dx, dictOf [⟨PyData.keyHash w.params (Str.ofString "comp_select_list"), .str (Str.ofString "comp_select_list") tk, v⟩] n) ∈ news → KeyL news v ks → CompIn prog w news (.ref x) ks
theorem KeysIn.at {n : Led} {vs : List Value} {ks : List Key} (h : KeysIn n vs ks) : ∀ {i : Nat} {v : Value}, vs[i]? = some v → ∃ (p : Addr) (x d : Int) (ti td : Tok), v = .ref p ∧ ks[i]? = some (x, d) ∧ (p, tupO [.int x ti, .int d td]) ∈ n ∧ 0 ≤ x ∧ x < 6 := by
  induction h with
  | nil => intro i v e; simp at e
  | cons a b c _ ih =>
    intro i v e
    match i, e with
    | 0, e => exact ⟨_, _, _, _, _, (Option.some.inj e).symm, rfl, a, b, c⟩
    | i + 1, e => exact ih (i := i) e
theorem KeysIn.len {n : Led} {vs : List Value} {ks : List Key} (h : KeysIn n vs ks) : vs.length = ks.length := by
  induction h with
  | nil => rfl
  | cons _ _ _ _ ih => simp [ih]
theorem cmpK_drop {ks : List Key} {i : Nat} {x d : Int} {u v : Row} (h : ks[i]? = some (x, d)) : cmpK (ks.drop i) u v = if u.get x < v.get x then -d else if v.get x < u.get x then d else cmpK (ks.drop (i + 1)) u v := by
  have hlt : i < ks.length := by
    rcases Nat.lt_or_ge i ks.length with h' | h'
    · exact h'
    · rw [List.getElem?_eq_none h'] at h; cases h
  rw [List.drop_eq_getElem_cons hlt]
  have e : ks[i] = (x, d) := Option.some.inj ((List.getElem?_eq_getElem hlt).symm.trans h)
  rw [e]
  rfl
theorem item_row {prog : Program} {w : World} {A : Around} {E : Value → Shared → Prop} {s : Shared} {h₀ : Heap} {L : Addr} {news : Led} {value slice : Expr} {p : Addr} {t0 t1 t2 t3 t4 t5 : Tok} {r : Row} {k : Int} {u : Tok} {Q : Value → Shared → Prop} (N : News h₀ L s.heap news)
    (ht : (p, tupO [.int r.a t0, .int r.b t1, .int r.c t2, .int r.d t3, .int r.e t4, .int r.f t5]) ∈ news) (h0 : 0 ≤ k) (h6 : k < 6) (h : ∀ t, Q (.int (r.get k) t) s)
    (hs : subscripted slice false (.ref p) (.int k u) = operate [.ref p, .int k u] (getItem (.ref p) (.int k u)) := by with_unfolding_all rfl) :
    wpAny (model prog w) A (subscriptTail value slice (.ref p) (.int k u)) Q E s := by
  obtain ⟨j, rfl⟩ := Int.eq_ofNat_of_zero_le h0
  match j, h6 with
  | 0, _ => exact item_tupM N ht (by decide) (by decide) rfl rfl (h _) hs
  | 1, _ => exact item_tupM N ht (by decide) (by decide) rfl rfl (h _) hs
  | 2, _ => exact item_tupM N ht (by decide) (by decide) rfl rfl (h _) hs
  | 3, _ => exact item_tupM N ht (by decide) (by decide) rfl rfl (h _) hs
  | 4, _ => exact item_tupM N ht (by decide) (by decide) rfl rfl (h _) hs
  | 5, _ => exact item_tupM N ht (by decide) (by decide) rfl rfl (h _) hs
  | j + 6, h6 => exact absurd h6 (by omega)
theorem lay_6 : True := by
  k_with "subscriptTail" => (k_here; (with_reducible show wpAny _ _ (subscriptTail _ (PySem.Expr.Name _ _) (Value.ref _) (Value.int _ _)) _ _ _); k_dflt (refine item_row (by k_asm) (by k_mem) (by assumption) (by assumption) ?_); intro tr'_k)
  trivial
set_option maxHeartbeats 4000000 in
theorem compare_ct {prog w mg mb news v v1 v2 ks r1 r2} (hR : CompIn prog w news v ks) (h1 : RowIn news v1 r1) (h2 : RowIn news v2 r2) : Ct prog w mg mb 10 (.ref 35) [v, v1, v2] news (fun n v => ∃ t, v = .int (cmpK ks r1 r2) t) := by
  intro dp un gd cn cs a ccd cl outer A₀ base h₀ L m s Q E B F X N T hk hdp hun hret
  cases hR with | mk hx hdx hl =>
  cases hl with | mk hl hks =>
  cases h1 with | mk h1 =>
  cases h2 with | mk h2 =>
  refine wpAny_call ?_
  k_dflt (refine code_defR (by exact rfl) (by exact rfl) (by assumption) (by k_asm) (by k_asm) (by k_asm) (by k_asm) (by k_asm) (by k_is) (by k_is) (by ktr_room) (by exact BindsTo.of_eq rfl) (by decide) (by exact locs rfl) (by exact rfl) (by exact rfl) (by exact rfl) ?_; k_whole; intro g'_k L'_k h'_k FG'_k F'_k N'_k B'_k X'_k T'_k st'_k hL'_k; (try dsimp only); (try k_fold))
  k_steps
  rename Fr _ _ _ _ => F1; rename News _ _ _ _ => N1
  refine For_turns F1 ?_
  k_steps
  refine list_loop (Inv := fun i m₁ n₁ => n₁ = news ∧ cmpK ks r1 r2 = cmpK (ks.drop i) r1 r2 ∧ ∃ u, m₁ = cf [(Str.ofString "left", .ref _), (Str.ofString "right", .ref _)] u) rfl F1 N1 hl ⟨rfl, by rw [List.drop_zero], _, cf_of ⟨rfl, rfl, trivial⟩⟩ ?_ ?_
  · rintro I i v m₁ _ h tk it hI hv ⟨rfl, hcmp, u, rfl⟩ - hoff F2 N2
    obtain ⟨p, x, d, ti, td, rfl, hki, hp, hx0, hx6⟩ := hks.at hv
    k_steps
    · dsimp only [TPost]
      k_steps
      rename Fr h₀ L _ m => kF; rename News h₀ L _ _ => kN
      refine hret _ _ _ _ kF kN (by ktn_ord) (ktn_int ?_)
      rw [hcmp, cmpK_drop hki, if_pos (by assumption)]
    · dsimp only [TPost]
      k_steps
      rename Fr h₀ L _ m => kF; rename News h₀ L _ _ => kN
      refine hret _ _ _ _ kF kN (by ktn_ord) (ktn_int ?_)
      rw [hcmp, cmpK_drop hki, if_neg (by assumption), if_pos (by assumption)]
    · rename Fr _ _ _ _ => F3; rename News _ _ _ _ => N3
      refine TPost.fin F3 N3 (fun p hp q hq => by rw [List.mem_singleton.mp hq]; exact hoff p hp) ⟨hl, rfl, ?_, _, cf_of ⟨rfl, rfl, trivial⟩⟩
      rw [hcmp, cmpK_drop hki, if_neg (by assumption), if_neg (by assumption)]
  · rintro m₁ _ h tk ⟨rfl, hcmp, u, rfl⟩ F2 N2
    k_steps
    rename Fr h₀ L _ m => kF; rename News h₀ L _ _ => kN
    refine hret _ _ _ _ kF kN (by ktn_ord) (ktn_int ?_)
    rw [hcmp, List.drop_of_length_le (by rw [hks.len]; exact Nat.le_refl _)]
    rfl
end Mine
theorem Mine.lay_7 : True := by
  k_with_none
  trivial
end
section
open PySem PySem.W PySem.Spec PySem.Calls PyProof.Rows
namespace Mine
open LCg (NsObj ns_obj lst lst_snoc)
section
variable {prog : Program} {w : World} {A : Around} {E : Value → Shared → Prop} {s : Shared} {h₀ : Heap} {L : Addr} {m : Str → Option Value} {env : Env}
theorem compTests_nil {Q : Bool → Shared → Prop} (h : Q true s) : wpAny (model prog w) A (compTests [] env) Q E s := wpAny_pure h
theorem compTests_one {c : Expr} {Q : Bool → Shared → Prop} (h : wpAny (model prog w) A (isTrue c env (eval c env)) Q E s) : wpAny (model prog w) A (compTests [c] env) Q E s := by
  show wpAny _ A (forIn [c] true fun c r => if r = true then do let ok ← isTrue c env (eval c env); pure (ForInStep.yield ok) else pure (ForInStep.yield r)) _ _ _
  rw [List.forIn_cons]
  simp only [if_true]
  refine wpAny_bind (wpAny_bind (wpAny_mono h (fun ok s₁ h₁ => wpAny_pure ?_) fun _ _ e => e))
  show wpAny _ A (forIn [] ok _) _ _ _
  rw [List.forIn_nil]
  exact wpAny_pure h₁
theorem in_ints_M {l : Addr} {vs : List Value} {k : Nat} {ns : List Int} {o : Int} {t : Tok} {news : Led} {Q : Value → Shared → Prop} (N : News h₀ L s.heap news) (hm : (l, listO vs k) ∈ news) (hi : IntsAre vs ns) (h : Q (.bool (ns.any (· == o))) s) :
    wpAny (model prog w) A (compareOp .In (.int o t) (.ref l)) Q E s := in_list_ints (N.isList hm) hi h
theorem notin_ints_M {l : Addr} {vs : List Value} {k : Nat} {ns : List Int} {o : Int} {t : Tok} {news : Led} {Q : Value → Shared → Prop} (N : News h₀ L s.heap news) (hm : (l, listO vs k) ∈ news) (hi : IntsAre vs ns) (h : Q (.bool (!(ns.any (· == o)))) s) :
    wpAny (model prog w) A (compareOp .NotIn (.int o t) (.ref l)) Q E s := notin_list_ints (N.isList hm) hi h
theorem intsAre_snoc {vs : List Value} {is : List Int} {i : Int} {t : Tok} (h : IntsAre vs is) : IntsAre (vs ++ [.int i t]) (is ++ [i]) := h.append (.cons i t .nil)
theorem take_filter_succ {is : List Int} {i : Nat} {o : Int} {p : Int → Bool} (h : is[i]? = some o) : (is.take (i + 1)).filter p = (is.take i).filter p ++ (if p o = true then [o] else []) := by
  rw [List.take_add_one, h, List.filter_append]
  congr 1
  cases hp : p o <;> simp [hp]
section
variable {scope : Scope} {cl : List (Str × Addr)} {pos : Pos} {RR : Value → Addr → Result → Shared → Prop} {news : Led} {x : Str} {px pe : Pos} {c iter : Expr} {is : List Int} {p : Int → Bool}
/-- the step of [x for x in ints if test] -/
theorem filter_step {s : Shared} (hk : ∀ C, (compEnvC scope cl C env).scope.kind = .function) (hl : ∀ C, (compEnvC scope cl C env).kindOf x = some .local) (hd : (x == ("__debug__" : Str)) = false)
    (htest : ∀ o t C D oC m₂ own ys h tk (Q : Bool → Shared → Prop) (E' : Value → Shared → Prop), m₂ x = some (.int o t) → NsObj oC m₂ → Fr h₀ L h m → News h₀ L h ((own ++ [(C, oC), (D, lst ys)]) ++ news) → (∀ tk', Q (p o) { s with heap := h, toks := tk' }) →
      wpAny (model prog w) A (isTrue c (compEnvC scope cl C env) (eval c (compEnvC scope cl C env))) Q E' { s with heap := h, toks := tk })
    {i : Nat} {ys : List Value} {news₁ : Led} {h : Heap} {tk : Nat} {own : Led} {C D : Addr} {oC : Obj} {m₂ : Str → Option Value} {wr : List Addr} {E' : Value → Shared → Prop} (hV : ∃ o t, is[i]? = some o ∧ m₂ x = some (.int o t)) (hI : IntsAre ys ((is.take i).filter p) ∧ news₁ = news)
    (hoC : NsObj oC m₂) (F : Fr h₀ L h m) (N : News h₀ L h ((own ++ [(C, oC), (D, lst ys)]) ++ news₁)) (off : ∀ p ∈ news₁, p.1 ∉ wr ∧ p.1 ≠ C ∧ p.1 ≠ D) :
    wpAny (model prog w) A (compTests [c] (compEnvC scope cl C env)) (fun ok s₃ => if ok = true then
          wpAny (model prog w) A (eval (.Name x pe) (compEnvC scope cl C env)) (fun y s₄ => CEnd h₀ L m { s with heap := h, toks := tk } wr C D (own ++ [(C, oC), (D, lst ys)]) (fun n => IntsAre (ys ++ [y]) ((is.take (i + 1)).filter p) ∧ n = news) s₄) E' s₃
        else CEnd h₀ L m { s with heap := h, toks := tk } wr C D (own ++ [(C, oC), (D, lst ys)]) (fun n => IntsAre ys ((is.take (i + 1)).filter p) ∧ n = news) s₃) E' { s with heap := h, toks := tk } := by
  obtain ⟨o, t, ho, hx⟩ := hV
  obtain ⟨hI, rfl⟩ := hI
  refine compTests_one (htest o t C D oC m₂ own ys h tk _ E' hx hoC F N fun tk' => ?_)
  rw [take_filter_succ ho]
  cases hp : p o with
  | true =>
    simp only [if_true]
    refine LCgL.ld_own N (List.mem_append_left _ (List.mem_append_right _ (.head _))) hoC hx ?_ (hk C) (hl C) hd
    exact ⟨h, tk', _, rfl, F, N, off, intsAre_snoc hI, rfl⟩
  | false =>
    simp only [Bool.false_eq_true, if_false, List.append_nil]
    exact ⟨h, tk', _, rfl, F, N, off, hI, rfl⟩
theorem filter_tuple {ax : Addr} {vs : List Value} {k : Nat} (hh : A.handled = none) (hcell : ∀ y ∈ scope.names, y.2 ≠ .cell) (hkind : scope.kind = .function) (hxl : scope.names.lookup x = some .local) (hd : (x == ("__debug__" : Str)) = false)
    (F : Fr h₀ L s.heap m) (N : News h₀ L s.heap news) (hm : (ax, ({ cls := .type "tuple", data := .seq vs.toArray k } : Obj)) ∈ news) (hvs : IntsAre vs is) (hsz : vs.length ≤ sizeLine)
    (htest : ∀ o t C D oC m₂ own ys h tk (Q : Bool → Shared → Prop) (E' : Value → Shared → Prop), m₂ x = some (.int o t) → NsObj oC m₂ → Fr h₀ L h m → News h₀ L h ((own ++ [(C, oC), (D, lst ys)]) ++ news) → (∀ tk', Q (p o) { s with heap := h, toks := tk' }) →
      wpAny (model prog w) A (isTrue c (compEnvC scope cl C env) (eval c (compEnvC scope cl C env))) Q E' { s with heap := h, toks := tk })
    (hRR : ∀ D C h tk m' ys, Fr h₀ L h m → News h₀ L h ((D, lst ys) :: news) → (∀ p ∈ news, p.1 < D) → h.Ns C m' → h₀.get? C = none → C ≠ L → (∀ p ∈ (D, lst ys) :: news, p.1 ≠ C) → IntsAre ys (is.filter p) →
      RR (.ref D) C (.ok .next) { s with heap := h, toks := tk }) :
    wpAny (model prog w) A (pyIter (.ref ax)) (fun it s₂ => CBlk prog w A env (.Name x px) (.Name x pe) iter [c] scope pos cl RR E it s₂) E s := by
  refine comp_tuple (V := fun i m₂ => ∃ o t, is[i]? = some o ∧ m₂ x = some (.int o t)) (fun i ys n => IntsAre ys ((is.take i).filter p) ∧ n = news) hh hcell hkind F N hm hsz ⟨by rw [List.take_zero]; exact .nil, rfl⟩
    (fun C i v ys news₁ s m₂ Q E hv hI N₁ hn k => ?_)
    (fun i ys news₁ h tk own C D oC m₂ wr E' hi hV hI hoC F₁ N₁ off _ => filter_step (fun C => by simp [compEnvC, relabel, hkind]) (fun C => lookup_relabel_local hxl) hd htest hV hI hoC F₁ N₁ off)
    (fun D C h tk m' ys news' F₁ N₁ _ hlt hn hC hCL off hI => ?_)
  · obtain ⟨o, t, rfl, ho⟩ := hvs.at i v hv
    exact asg_name hkind hxl hn fun h' tk m₃ a b c => k h' tk m₃ a ⟨o, t, ho, b⟩ c
  · obtain ⟨hI, rfl⟩ := hI
    rw [hvs.length, List.take_length] at hI
    exact hRR D C h tk m' ys F₁ N₁ hlt hn hC hCL off hI
theorem filter_list {ax : Addr} {vs : List Value} {k : Nat} (hh : A.handled = none) (hcell : ∀ y ∈ scope.names, y.2 ≠ .cell) (hkind : scope.kind = .function) (hxl : scope.names.lookup x = some .local) (hd : (x == ("__debug__" : Str)) = false)
    (F : Fr h₀ L s.heap m) (N : News h₀ L s.heap news) (hm : (ax, listO vs k) ∈ news) (hvs : IntsAre vs is) (hsz : vs.length ≤ sizeLine)
    (htest : ∀ o t C D oC m₂ own ys h tk (Q : Bool → Shared → Prop) (E' : Value → Shared → Prop), m₂ x = some (.int o t) → NsObj oC m₂ → Fr h₀ L h m → News h₀ L h ((own ++ [(C, oC), (D, lst ys)]) ++ news) → (∀ tk', Q (p o) { s with heap := h, toks := tk' }) →
      wpAny (model prog w) A (isTrue c (compEnvC scope cl C env) (eval c (compEnvC scope cl C env))) Q E' { s with heap := h, toks := tk })
    (hRR : ∀ D C h tk m' ys, Fr h₀ L h m → News h₀ L h ((D, lst ys) :: news) → (∀ p ∈ news, p.1 < D) → h.Ns C m' → h₀.get? C = none → C ≠ L → (∀ p ∈ (D, lst ys) :: news, p.1 ≠ C) → IntsAre ys (is.filter p) →
      RR (.ref D) C (.ok .next) { s with heap := h, toks := tk }) :
    wpAny (model prog w) A (pyIter (.ref ax)) (fun it s₂ => CBlk prog w A env (.Name x px) (.Name x pe) iter [c] scope pos cl RR E it s₂) E s := by
  refine comp_list (V := fun i m₂ => ∃ o t, is[i]? = some o ∧ m₂ x = some (.int o t)) (fun i ys n => IntsAre ys ((is.take i).filter p) ∧ n = news) hh hcell hkind F N hm hsz ⟨by rw [List.take_zero]; exact .nil, rfl⟩
    (fun C i v ys news₁ s m₂ Q E hv hI N₁ hn k => ?_)
    (fun i ys news₁ h tk own C D oC m₂ wr E' hi hV hI hoC F₁ N₁ off _ => filter_step (fun C => by simp [compEnvC, relabel, hkind]) (fun C => lookup_relabel_local hxl) hd htest hV hI hoC F₁ N₁ off)
    (fun D C h tk m' ys news' F₁ N₁ _ hlt hn hC hCL off hI => ?_)
  · obtain ⟨o, t, rfl, ho⟩ := hvs.at i v hv
    exact asg_name hkind hxl hn fun h' tk m₃ a b c => k h' tk m₃ a ⟨o, t, ho, b⟩ c
  · obtain ⟨hI, rfl⟩ := hI
    rw [hvs.length, List.take_length] at hI
    exact hRR D C h tk m' ys F₁ N₁ hlt hn hC hCL off hI
end
end
end Mine
end
section
open PySem PySem.W PySem.Spec PySem.Calls PyProof.Rows
namespace Mine
/-- where the builtins module is told -/
def BM (mg : Str → Option Value) (h : Heap) : Prop := ∃ bm ob, mg "__builtins__" = some (.ref bm) ∧ bm ≠ builtinsNs ∧ h.get? bm = some ob ∧ ob.cls = .type "module" ∧ ob.dict = some builtinsNs ∧ ob.data = .plain
theorem BM.keeps {mg : Str → Option Value} {h h' : Heap} (x : BM mg h) (k : ∀ b o, h.get? b = some o → h'.get? b = some o) : BM mg h' :=
  let ⟨bm, ob, a, b, c, r⟩ := x; ⟨bm, ob, a, b, k _ _ c, r⟩
/-- a generator not begun that will give the ints f 0, .. f (n - 1) -/
def GenV (prog : Program) (w : World) (A : Around) (Kb a : Nat) (n : Nat) (f : Nat → Int) (s : Shared) : Prop :=
  ∃ fp wr g St, WalksS prog w A.in4 a fp wr (GenOnlyQ g) n (fun j y => ∃ t, y = .int (f j) t) St ∧ St 0 s ∧ (∀ i s, St i s → s.TypeIs (.ref a) "generator") ∧ a ∈ fp ∧ (∀ b ∈ fp, b < s.heap.objs.size) ∧ ∀ b ∈ wr, Kb ≤ b
section
variable {prog : Program} {w : World} {A : Around} {E : Value → Shared → Prop} {s : Shared} {h₀ : Heap} {L c P : Addr} {m mg : Str → Option Value} {news : Led}
theorem passing_all (n : Nat) : passing (fun _ => true) n 0 = List.range n := by
  unfold passing
  rw [List.drop_zero, List.filter_eq_self.mpr fun _ _ => rfl]
theorem ints_getD {xs : List Value} {i : Nat} {f : Int} (h : ∃ t, xs[i]? = some (.int f t)) : ∃ t, xs[i]?.getD .none = .int f t := by
  obtain ⟨t, e⟩ := h
  exact ⟨t, by rw [e]; rfl⟩
inductive SumSrc (prog : Program) (w : World) (A : Around) (h₀ : Heap) (L : Addr) (m : Str → Option Value) (P : Addr) (ps : Array Value) (news : Led) (Q : Value → Shared → Prop) : Value → Shared → Prop
  | mk {b n : Nat} {c₁ c₂ : Cur} {f g : Nat → Int} {s₁ : Shared} : ZipAt b [c₁, c₂] 0 .none s₁.heap → CursFrom b [c₁, c₂] → c₁.src < b → c₂.src < b → c₁.xs.length = n → c₂.xs.length = n →
        (∀ i, i < n → ∃ t, c₁.xs[i]? = some (.int (f i) t)) → (∀ i, i < n → ∃ t, c₂.xs[i]? = some (.int (g i) t)) → Fr h₀ L s₁.heap m → News h₀ L s₁.heap ((P, tabObj ps) :: news) → (∀ p ∈ (P, tabObj ps) :: news, p.1 < b) → (∀ p ∈ news, P < p.1) → L < b → AllBare s₁.gens →
        (∀ a h₂ tk gn ps', Fr h₀ L h₂ m → News h₀ L h₂ ((P, tabObj ps') :: news) → TriplesOk ps'.toList → AllBare gn → GenV prog w A b a n (fun i => f i + g i) { s₁ with heap := h₂, toks := tk, gens := gn } →
          Q (.ref a) { s₁ with heap := h₂, toks := tk, gens := gn }) → SumSrc prog w A h₀ L m P ps news Q (.ref (b + 2 + 2)) s₁
theorem gen_sum {env : Env} {iter : Expr} {xa xb : Str} {p1 p2 p3 pa pb pt : Pos} {kt : Nat} {scope : Scope} {cl : List (Str × Addr)} {pos : Pos} {Q : Value → Shared → Prop} {ps : Array Value} (_F : Fr h₀ L s.heap m)
    (hh : A.handled = none) (hroom : A.depth < recursionLimit) (hco : scope.isCoroutine = false) (hclos : closureFor scope env = pure cl) (hcell : ∀ y ∈ scope.names, y.2 ≠ .cell) (h0 : scope.names.lookup (".0" : Str) = some NameKind.local)
    (hxa : scope.names.lookup xa = some .local) (hxb : scope.names.lookup xb = some .local) (hab : xa ≠ xb) (hda : (xa == ("__debug__" : Str)) = false) (hdb : (xb == ("__debug__" : Str)) = false) (hkind : scope.kind = .function)
    (C : CodeHd h₀ c P) (hc : env.code = .ref c) (hg : env.globals = mainGlobals) (G : h₀.Ns mainGlobals mg) (B : BM mg h₀) (hl : h₀.NoLimit) (htr : TriplesOk ps.toList)
    (h : wpAny (model prog w) A (eval iter env) (fun xv s₁ => SumSrc prog w A h₀ L m P ps news Q xv s₁) E s)
    (hs : ∀ x, genFold iter env x = pure x) :
    wpAny (model prog w) A (eval (.GeneratorExp (.BinOp (.Name xa p1) .Add (.Name xb p2) p3) [⟨.Tuple [.Name xa pa, .Name xb pb] kt pt, iter, [], 0⟩] scope pos) env) Q E s := by
  refine wpAny_GeneratorExp_walksQT hh hco hclos hcell h0 hxa hxb hab hkind hroom (wpAny_mono h (fun xv s₁ h₁ => ?_) fun _ _ e => e) hs
  cases h₁ with | @mk b n c₁ c₂ f g _ Z hcs hs1 hs2 hn1 hn2 hf hgj F N hlt hP hLb hG hQ =>
  have hsrc : ∀ d ∈ [c₁, c₂], d.src < b := by intro d hd; simp only [List.mem_cons, List.not_mem_nil, or_false] at hd; rcases hd with rfl | rfl <;> assumption
  have hN : ∀ d ∈ [c₁, c₂], d.xs.length = n := by intro d hd; simp only [List.mem_cons, List.not_mem_nil, or_false] at hd; rcases hd with rfl | rfl <;> assumption
  have W := fun (A' : Around) (hA : A'.handled = none) => zip_walks (prog := prog) (w := w) hA hcs hsrc hN (by show 2 ≤ sizeLine; rw [sizeLine_eq]; exact Nat.le_of_ble_eq_true rfl)
  refine (W A hh).self 0 _ _ _ Z ⟨hl.keeps F.keep, ?_⟩
  obtain ⟨bm, ob, b1, b2, b3, b4, b5, b6⟩ := B
  have hgs := G.keeps F.keep
  have hPm := N _ (.head _)
  have hgP : mainGlobals ≠ P := fun q => by
    obtain ⟨o, es, ep, e, hd, _⟩ := hgs
    rw [q, hPm.1] at e; cases e; cases hd
  have hbP : bm ≠ P := fun q => by
    have e := F.keep _ _ b3
    rw [q, hPm.1] at e; cases e; cases b4
  have hcode : s₁.heap.IsCode c P ps := (C.keeps F.keep).code hPm.1 htr
  have htab : s₁.heap.TableAt c P ps := (C.keeps F.keep).tab hPm.1
  have hPb : P < b := hlt _ (.head _)
  have hPfp : P ∉ zipFp b [c₁, c₂] := fun hm => by
    simp only [zipFp, List.cons_append, List.nil_append, List.mem_cons, List.map_cons, List.map_nil, List.not_mem_nil, or_false] at hm
    have e1 := hcs.1
    have e2 := hcs.2.1
    have srcne : ∀ d ∈ [c₁, c₂], P ≠ d.src := fun d hd e => by
      obtain ⟨_, o, ho⟩ := (Z.cur d hd).obj
      have hz := Z.cur d hd
      unfold Cur.At at hz
      split at hz
      · obtain ⟨o, eo, hcl, _⟩ := hz.2
        rw [← e, hPm.1] at eo; cases eo; cases hcl
      · obtain ⟨o, eo, hcl, _⟩ := hz.2
        rw [← e, hPm.1] at eo; cases eo; cases hcl
    have hP' : ∀ x : Nat, b ≤ x → P ≠ x := fun x hx e => Nat.lt_irrefl _ (Nat.lt_of_lt_of_le hPb (e ▸ hx))
    rcases hm with e | e | e | e | e | e | e
    · exact hP' _ (Nat.le_add_right_of_le (Nat.le_add_right _ _)) e
    · exact hP' _ (Nat.le_add_right_of_le (Nat.le_add_right _ _)) e
    · exact hP' _ (Nat.le_add_right _ _) e
    · exact hP' _ (Nat.le_of_eq e1.symm) e
    · exact hP' _ (Nat.le_trans (Nat.le_succ _) (Nat.le_of_eq e2.symm)) e
    · exact srcne _ (.head _) e
    · exact srcne _ (.tail _ (.head _)) e
  have core : ∀ (code : Value) (h₂ : Heap) (tk₂ : Nat) (ps' : Array Value), Heap.ExtBut P s₁.heap h₂ → h₂.get? P = some (tabObj ps') → TriplesOk ps'.toList →
      wpAny (model prog w) A (builtinsFor env.globals env.builtins) (fun bi s₄ =>
        ∃ I fp wr n₀ Pt St₀ Mid pz F, (Value.ref (b + 2 + 2)) = .ref I ∧ (∀ A' : Around, A'.handled = none → WalksU prog w A' I fp wr n₀ Pt St₀ Mid) ∧ (∀ i vals, Pt i vals → ∃ va vb, vals = #[va, vb]) ∧ St₀ 0 s₄.heap ∧ (∀ b ∈ fp, b < s₄.heap.objs.size) ∧ s₄.heap.NoLimit ∧ cStatics ∉ wr ∧
          (∀ href : Heap, (∀ b o, s₄.heap.get? b = some o → href.get? b = some o) →
            QuietGenT prog w (genEnv scope cl s₄.heap.objs.size code bi env) xa xb [] (.BinOp (.Name xa p1) .Add (.Name xb p2) p3) (List.range s₄.heap.objs.size) wr Pt pz F href) ∧
          (∀ a h₅ tk gs, gs.bare = true → s₄.heap.objs.size < a → h₅.objs.size = a + 1 → (∀ b o, s₄.heap.get? b = some o → h₅.get? b = some o) →
            WalksS prog w A.in4 a (a :: s₄.heap.objs.size :: List.range s₄.heap.objs.size) (s₄.heap.objs.size :: wr) (GenOnlyQ s₄.gens.size) (passing pz n₀ 0).length
              (fun j y => ∃ i, (passing pz n₀ 0)[j]? = some i ∧ F i y) (GenAt prog w A.in4 a s₄.gens.size s₄.heap.objs.size (List.range s₄.heap.objs.size) wr pz n₀ F) →
            GenAt prog w A.in4 a s₄.gens.size s₄.heap.objs.size (List.range s₄.heap.objs.size) wr pz n₀ F 0 { s₄ with gens := s₄.gens.push gs, toks := tk, heap := h₅ } →
            Q (.ref a) { s₄ with gens := s₄.gens.push gs, toks := tk, heap := h₅ })) E { s₁ with heap := h₂, toks := tk₂ } := by
    intro code h₂ tk₂ ps' hx htb htr'
    have hgs₂ : h₂.Ns mainGlobals mg := hgs.extBut hx hgP
    have hbm₂ : h₂.get? bm = some ob := hx _ _ hbP (F.keep _ _ b3)
    have keep₂ : ∀ a o, h₀.get? a = some o → h₂.get? a = some o := fun a o e => hx a o (fun q => by rw [q, hPm.2.2] at e; cases e) (F.keep a o e)
    have Z₂ : ZipAt b [c₁, c₂] 0 .none h₂ := (W A hh).frame 0 _ _ Z fun a ha o e => hx a o (fun q => hPfp (q ▸ ha)) e
    have F₂ : Fr h₀ L h₂ m := ⟨F.ns.extBut hx hPm.2.1.symm, keep₂, F.above⟩
    have N₂ : News h₀ L h₂ ((P, tabObj ps') :: news) := fun q hq => by
      rcases List.mem_cons.mp hq with rfl | hq
      · exact ⟨htb, hPm.2⟩
      · have z := N q (.tail _ hq)
        exact ⟨hx _ _ (Nat.ne_of_gt (hP q hq)) z.1, z.2⟩
    have hl₂ : h₂.NoLimit := hl.keeps keep₂
    rw [hg]
    refine wpAny_builtinsFor (m := mg) (bm := bm) (o := ob) hgs₂ b1 b2 hbm₂ b4 b5 b6 ?_
    have hclt : cStatics < h₀.objs.size := let ⟨_, hn, _⟩ := hl; hn.lt
    refine ⟨b + 2 + 2, zipFp b [c₁, c₂], zipWr b [c₁, c₂], n, _, _, _, fun _ => true, fun i y => i < n → ∃ t, y = .int (f i + g i) t, rfl, W, ?_, Z₂, ?_, hl₂, ?_, ?_, ?_⟩
    · rintro i vals ⟨_, rfl⟩
      exact ⟨_, _, rfl⟩
    · intro a ha
      simp only [zipFp, List.cons_append, List.nil_append, List.mem_cons, List.mem_append] at ha
      rcases ha with rfl | rfl | rfl | ha | ha
      · exact Heap.lt_size Z₂.zat.z
      · obtain ⟨vals, _, e⟩ := Z₂.own
        exact Heap.lt_size e
      · exact Heap.lt_size Z₂.zat.its
      · obtain ⟨d, hd, rfl⟩ := List.mem_map.mp ha
        obtain ⟨o, e⟩ := (Z₂.cur d hd).obj.1
        exact Heap.lt_size e
      · obtain ⟨d, hd, rfl⟩ := List.mem_map.mp ha
        obtain ⟨o, e⟩ := (Z₂.cur d hd).obj.2
        exact Heap.lt_size e
    · intro hm
      have hge : b ≤ cStatics := by
        simp only [zipWr, List.cons_append, List.nil_append, List.mem_cons] at hm
        rcases hm with e | e | e
        · rw [e]; exact Nat.le_add_right_of_le (Nat.le_add_right _ _)
        · rw [e]; exact Nat.le_add_right_of_le (Nat.le_add_right _ _)
        · obtain ⟨d, hd, e⟩ := List.mem_map.mp e
          have e' : d.it = cStatics := e
          rw [← e']; exact (hcs.ge d hd).1
      exact Nat.lt_irrefl _ (Nat.lt_of_lt_of_le hclt (Nat.le_trans (Nat.le_of_lt (Nat.lt_of_le_of_lt F.above hLb)) hge))
    · intro href hk
      refine ⟨fun A' E' i va vb s₂ m₂ hA hPt hn ha hb hr => ?_, fun A' E' i va vb s₂ m₂ hA hPt hpz hn ha hb hr => ?_⟩
      · exact wpAny_pure ⟨rfl, _, _, rfl, fun _ _ e => e⟩
      · obtain ⟨hi, hv⟩ := hPt
        obtain ⟨e1, e2⟩ : va = c₁.xs[i]?.getD .none ∧ vb = c₂.xs[i]?.getD .none := by
          have := congrArg Array.toList hv
          exact ⟨(List.cons.inj this).1, (List.cons.inj (List.cons.inj this).2).1⟩
        obtain ⟨t1, q1⟩ := ints_getD (hf i hi)
        obtain ⟨t2, q2⟩ := ints_getD (hgj i hi)
        rw [q1] at e1
        rw [q2] at e2
        subst e1 e2
        refine wpAny_BinOp (wpAny_Name (wpAny_loadName_local hkind hxa hn ha (wpAny_Name (wpAny_loadName_local hkind hxb hn hb (wpAny_add_int ?_)) hdb)) hda)
        exact ⟨fun _ => ⟨_, rfl⟩, _, _, rfl, fun _ _ e => e⟩
    · intro a h₅ tk gs hbare hlt5 hsz5 hk5 WS GA
      refine hQ a h₅ tk _ ps' (F₂.keeps hk5) (fun p hp => ⟨hk5 _ _ (N₂ p hp).1, (N₂ p hp).2⟩) htr' (hG.push hbare) ?_
      rw [passing_all, List.length_range] at WS
      have conv : ∀ (j : Nat) (v : Value), j < n → (∃ i, (List.range n)[j]? = some i ∧ (i < n → ∃ t, v = .int (f i + g i) t)) → ∃ t, v = .int (f j + g j) t := by
        rintro j v hj ⟨i, hi, hfi⟩
        rw [List.getElem?_range hj] at hi
        cases hi
        exact hfi hj
      have WS' := ({ WS with item := fun j s Q E hj st hQ => WS.item j s Q E hj st fun v s' hv st' mv => hQ v s' (conv j v hj hv) st' mv } : WalksS prog w A.in4 a _ _ _ n (fun j y => ∃ t, y = .int (f j + g j) t) _)
      refine ⟨_, _, _, _, WS', GA, fun i s st => st.1.typeIs, .head _, fun x hx => ?_, fun x hx => ?_⟩
      · show x < h₅.objs.size
        rw [hsz5]
        rcases List.mem_cons.mp hx with rfl | hx
        · exact Nat.lt_succ_self _
        · rcases List.mem_cons.mp hx with rfl | hx
          · exact Nat.lt_succ_of_lt hlt5
          · exact Nat.lt_succ_of_lt (Nat.lt_trans (List.mem_range.mp hx) hlt5)
      · rcases List.mem_cons.mp hx with rfl | hx
        · exact Nat.le_of_lt (Nat.lt_of_le_of_lt (Nat.le_add_right_of_le (Nat.le_add_right _ _)) (Heap.lt_size Z₂.zat.z))
        · simp only [zipWr, List.cons_append, List.nil_append, List.mem_cons] at hx
          rcases hx with e | e | e
          · rw [e]; exact Nat.le_add_right_of_le (Nat.le_add_right _ _)
          · rw [e]; exact Nat.le_add_right_of_le (Nat.le_add_right _ _)
          · obtain ⟨d, hd, e⟩ := List.mem_map.mp e
            have e' : d.it = x := e
            rw [← e']; exact (hcs.ge d hd).1
  cases hnf : codeAmong pos ps.toList with
  | some cv => exact wpAny_genexprCode_hit hc hcode hnf (core cv s₁.heap s₁.toks ps (Heap.ExtBut.refl _ _) hPm.1 htr)
  | none =>
    refine wpAny_genexprCodeX hc hcode htab hnf fun c' h' tk hx _ _ hcd _ htb _ => core (.ref c') h' tk _ hx htb.2 (by
      have hl : (ps ++ #[rawInt pos.line, rawInt pos.col, Value.ref c']).toList = ps.toList ++ [rawInt pos.line, rawInt pos.col, .ref c'] := by simp
      rw [hl]; exact TriplesOk_snoc _ _ _ _ htr)
theorem tuple_gen {a b n : Nat} {f : Nat → Int} {all : Led} {Q : Value → Shared → Prop} (F : Fr h₀ L s.heap m) (N : News h₀ L s.heap all) (hG : AllBare s.gens) (V : GenV prog w A b a n f s) (hLb : L < b) (hb : ∀ p ∈ all, p.1 < b) (hsz : n ≤ sizeLine)
    (h : ∀ D vals h' tk gn, vals.length = n → (∀ j, j < n → ∃ t, vals[j]? = some (.int (f j) t)) → Fr h₀ L h' m → News h₀ L h' ((D, tupO vals) :: all) → (∀ p ∈ all, p.1 < D) → AllBare gn → Q (.ref D) { s with heap := h', toks := tk, gens := gn }) :
    wpAny (model prog w) A (call (.type "tuple") [.ref a]) Q E s := by
  obtain ⟨fp, wr, g, St, W, hst, hT, hI, hfp, hwr⟩ := V
  refine call_tuple_gen (hsz := hsz) W.in4_3 hT hst hfp hI fun s' acc hm hacc => ?_
  have F₁ : Fr h₀ L s'.heap m := F.moved hm fun b hb => Nat.lt_of_lt_of_le hLb (hwr b hb)
  have G₁ : AllBare s'.gens := hG.movedS hm
  have keep : ∀ p ∈ all, s'.heap.get? p.1 = some p.2 := fun p hp => hm.heap _ _ (fun hx => Nat.lt_irrefl _ (Nat.lt_of_lt_of_le (hb p hp) (hwr _ hx))) (N p hp).1
  obtain ⟨hp', gn', d', tk', os'⟩ := s'
  obtain ⟨hp0, gn0, d0, tk0, os0⟩ := s
  obtain rfl : d' = d0 := hm.drawn
  obtain rfl : os' = os0 := hm.os
  have e : acc = acc.toList.toArray := by simp
  rw [e]
  refine h hp'.objs.size acc.toList _ tk' gn' (by rw [Array.length_toList]; exact hacc.1) (fun j hj => ?_) (F₁.push _) (fun p hp => ?_) (fun p hp => Heap.lt_size (keep p hp)) G₁
  · have hj' : j < acc.size := by rw [hacc.1]; exact hj
    obtain ⟨t, e⟩ := hacc.2 j acc[j] (Array.getElem?_eq_getElem hj')
    exact ⟨t, by rw [← e]; simp [hj']⟩
  · rcases List.mem_cons.mp hp with rfl | hp
    · refine ⟨Heap.get?_push_size _ rfl, Nat.ne_of_gt F₁.ns.lt, ?_⟩
      cases e : h₀.get? hp'.objs.size with
      | none => rfl
      | some o => exact absurd (Heap.lt_size (F₁.keep _ _ e)) (Nat.lt_irrefl _)
    · exact ⟨Heap.get?_push_of_some _ (keep p hp), (N p hp).2⟩
end
end Mine
end
section
open PySem PySem.W PySem.Spec PySem.Calls PyProof.Rows
namespace Mine
/-- the end of a turn that may have changed the generators -/
inductive GEnd (h₀ : Heap) (L : Addr) (s₁ : Shared) (I : Addr) (it : Obj) (rest : (Str → Option Value) → Led → Array GenState → Prop) (s₂ : Shared) : Prop
  | mk (h' : Heap) (tk : Nat) (gn : Array GenState) (m' : Str → Option Value) (news' : Led) : s₂ = { s₁ with heap := h', toks := tk, gens := gn } → Fr h₀ L h' m' → News h₀ L h' ((I, it) :: news') → (∀ p ∈ news', p.1 ≠ I) → rest m' news' gn → GEnd h₀ L s₁ I it rest s₂
/-- what holds between the turns -/
inductive GInv (h₀ : Heap) (L : Addr) (s : Shared) (I : Addr) (St : Nat → Heap → Prop) (J : Nat → (Str → Option Value) → Led → Array GenState → Prop) (n : Nat) (k : Nat) (s' : Shared) : Prop
  | mk (h' : Heap) (tk : Nat) (gn : Array GenState) (m' : Str → Option Value) (news' : Led) (i : Nat) : s' = { s with heap := h', toks := tk, gens := gn } → St i h' → Fr h₀ L h' m' → News h₀ L h' news' → (∀ p ∈ news', p.1 ≠ I) → J i m' news' gn → i ≤ n → k = n + 1 - i → GInv h₀ L s I St J n k s'
def GPost (h₀ : Heap) (L : Addr) (s₁ : Shared) (I : Addr) (it : Obj) (rest : (Str → Option Value) → Led → Array GenState → Prop) (Q : Flow → Shared → Prop) (f : Flow) (s₂ : Shared) : Prop :=
  match f with
  | .ret v => Q (.ret v) s₂
  | .brk => Q .next s₂
  | _ => GEnd h₀ L s₁ I it rest s₂
theorem GPost.fin {h₀ : Heap} {L : Addr} {s₁ : Shared} {I : Addr} {it : Obj} {rest : (Str → Option Value) → Led → Array GenState → Prop} {Q : Flow → Shared → Prop} {h' : Heap} {tk : Nat} {gn : Array GenState} {m' : Str → Option Value} {news' : Led} (F : Fr h₀ L h' m') (N : News h₀ L h' ((I, it) :: news')) (off : ∀ p ∈ news', p.1 ≠ I) (r : rest m' news' gn) : GPost h₀ L s₁ I it rest Q .next { s₁ with heap := h', toks := tk, gens := gn } := ⟨h', tk, gn, m', news', rfl, F, N, off, r⟩
theorem UnrPostW.fin {h₀ : Heap} {L : Addr} {s₁ : Shared} {its news' : Led} {Q : Flow → Shared → Prop} {h' : Heap} {tk : Nat} {m' : Str → Option Value} (F : Fr h₀ L h' m') (N : News h₀ L h' (its ++ news')) (off : ∀ p ∈ news', ∀ q ∈ its, p.1 ≠ q.1) {keep : Led} {R : (Str → Option Value) → Led → Prop} (hk : SubL keep news') (r : R m' news') : UnrPostW h₀ L s₁ its (fun m n => SubL keep n ∧ R m n) Q .next { s₁ with heap := h', toks := tk } := ⟨h', tk, m', news', rfl, F, N, off, hk, r⟩
section
variable {prog : Program} {w : World} {A : Around} {E : Value → Shared → Prop} {s : Shared} {env : Env} {h₀ : Heap} {target : Expr} {body : List Stmt} {Q : Flow → Shared → Prop}

theorem loop_gens {R : Result → Shared → Prop} {I : Addr} {fp : List Addr} {n : Nat} {P Md : Nat → Value → Heap → Prop} {St : Nat → Heap → Prop} {m : Str → Option Value} {news keep : Led}
    (W : KTurns prog w A target I fp [I] n P Md St) (hfp : ∀ b ∈ fp, b = I ∨ ∃ o, (b, o) ∈ keep) (hobj : ∀ i h, St i h → ∃ it, h.get? I = some it)
    (hLf : env.locals ≠ I) (hI₀ : h₀.get? I = none) (hnw : ∀ p ∈ news, p.1 ≠ I) (hst : St 0 s.heap) (F : Fr h₀ env.locals s.heap m) (N : News h₀ env.locals s.heap news)
    (J : Nat → (Str → Option Value) → Led → Array GenState → Prop) (h0 : J 0 m news s.gens) (hkeep : ∀ i m n g, J i m n g → ∀ p ∈ keep, p ∈ n)
    (step : ∀ i v m₁ news₁ h₁ tk₁ gn it, i < n → P i v h₁ → J i m₁ news₁ gn → (∀ p ∈ news₁, p.1 ≠ I) → Fr h₀ env.locals h₁ m₁ → News h₀ env.locals h₁ ((I, it) :: news₁) →
      wpAny (model prog w) A (assign target env v) (fun _ s₂ => wpAny (model prog w) A (execs body env)
        (GPost h₀ env.locals { s with heap := h₁, toks := tk₁, gens := gn } I it (J (i + 1)) (fun f s' => R (.ok f) s')) (notedBy (model prog w) A env fun e s' => R (.error e) s') s₂) (notedBy (model prog w) A env fun e s' => R (.error e) s') { s with heap := h₁, toks := tk₁, gens := gn })
    (hR : ∀ h' tk gn m' news', Fr h₀ env.locals h' m' → News h₀ env.locals h' news' → J n m' news' gn → R (.ok .next) { s with heap := h', toks := tk, gens := gn }) :
    codeAny (model prog w) A (.forLoop target (.ref I) body [] env) R s := by
  have hLw : env.locals ∉ [I] := fun h => hLf (List.mem_singleton.mp h)
  have old : ∀ b o, h₀.get? b = some o → b ∉ [I] := fun b o e hb => by rw [List.mem_singleton.mp hb, hI₀] at e; cases e
  refine codeAny_forLoop_any
    (GInv h₀ env.locals s I St J n) ?_ (n + 1)
    ⟨s.heap, s.toks, s.gens, m, news, 0, rfl, hst, F, N, hnw, h0, Nat.zero_le _, rfl⟩
  rintro k s' ⟨h', tk, gn, m', news', i, rfl, hst', F', N', hnw', hJ, hi, rfl⟩
  have next : ∀ h₁ : Heap, (∀ b o, b ∉ [I] → h'.get? b = some o → h₁.get? b = some o) → Fr h₀ env.locals h₁ m' ∧ News h₀ env.locals h₁ news' := fun h₁ hk₁ =>
    ⟨⟨F'.ns.at' fun o e => hk₁ _ o hLw e, fun b o e => hk₁ b o (old b o e) (F'.keep b o e), F'.above⟩, fun p hp => ⟨hk₁ _ _ (fun h => hnw' p hp (List.mem_singleton.mp h)) (N' p hp).1, (N' p hp).2⟩⟩
  by_cases hlt : i < n
  · refine W.item i _ _ _ hlt hst' fun v h₁ tk₁ hMd hk₁ => ?_
    refine W.go i v _ _ _ hMd fun h₂ hP hst₂ hk₂ => ?_
    obtain ⟨F₂, N₂⟩ := next h₂ fun b o hb x => hk₂ b o hb (hk₁ b o hb x)
    obtain ⟨it, hit⟩ := hobj _ _ hst₂
    have N₃ : News h₀ env.locals h₂ ((I, it) :: news') := fun p hp => by
      rcases List.mem_cons.mp hp with rfl | hp
      · exact ⟨hit, hLf.symm, hI₀⟩
      · exact N₂ p hp
    have fin : ∀ s₃, GEnd h₀ env.locals { s with heap := h₂, toks := tk₁, gens := gn } I it (J (i + 1)) s₃ → ∃ m, m < n + 1 - i ∧ GInv h₀ env.locals s I St J n m s₃ := by
      rintro s₃ ⟨h₃', tk₃, gn₃, m₂, news₂, rfl, F₃, N₃', ha₃, hJ₃⟩
      refine ⟨n + 1 - (i + 1), by omega, .mk h₃' tk₃ gn₃ m₂ news₂ (i + 1) rfl ?_ F₃ (fun p hp => N₃' p (.tail _ hp)) ha₃ hJ₃ hlt rfl⟩
      refine W.frame _ _ _ hst₂ fun b hb o e => ?_
      rcases hfp b hb with rfl | ⟨o', ho'⟩
      · have := (N₃' _ (.head _)).1
        rw [hit] at e; cases e; exact this
      · have e2 := (N₂ _ (hkeep _ _ _ _ hJ _ ho')).1
        rw [e] at e2; cases e2
        exact (N₃' _ (.tail _ (hkeep _ _ _ _ hJ₃ _ ho'))).1
    refine wpAny_mono (step i v m' news' h₂ tk₁ gn it hlt hP hJ hnw' F₂ N₃) (fun _ s₂ h₂' => wpAny_mono h₂' (fun f s₃ h₃ => ?_) fun _ _ e => e) fun _ _ e => e
    cases f with
    | ret v => exact h₃
    | brk => exact h₃
    | cont => exact fin s₃ h₃
    | next => exact fin s₃ h₃
  · have hin : i = n := by omega
    subst hin
    refine W.done _ _ _ hst' fun h₁ tk₁ hk₁ => wpAny_execs_nil ?_
    obtain ⟨F₁, N₁⟩ := next h₁ hk₁
    exact hR h₁ tk₁ gn m' news' F₁ N₁ hJ

inductive TurnsG (prog : Program) (w : World) (A : Around) (h₀ : Heap) (env : Env) (target : Expr) (body : List Stmt) (Q : Flow → Shared → Prop) (E : Value → Shared → Prop) : Value → Shared → Prop
  | mk {I : Addr} {fp : List Addr} {n : Nat} {P Md : Nat → Value → Heap → Prop} {St : Nat → Heap → Prop} {m : Str → Option Value} {news keep : Led} {J : Nat → (Str → Option Value) → Led → Array GenState → Prop} {s₂ : Shared} :
    KTurns prog w A target I fp [I] n P Md St → (∀ b ∈ fp, b = I ∨ ∃ o, (b, o) ∈ keep) → (∀ i h, St i h → ∃ it, h.get? I = some it) → env.locals ≠ I → h₀.get? I = none → (∀ p ∈ news, p.1 ≠ I) → St 0 s₂.heap → Fr h₀ env.locals s₂.heap m → News h₀ env.locals s₂.heap news →
    J 0 m news s₂.gens → (∀ i m n g, J i m n g → ∀ p ∈ keep, p ∈ n) →
    (∀ i v m₁ news₁ h₁ tk₁ gn it, i < n → P i v h₁ → J i m₁ news₁ gn → (∀ p ∈ news₁, p.1 ≠ I) → Fr h₀ env.locals h₁ m₁ → News h₀ env.locals h₁ ((I, it) :: news₁) →
      wpAny (model prog w) A (assign target env v) (fun _ s₃ => wpAny (model prog w) A (execs body env) (GPost h₀ env.locals { s₂ with heap := h₁, toks := tk₁, gens := gn } I it (J (i + 1)) Q) E s₃) E { s₂ with heap := h₁, toks := tk₁, gens := gn }) →
    (∀ h' tk gn m' news', Fr h₀ env.locals h' m' → News h₀ env.locals h' news' → J n m' news' gn → Q .next { s₂ with heap := h', toks := tk, gens := gn }) → TurnsG prog w A h₀ env target body Q E (.ref I) s₂
/-- over a dict's items -/
theorem items_gens {κ : Type} [DecidableEq κ] {knd : KeyKind prog w κ} {kvs : List (κ × Value)} {elts : List Expr} {kk : Nat} {pos : Pos} {d vw : Addr} {od : Obj} {m₀ : Str → Option Value} {news : Led}
    (hh : A.handled = none) (F : Fr h₀ env.locals s.heap m₀) (N : News h₀ env.locals s.heap news) (hvw : ∃ ov, s.heap.get? vw = some ov ∧ ov.cls = .type "dict_items" ∧ ov.data = .fields #[.ref d]) (hm : (d, od) ∈ news) (hd : od.IsDictOf knd kvs)
    (J : Nat → (Str → Option Value) → Led → Array GenState → Prop) (h0 : J 0 m₀ news s.gens) (hk : ∀ i m n g, J i m n g → (d, od) ∈ n)
    (step : ∀ i T key k x m₁ news₁ I h₁ tk₁ gn it, (∀ p ∈ news, p.1 < I) → kvs[i]? = some (k, x) → knd.is k key = true → IsTup h₁ T #[key, x] → J i m₁ news₁ gn → (∀ p ∈ news₁, p.1 ≠ I) → Fr h₀ env.locals h₁ m₁ → News h₀ env.locals h₁ ((I, it) :: news₁) →
      wpAny (model prog w) A (assign (.Tuple elts kk pos) env (.ref T)) (fun _ s₃ => wpAny (model prog w) A (execs body env) (GPost h₀ env.locals { s with heap := h₁, toks := tk₁, gens := gn } I it (J (i + 1)) Q) E s₃) E { s with heap := h₁, toks := tk₁, gens := gn })
    (done : ∀ h' tk gn m' news', Fr h₀ env.locals h' m' → News h₀ env.locals h' news' → J kvs.length m' news' gn → Q .next { s with heap := h', toks := tk, gens := gn }) :
    wpAny (model prog w) A (pyIter (.ref vw)) (fun it s₂ => TurnsG prog w A h₀ env (.Tuple elts kk pos) body Q E it s₂) E s := by
  have hax := N _ hm
  obtain ⟨ep, hat⟩ := (kda_dict N hm hd).dictAt
  have hne : d ≠ s.heap.objs.size := Nat.ne_of_lt hat.lt_size
  refine wpAny_pyIter_items hvw hat ?_
  refine TurnsG.mk (m := m₀) (news := news) (keep := [(d, od)]) (J := J) (kti_itemsTurns (knd := knd) hh s.heap.objs.size d hne kvs ep) (fun b hb => ?_) ?_ ?_ (next_is_new F) ?_ ⟨⟨.none, .none, Heap.get?_push_size _ rfl⟩, hat.push _⟩ (F.push _) (fun p hp => ⟨Heap.get?_push_of_some _ (N p hp).1, (N p hp).2⟩) h0 (fun i m n g j p hp => by rw [List.mem_singleton.mp hp]; exact hk _ _ _ _ j) ?_ done
  · have hb' : b = s.heap.objs.size ∨ b = d := by simpa using hb
    rcases hb' with e | e
    · exact .inl e
    · exact .inr ⟨od, by simp [e]⟩
  · rintro i h ⟨⟨ok, ov, he⟩, _⟩
    exact ⟨_, he⟩
  · exact Nat.ne_of_lt F.ns.lt
  · exact fun p hp e => absurd (Heap.lt_size (N p hp).1) (e ▸ Nat.lt_irrefl _)
  · rintro i v m₁ news₁ h₁ tk₁ gn it hi ⟨T', key, k, x, rfl, hx, hk, hT⟩ hJ hoff F₁ N₁
    exact step i T' key k x m₁ news₁ _ h₁ tk₁ gn it (fun p hp => Heap.lt_size (N p hp).1) hx hk hT hJ hoff F₁ N₁
end
end Mine
end
section
open PySem PySem.W PySem.Spec PySem.Calls PyProof.Rows
namespace Mine
/-- a loop whose turns may, or may not, change the generators -/
def TurnsX (prog : Program) (w : World) (A : Around) (h₀ : Heap) (env : Env) (target : Expr) (body : List Stmt) (Q : Flow → Shared → Prop) (E : Value → Shared → Prop) (it : Value) (s₂ : Shared) : Prop :=
  TurnsAt prog w A h₀ env target body Q E it s₂ ∨ TurnsG prog w A h₀ env target body Q E it s₂
section
variable {prog : Program} {w : World} {A : Around} {E : Value → Shared → Prop} {s : Shared} {env : Env} {h₀ : Heap} {target : Expr} {body : List Stmt} {Q : Flow → Shared → Prop}
theorem For_turnsX {iter : Expr} {pos : Pos} {m : Str → Option Value} (_F : Fr h₀ env.locals s.heap m)
    (h : wpAny (model prog w) A (eval iter env) (fun xv s₁ => wpAny (model prog w) A (pyIter xv) (fun it s₂ => TurnsX prog w A h₀ env target body Q E it s₂) E s₁) E s)
    (hs : ∀ x, foldedSetIterable iter env x = pure x := by intro _; rfl)
    (hE : PassesOwn (model prog w) A env E := by passes_own) :
    wpAny (model prog w) A (exec (.For target iter body [] pos) env) Q E s := by
  refine wpAny_For (wpAny_mono h (fun xv s₁ h₁ => wpAny_mono h₁ (fun it s₂ h₂ => ?_) fun _ _ e => e) fun _ _ e => e) hs
  rcases h₂ with h₂ | h₂
  · refine hide fun G' hG' => ?_
    obtain ⟨I, fp, wr, n, P, Md, St, m, news, J, rfl, W, hLf, hwr, hnw, hst, F, N, h0, step, hQ⟩ := h₂
    exact hG' (ktu_loop (R := fun r s' => match r with | .ok f => Q f s' | .error e => cameBackBy (model prog w) A env E e s') W hLf hwr hnw hst F N J h0
      (fun i v m₁ news₁ h₁ tk₁ own a b c d e f g st F₁ N₁ => wpAny_mono (step i v m₁ news₁ h₁ tk₁ own a b c d e f g st F₁ N₁) (fun _ _ x => wpAny_passesOwn hE x) hE) hQ)
  · cases h₂ with | @mk I fp n P Md St m news keep J _ W hfp hobj hLf hI₀ hnw hst F N h0 hk step hQ =>
    exact loop_gens (R := fun r s' => match r with | .ok f => Q f s' | .error e => cameBackBy (model prog w) A env E e s') W hfp hobj hLf hI₀ hnw hst F N J h0 hk
      (fun i v m₁ news₁ h₁ tk₁ gn it a b c d F₁ N₁ => wpAny_mono (step i v m₁ news₁ h₁ tk₁ gn it a b c d F₁ N₁) (fun _ _ x => wpAny_passesOwn hE x) hE) hQ
theorem For_turnsG {iter : Expr} {pos : Pos} {m : Str → Option Value} (_F : Fr h₀ env.locals s.heap m)
    (h : wpAny (model prog w) A (eval iter env) (fun xv s₁ => wpAny (model prog w) A (pyIter xv) (fun it s₂ => TurnsG prog w A h₀ env target body Q E it s₂) E s₁) E s)
    (hs : ∀ x, foldedSetIterable iter env x = pure x := by intro _; rfl)
    (hE : PassesOwn (model prog w) A env E := by passes_own) :
    wpAny (model prog w) A (exec (.For target iter body [] pos) env) Q E s := by
  exact For_turnsX _F (wpAny_mono h (fun xv s₁ h₁ => wpAny_mono h₁ (fun _ _ x => .inr x) fun _ _ e => e) fun _ _ e => e) hs hE
theorem list_loopX {ax : Addr} {vs : List Value} {n : Nat} {m₀ : Str → Option Value} {news : Led} (Inv : Nat → (Str → Option Value) → Led → Prop)
    (hh : A.handled = none) (F : Fr h₀ env.locals s.heap m₀) (N : News h₀ env.locals s.heap news) (hm : (ax, listO vs n) ∈ news) (h0 : Inv 0 m₀ news)
    (step : ∀ I i v m₁ news₁ h tk (it : Obj), (∀ p ∈ news, p.1 < I) → vs[i]? = some v → Inv i m₁ news₁ → (ax, listO vs n) ∈ news₁ → (∀ p ∈ news₁, p.1 ≠ I) → Fr h₀ env.locals h m₁ → News h₀ env.locals h ((I, it) :: news₁) →
      wpAny (model prog w) A (assign target env v) (fun _ s₂ => wpAny (model prog w) A (execs body env) (TPost h₀ env.locals { s with heap := h, toks := tk } [(I, it)] (fun m' n' => (ax, listO vs n) ∈ n' ∧ Inv (i + 1) m' n') Q) E s₂) E { s with heap := h, toks := tk })
    (done : ∀ m₁ news₁ h tk, Inv vs.length m₁ news₁ → Fr h₀ env.locals h m₁ → News h₀ env.locals h news₁ → Q .next { s with heap := h, toks := tk }) :
    wpAny (model prog w) A (pyIter (.ref ax)) (fun it s₂ => TurnsX prog w A h₀ env target body Q E it s₂) E s :=
  wpAny_mono (list_loop Inv hh F N hm h0 step done) (fun _ _ h => .inl h) fun _ _ e => e
theorem list_none {ax : Addr} {n : Nat} {m₀ : Str → Option Value} {news : Led} (hh : A.handled = none) (F : Fr h₀ env.locals s.heap m₀) (N : News h₀ env.locals s.heap news) (hm : (ax, listO [] n) ∈ news)
    (done : ∀ h tk, Fr h₀ env.locals h m₀ → News h₀ env.locals h news → Q .next { s with heap := h, toks := tk }) :
    wpAny (model prog w) A (pyIter (.ref ax)) (fun it s₂ => TurnsX prog w A h₀ env target body Q E it s₂) E s :=
  list_loopX (fun _ m n => m = m₀ ∧ n = news) hh F N hm ⟨rfl, rfl⟩ (fun I i v m₁ n₁ h tk it _ hv => by simp at hv) fun m₁ n₁ h tk hI F' N' => by obtain ⟨rfl, rfl⟩ := hI; exact done h tk F' N'
theorem list_once {ax : Addr} {v : Value} {n : Nat} {m₀ : Str → Option Value} {news : Led} (hh : A.handled = none) (F : Fr h₀ env.locals s.heap m₀) (N : News h₀ env.locals s.heap news) (hm : (ax, listO [v] n) ∈ news) (Post : (Str → Option Value) → Led → Prop)
    (step : ∀ I h tk (it : Obj), (∀ p ∈ news, p.1 < I) → Fr h₀ env.locals h m₀ → News h₀ env.locals h ((I, it) :: news) →
      wpAny (model prog w) A (assign target env v) (fun _ s₂ => wpAny (model prog w) A (execs body env) (TPost h₀ env.locals { s with heap := h, toks := tk } [(I, it)] (fun m' n' => (ax, listO [v] n) ∈ n' ∧ Post m' n') Q) E s₂) E { s with heap := h, toks := tk })
    (done : ∀ m₁ news₁ h tk, Post m₁ news₁ → Fr h₀ env.locals h m₁ → News h₀ env.locals h news₁ → Q .next { s with heap := h, toks := tk }) :
    wpAny (model prog w) A (pyIter (.ref ax)) (fun it s₂ => TurnsX prog w A h₀ env target body Q E it s₂) E s := by
  refine list_loopX (fun i m n => (i = 0 ∧ m = m₀ ∧ n = news) ∨ (i = 1 ∧ Post m n)) hh F N hm (.inl ⟨rfl, rfl, rfl⟩) (fun I i u m₁ n₁ h tk it hI hv hJ hk hoff F₁ N₁ => ?_) fun m₁ n₁ h tk hJ F₁ N₁ => ?_
  · rcases hJ with ⟨rfl, rfl, rfl⟩ | ⟨rfl, _⟩
    · cases hv
      refine wpAny_mono (step I h tk it hI F₁ N₁) (fun _ s₂ h₂ => wpAny_mono h₂ (fun f s₃ h₃ => ?_) fun _ _ e => e) fun _ _ e => e
      have conv : TEnd h₀ env.locals { s with heap := h, toks := tk } [(I, it)] (fun m' n' => (ax, listO [v] n) ∈ n' ∧ Post m' n') s₃ → TEnd h₀ env.locals { s with heap := h, toks := tk } [(I, it)] (fun m' n' => (ax, listO [v] n) ∈ n' ∧ ((0 + 1 = 0 ∧ m' = m₁ ∧ n' = n₁) ∨ (0 + 1 = 1 ∧ Post m' n'))) s₃ := by
        rintro ⟨h', tk', m', news', e, F', N', off', hk', hI'⟩
        exact ⟨h', tk', m', news', e, F', N', off', hk', .inr ⟨rfl, hI'⟩⟩
      cases f with
      | ret v => exact h₃
      | brk => exact h₃
      | next => exact conv h₃
      | cont => exact conv h₃
    · simp at hv
  · rcases hJ with ⟨e, _⟩ | ⟨_, hP⟩
    · simp at e
    · exact done m₁ n₁ h tk hP F₁ N₁
/-- a loop over a tuple of the ledger's -/
theorem tuple_loop {ax : Addr} {vs : List Value} {n : Nat} {m₀ : Str → Option Value} {news : Led} (Inv : Nat → (Str → Option Value) → Led → Prop)
    (hh : A.handled = none) (F : Fr h₀ env.locals s.heap m₀) (N : News h₀ env.locals s.heap news) (hm : (ax, ({ cls := .type "tuple", data := .seq vs.toArray n } : Obj)) ∈ news) (h0 : Inv 0 m₀ news)
    (step : ∀ I i v m₁ news₁ h tk (it : Obj), (∀ p ∈ news, p.1 < I) → vs[i]? = some v → Inv i m₁ news₁ → (ax, ({ cls := .type "tuple", data := .seq vs.toArray n } : Obj)) ∈ news₁ → (∀ p ∈ news₁, p.1 ≠ I) → Fr h₀ env.locals h m₁ → News h₀ env.locals h ((I, it) :: news₁) →
      wpAny (model prog w) A (assign target env v) (fun _ s₂ => wpAny (model prog w) A (execs body env) (TPost h₀ env.locals { s with heap := h, toks := tk } [(I, it)] (fun m' n' => (ax, ({ cls := .type "tuple", data := .seq vs.toArray n } : Obj)) ∈ n' ∧ Inv (i + 1) m' n') Q) E s₂) E { s with heap := h, toks := tk })
    (done : ∀ m₁ news₁ h tk, Inv vs.length m₁ news₁ → Fr h₀ env.locals h m₁ → News h₀ env.locals h news₁ → Q .next { s with heap := h, toks := tk }) :
    wpAny (model prog w) A (pyIter (.ref ax)) (fun it s₂ => TurnsAt prog w A h₀ env target body Q E it s₂) E s := by
  refine iter_tupTurns hh F N hm rfl rfl fun I hI => ?_
  refine items_inv Inv ?_ ?_ h0 ⟨hm, trivial⟩ (fun p hp q hq => by rw [List.mem_singleton.mp hq]; exact Nat.ne_of_lt (hI p hp))
  · intro i a v m₁ news₁ h tk its ha hJ hk hoff hav hits F₁ N₁
    have ha' : ∃ x, vs[i]? = some x ∧ a = .val x := by
      rw [List.getElem?_map] at ha
      cases hx : vs[i]? with
      | none => rw [hx] at ha; cases ha
      | some x => rw [hx] at ha; exact ⟨x, rfl, (Option.some.inj ha).symm⟩
    obtain ⟨x, hx, rfl⟩ := ha'
    have hvx : v = x := hav
    subst hvx
    obtain ⟨it, rfl⟩ : ∃ it, its = [(I, it)] := its_one hits
    refine wpAny_mono (step I i v m₁ news₁ h tk it hI hx hJ hk.1 (fun p hp => hoff p hp _ (List.mem_singleton.mpr rfl)) F₁ N₁) (fun _ s₂ h₂ => wpAny_mono h₂ (fun f s₃ h₃ => ?_) fun _ _ e => e) fun _ _ e => e
    have conv : TEnd h₀ env.locals { s with heap := h, toks := tk } [(I, it)] (fun m' n' => (ax, ({ cls := .type "tuple", data := .seq vs.toArray n } : Obj)) ∈ n' ∧ Inv (i + 1) m' n') s₃ → TEnd h₀ env.locals { s with heap := h, toks := tk } [(I, it)] (fun m' n' => SubL [(ax, ({ cls := .type "tuple", data := .seq vs.toArray n } : Obj))] n' ∧ Inv (i + 1) m' n') s₃ := by
      rintro ⟨h', tk', m', news', e, F', N', off', hk', hI'⟩
      exact ⟨h', tk', m', news', e, F', N', off', ⟨hk', trivial⟩, hI'⟩
    cases f with
    | ret v => exact h₃
    | brk => exact h₃
    | next => exact conv h₃
    | cont => exact conv h₃
  · intro m₁ news₁ h tk hJ F₁ N₁
    rw [List.length_map] at hJ
    exact done m₁ news₁ h tk hJ F₁ N₁
/-- what a turn leaves that keeps the ledger -/
def FPost (h₀ : Heap) (L : Addr) (s₁ : Shared) (I : Addr) (it : Obj) (news : Led) (J : (Str → Option Value) → Prop) (Q : Flow → Shared → Prop) (f : Flow) (s₂ : Shared) : Prop :=
  match f with
  | .ret v => Q (.ret v) s₂
  | .brk => Q .next s₂
  | _ => ∃ h' tk m', s₂ = { s₁ with heap := h', toks := tk } ∧ Fr h₀ L h' m' ∧ News h₀ L h' ((I, it) :: news) ∧ J m'
theorem FPost.fin {h₀ : Heap} {L I : Addr} {s₁ : Shared} {it : Obj} {news : Led} {J : (Str → Option Value) → Prop} {Q : Flow → Shared → Prop} {h' : Heap} {tk : Nat} {m' : Str → Option Value} (F : Fr h₀ L h' m') (N : News h₀ L h' ((I, it) :: news)) (j : J m') : FPost h₀ L s₁ I it news J Q .next { s₁ with heap := h', toks := tk } := ⟨h', tk, m', rfl, F, N, j⟩
theorem FPost.to {L : Addr} {s₁ s₂ : Shared} {I : Addr} {it : Obj} {news : Led} {J : (Str → Option Value) → Prop} {R : (Str → Option Value) → Led → Prop} {f : Flow} (hI : ∀ p ∈ news, p.1 < I) (h : FPost h₀ L s₁ I it news J Q f s₂) (hR : ∀ m', J m' → R m' news) : TPost h₀ L s₁ [(I, it)] R Q f s₂ := by
  have conv : (∃ h' tk m', s₂ = { s₁ with heap := h', toks := tk } ∧ Fr h₀ L h' m' ∧ News h₀ L h' ((I, it) :: news) ∧ J m') → TEnd h₀ L s₁ [(I, it)] R s₂ := by
    rintro ⟨h', tk, m', e, F, N, j⟩
    exact ⟨h', tk, m', news, e, F, N, fun p hp q hq => by rw [List.mem_singleton.mp hq]; exact Nat.ne_of_lt (hI p hp), hR m' j⟩
  cases f with
  | ret v => exact h
  | brk => exact h
  | next => exact conv h
  | cont => exact conv h
theorem tuple_fix {ax : Addr} {vs : List Value} {n : Nat} {m₀ : Str → Option Value} {news : Led} (J : Nat → (Str → Option Value) → Prop)
    (hh : A.handled = none) (F : Fr h₀ env.locals s.heap m₀) (N : News h₀ env.locals s.heap news) (hm : (ax, ({ cls := .type "tuple", data := .seq vs.toArray n } : Obj)) ∈ news) (h0 : J 0 m₀)
    (step : ∀ I i v m₁ h tk (it : Obj), (∀ p ∈ news, p.1 < I) → vs[i]? = some v → J i m₁ → Fr h₀ env.locals h m₁ → News h₀ env.locals h ((I, it) :: news) →
      wpAny (model prog w) A (assign target env v) (fun _ s₂ => wpAny (model prog w) A (execs body env) (FPost h₀ env.locals { s with heap := h, toks := tk } I it news (J (i + 1)) Q) E s₂) E { s with heap := h, toks := tk })
    (done : ∀ m₁ h tk, J vs.length m₁ → Fr h₀ env.locals h m₁ → News h₀ env.locals h news → Q .next { s with heap := h, toks := tk }) :
    wpAny (model prog w) A (pyIter (.ref ax)) (fun it s₂ => TurnsAt prog w A h₀ env target body Q E it s₂) E s :=
  tuple_loop (fun i m n' => J i m ∧ n' = news) hh F N hm ⟨h0, rfl⟩ (fun I i v m₁ n₁ h tk it hI hv hJ hk hoff F₁ N₁ => by
    obtain ⟨hJ, rfl⟩ := hJ
    exact wpAny_mono (step I i v m₁ h tk it hI hv hJ F₁ N₁) (fun _ s₂ h₂ => wpAny_mono h₂ (fun f s₃ h₃ => FPost.to hI h₃ fun m' j => ⟨hm, j, rfl⟩) fun _ _ e => e) fun _ _ e => e) fun m₁ n₁ h tk hJ F₁ N₁ => by
    obtain ⟨hJ, rfl⟩ := hJ
    exact done m₁ h tk hJ F₁ N₁
end
end Mine
end
section
open PySem PySem.W PySem.Spec PySem.Calls PyProof.Rows
namespace Mine
/-- CodeHd under a name that the library's lines do not look for -/
def CH (h : Heap) (c P : Addr) : Prop := CodeHd h c P
theorem CH.keeps {h h' : Heap} {c P : Addr} (x : CH h c P) (k : ∀ b o, h.get? b = some o → h'.get? b = some o) : CH h' c P := CodeHd.keeps x k
theorem CH.hd {h : Heap} {c P : Addr} (x : CH h c P) : CodeHd h c P := x
/-- a contract of a def that makes generators: the table of add_callers' codes at P may grow -/
def CtG (prog : Program) (w : World) (mg mb : Str → Option Value) (P : Nat) (n : Nat) (f : Value) (vs : List Value) (news : Led) (Out : Led → Value → Prop) : Prop :=
  ∀ (dp un : Nat) (gd : Option (List Code)) (cn : Str) (cs : Scope) (a : Addr) (ccd : Value) (cl : List (Str × Addr)) (outer : List Env) (A₀ : Around) (base h₀ : Heap) (L : Addr) (m : Str → Option Value) (s : Shared) (ps : Array Value)
    (Q E : Value → Shared → Prop),
    Below A₀ base outer h₀ → Fr h₀ L s.heap m → (hd.heap_39 w.params).In h₀ → News h₀ L s.heap ((P, tabObj ps) :: news) → TR mg mb h₀ → CH h₀ 55 P → BM mg h₀ → TriplesOk ps.toList → AllBare s.gens → (∀ p ∈ news, P < p.1) →
    cs.kind = .function → dp + n < recursionLimit → un + 8 * n < cLine →
    (∀ r news' h' tk' gn' ps', Fr h₀ L h' m → News h₀ L h' ((P, tabObj ps') :: news') → TriplesOk ps'.toList → AllBare gn' → (∀ p ∈ news', P < p.1) → Grow news news' → Out news' r → Q r { s with heap := h', toks := tk', gens := gn' }) →
    wpAny (model prog w) (ktrTop dp un gd cn cs L a ccd cl outer) (call f vs) Q E s
theorem CtG.use {prog : Program} {w : World} {mg mb : Str → Option Value} {P n : Nat} {f : Value} {vs : List Value} {news : Led} {Out : Led → Value → Prop} {dp un : Nat} {gd : Option (List Code)} {cn : Str} {cs : Scope} {a : Addr} {ccd : Value} {cl : List (Str × Addr)} {outer : List Env} {A₀ : Around} {base h₀ : Heap} {L : Addr} {m : Str → Option Value} {s : Shared} {ps : Array Value} {Q E : Value → Shared → Prop}
    (N : News h₀ L s.heap ((P, tabObj ps) :: news)) (B : Below A₀ base outer h₀) (F : Fr h₀ L s.heap m) (X : (hd.heap_39 w.params).In h₀) (T : TR mg mb h₀) (C : CH h₀ 55 P) (M : BM mg h₀) (HP : TriplesOk ps.toList) (HG : AllBare s.gens) (HQ : ∀ p ∈ news, P < p.1) (c : CtG prog w mg mb P n f vs news Out) (k : cs.kind = .function) (d : dp + n < recursionLimit) (u : un + 8 * n < cLine)
    (h : ∀ r news' h' tk' gn' ps', Fr h₀ L h' m → News h₀ L h' ((P, tabObj ps') :: news') → TriplesOk ps'.toList → AllBare gn' → (∀ p ∈ news', P < p.1) → Grow news news' → Out news' r → Q r { s with heap := h', toks := tk', gens := gn' }) :
    wpAny (model prog w) (ktrTop dp un gd cn cs L a ccd cl outer) (call f vs) Q E s := c dp un gd cn cs a ccd cl outer A₀ base h₀ L m s ps Q E B F X N T C M HP HG HQ k d u h
section
variable {M : Model} {A : Around} {E : Value → Shared → Prop} {s : Shared} {h₀ : Heap} {L C c : Addr} {news : Led} {oC o : Obj} {x : Str} {pos : Pos} {v : Value} {scope : Scope} {cl : List (Str × Addr)} {env : Env} {m₂ : Str → Option Value} {Q : Value → Shared → Prop}
theorem own_M {prog : Program} {w : World} (N : News h₀ L s.heap news) (hC : LCg.NsObj oC m₂) (hx : m₂ x = some v) (hm : (C, oC) ∈ news) (h : Q v s)
    (hk : (compEnvC scope cl C env).scope.kind = .function) (hl : (compEnvC scope cl C env).kindOf x = some .local) (hd : (x == ("__debug__" : Str)) = false) :
    wpAny (model prog w) A (eval (.Name x pos) (compEnvC scope cl C env)) Q E s := LCgL.ld_own N hm hC hx h hk hl hd
theorem free_M {prog : Program} {w : World} (N : News h₀ L s.heap news) (hc : cl.lookup x = some c) (hd : o.data = .cell (some v)) (hm : (c, o) ∈ news) (h : Q v s)
    (hk : (compEnvC scope cl C env).scope.kind = .function) (hx : (compEnvC scope cl C env).kindOf x = some .free) (hb : (x == ("__debug__" : Str)) = false := by decide) (hn : (x == ("__classdict__" : Str)) = false := by decide) :
    wpAny (model prog w) A (eval (.Name x pos) (compEnvC scope cl C env)) Q E s := lcf_free N hc hm hd h hk hx hb hn
theorem cell_M {prog : Program} {w : World} (N : News h₀ L s.heap news) (hc : cl.lookup x = some c) (hd : o.data = .cell (some v)) (hm : (c, o) ∈ news) (h : Q v s)
    (hk : (compEnvC scope cl C env).scope.kind = .function) (hx : (compEnvC scope cl C env).kindOf x = some .cell) (hb : (x == ("__debug__" : Str)) = false := by decide) :
    wpAny (model prog w) A (eval (.Name x pos) (compEnvC scope cl C env)) Q E s := lcf_cell N hc hm hd h hk hx hb
end
theorem news_part {h₀ h : Heap} {L : Addr} {l l' : Led} (N : News h₀ L h l) (k : ∀ p ∈ l', p ∈ l) : News h₀ L h l' := fun p hp => N p (k p hp)
/-- the callers' dict of a row -/
inductive CalIn (prog : Program) (w : World) (news : Led) : Value → Row → Prop
  | mk {d q : Addr} {o : Obj} {t4 t5 t6 t7 th : Tok} {r : Row} :
    (d, o) ∈ news → (d == sysModules) = false →
    o.IsDictOf (PySem.strKind prog w) [(Str.ofString "f", .ref q), (Str.ofString "g", .int (2 * r.e - r.f) th)] →
    (q, tupO [.int r.e t4, .int r.f t5, .int (r.a - r.f) t6, .int (r.b + r.e) t7]) ∈ news →
    CalIn prog w news (.ref d) r
def Row.add (r s : Row) : Row := ⟨r.a + s.a, r.b + s.b, r.c + s.c, r.d + s.d, r.e + s.e, r.f + s.f⟩
theorem news_tup {h₀ h : Heap} {L a : Addr} {vs : List Value} {news : Led} (N : News h₀ L h news) (hm : (a, tupO vs) ∈ news) : h.IsTuple a vs.toArray := ⟨_, (N _ hm).1, rfl, 0, rfl⟩
theorem mem_rot3 {p a b c : Addr × Obj} {l : Led} (h : p ∈ c :: a :: b :: l) : p ∈ a :: b :: c :: l := by
  rcases List.mem_cons.mp h with rfl | h
  · exact .tail _ (.tail _ (.head _))
  · rcases List.mem_cons.mp h with rfl | h
    · exact .head _
    · rcases List.mem_cons.mp h with rfl | h
      · exact .tail _ (.head _)
      · exact .tail _ (.tail _ (.tail _ h))
theorem mem_shuf {p i d n q : Addr × Obj} {l : Led} (h : p ∈ i :: d :: n :: q :: l) : p ∈ d :: q :: i :: n :: l := by
  simp only [List.mem_cons] at h ⊢
  rcases h with h | h | h | h | h <;> simp only [h, true_or, or_true]
theorem mem_shuf2 {p d n q : Addr × Obj} {l : Led} (h : p ∈ q :: d :: n :: l) : p ∈ d :: n :: q :: l := by
  simp only [List.mem_cons] at h ⊢
  rcases h with h | h | h | h <;> simp only [h, true_or, or_true]
theorem mem_swap {p d q : Addr × Obj} {l : Led} (h : p ∈ q :: d :: l) : p ∈ d :: q :: l := by
  simp only [List.mem_cons] at h ⊢
  rcases h with h | h | h <;> simp only [h, true_or, or_true]
theorem four_ints {vals : List Value} {f : Nat → Int} (hl : vals.length = 4) (h : ∀ j, j < 4 → ∃ t, vals[j]? = some (.int (f j) t)) : ∃ t0 t1 t2 t3, vals = [.int (f 0) t0, .int (f 1) t1, .int (f 2) t2, .int (f 3) t3] := by
  match vals, hl with
  | [a, b, c, d], _ =>
    obtain ⟨t0, e0⟩ := h 0 (by decide)
    obtain ⟨t1, e1⟩ := h 1 (by decide)
    obtain ⟨t2, e2⟩ := h 2 (by decide)
    obtain ⟨t3, e3⟩ := h 3 (by decide)
    cases e0; cases e1; cases e2; cases e3
    exact ⟨_, _, _, _, rfl⟩
theorem ints4 {a b c d : Int} {t0 t1 t2 t3 : Tok} : ∀ i, i < 4 → ∃ t, [Value.int a t0, .int b t1, .int c t2, .int d t3][i]? = some (.int ([a, b, c, d].getD i 0) t)
  | 0, _ => ⟨_, rfl⟩
  | 1, _ => ⟨_, rfl⟩
  | 2, _ => ⟨_, rfl⟩
  | 3, _ => ⟨_, rfl⟩
  | _ + 4, h => absurd h (by omega)
theorem isi_tuple {prog : Program} {w : World} {A : Around} {E : Value → Shared → Prop} {s : Shared} {h₀ : Heap} {L q : Addr} {vs : List Value} {news : Led} {Q : Value → Shared → Prop} (N : News h₀ L s.heap news) (hm : (q, tupO vs) ∈ news) (h : Q (.bool true) s) :
    wpAny (model prog w) A (call (.builtin "isinstance") [.ref q, .type "tuple"]) Q E s :=
  call_isinstance_yes (Tx := "tuple") ⟨_, (N _ hm).1, rfl⟩ (by kernel_rfl) sub_tuple_self h
theorem zip_news {prog : Program} {w : World} {A : Around} {E : Value → Shared → Prop} {s : Shared} {h₀ : Heap} {L l1 l2 : Addr} {m : Str → Option Value} {xs ys : List Value} {news : Led} {Q : Value → Shared → Prop} (F : Fr h₀ L s.heap m) (N : News h₀ L s.heap news) (h1 : (l1, tupO xs) ∈ news) (h2 : (l2, tupO ys) ∈ news)
    (k : ∀ b h', b = s.heap.objs.size → ZipAt b [⟨b, l1, true, xs⟩, ⟨b + 1, l2, true, ys⟩] 0 .none h' → Fr h₀ L h' m → News h₀ L h' news → (∀ p ∈ news, p.1 < b) → L < b → Q (.ref (b + 2 + 2)) { s with heap := h' }) :
    wpAny (model prog w) A (call (.type "zip") [.ref l1, .ref l2]) Q E s :=
  call_zip_tt (news_tup N h1) (news_tup N h2) fun h' Z _ hk => k _ h' rfl Z (F.keeps hk) (N.grown hk) (fun p hp => Heap.lt_size (N p hp).1) F.ns.lt
example (w : World) : tabIn (hd.heap_39 w.params) (Str.ofString "add_callers") = some (55, 51) := by kernel_rfl
end Mine
end
section
open PySem PySem.W PySem.Spec PySem.Calls PyProof.Rows
namespace Mine
open LCg (NsObj ns_obj lst lst_snoc)
section
variable {prog : Program} {w : World} {A : Around} {E : Value → Shared → Prop} {s : Shared} {h₀ : Heap} {L : Addr} {m : Str → Option Value} {env : Env}
variable {scope : Scope} {cl : List (Str × Addr)} {pos : Pos} {RR : Value → Addr → Result → Shared → Prop} {news : Led}
theorem zipSub_take {is js : List Int} {i : Nat} {a b : Int} (h1 : is[i]? = some a) (h2 : js[i]? = some b) : (List.zipWith (· - ·) is js).take (i + 1) = (List.zipWith (· - ·) is js).take i ++ [a - b] := by
  rw [List.take_add_one]
  congr 1
  have : (List.zipWith (· - ·) is js)[i]? = some (a - b) := by rw [List.getElem?_zipWith, h1, h2]
  rw [this]; rfl
theorem ints_cur {vs : List Value} {is : List Int} (h : IntsAre vs is) {i : Nat} (hi : i < is.length) : ∃ t, vs[i]?.getD .none = .int (is[i]) t := by
  obtain ⟨t, e⟩ := h.get i is[i] (List.getElem?_eq_getElem hi)
  exact ⟨t, by rw [e]; rfl⟩
/-- [x - y for x, y in zip(one, other)] over two tuples of ints of one length -/
theorem comp_diff {b l1 l2 : Nat} {vs us : List Value} {is js : List Int} {x y : Str} {px py pt p1 p2 p3 : Pos} {kk : Nat} {iter : Expr} (hh : A.handled = none) (hcell : ∀ y ∈ scope.names, y.2 ≠ .cell) (hkind : scope.kind = .function)
    (hx : scope.names.lookup x = some .local) (hy : scope.names.lookup y = some .local) (hxy : x ≠ y) (hdx : (x == ("__debug__" : Str)) = false) (hdy : (y == ("__debug__" : Str)) = false)
    (h1 : IntsAre vs is) (h2 : IntsAre us js) (hlen : is.length = js.length) (hl1 : l1 < b) (hl2 : l2 < b) (hZ : ZipAt b [⟨b, l1, true, vs⟩, ⟨b + 1, l2, true, us⟩] 0 .none s.heap) (hnew : h₀.objs.size ≤ b) (hLb : L < b) (hL1 : l1 ≠ L) (hL2 : l2 ≠ L) (hnb : ∀ p ∈ news, p.1 < b)
    (F : Fr h₀ L s.heap m) (N : News h₀ L s.heap news) (hsz : is.length ≤ sizeLine)
    (hRR : ∀ D C h tk m' ys, Fr h₀ L h m → News h₀ L h ((D, lst ys) :: news) → (∀ p ∈ news, p.1 < D) → h.Ns C m' → h₀.get? C = none → C ≠ L → (∀ p ∈ (D, lst ys) :: news, p.1 ≠ C) → IntsAre ys (List.zipWith (· - ·) is js) →
      RR (.ref D) C (.ok .next) { s with heap := h, toks := tk }) :
    wpAny (model prog w) A (pyIter (.ref (b + 2 + 2))) (fun it s₂ => CBlk prog w A env (.Tuple [.Name x px, .Name y py] kk pt) (.BinOp (.Name x p1) .Sub (.Name y p2) p3) iter [] scope pos cl RR E it s₂) E s := by
  refine comp_zip (b := b) (c₀ := ⟨b, l1, true, vs⟩) (r := [⟨b + 1, l2, true, us⟩]) (N₀ := is.length) (V := fun i m₂ => ∃ (h : i < is.length) (h' : i < js.length) (t u : Tok), m₂ x = some (.int is[i] t) ∧ m₂ y = some (.int js[i] u)) (fun i ys n => IntsAre ys ((List.zipWith (· - ·) is js).take i) ∧ n = news)
    hh hcell hkind ⟨rfl, rfl, trivial⟩ (fun c hc => ?_) (fun c hc => ?_) (by show 2 ≤ sizeLine; rw [sizeLine_eq]; exact Nat.le_of_ble_eq_true rfl) hZ hnew hLb (fun c hc => ?_) hnb F N hsz ⟨by rw [List.take_zero]; exact .nil, rfl⟩
    (fun C T i ys news₁ s m₂ Q E hi hT hI N₁ hn k => ?_) (fun i ys news₁ h tk own C D oC m₂ wr E' hi hV hI hoC F₁ N₁ off _ => ?_) (fun D C h tk m' ys news' F₁ N₁ _ hlt hn hC hCL off hI => ?_)
  · simp only [List.mem_cons, List.not_mem_nil, or_false] at hc
    rcases hc with rfl | rfl
    · exact hl1
    · exact hl2
  · simp only [List.mem_cons, List.not_mem_nil, or_false] at hc
    rcases hc with rfl | rfl
    · exact h1.length
    · exact h2.length.trans hlen.symm
  · simp only [List.mem_cons, List.not_mem_nil, or_false] at hc
    rcases hc with rfl | rfl
    · exact hL1
    · exact hL2
  · have hj : i < js.length := hlen ▸ hi
    obtain ⟨t, e1⟩ := ints_cur h1 hi
    obtain ⟨u, e2⟩ := ints_cur h2 hj
    have hT' : s.heap.IsTuple T #[.int is[i] t, .int js[i] u] := by
      have : (List.map (fun c : Cur => c.xs[i]?.getD .none) [⟨b, l1, true, vs⟩, ⟨b + 1, l2, true, us⟩]).toArray = #[.int is[i] t, .int js[i] u] := by
        show #[vs[i]?.getD .none, us[i]?.getD .none] = _
        rw [e1, e2]
      rw [← this]; exact hT
    exact asg_pair hh hkind hx hy hxy hT' hn fun h' tk m₃ a b c d => k h' tk m₃ a ⟨hi, hj, t, u, b, c⟩ d
  · obtain ⟨hi', hj', t, u, ex, ey⟩ := hV
    obtain ⟨hI, rfl⟩ := hI
    have hC : (C, oC) ∈ (own ++ [(C, oC), (D, lst ys)]) ++ news₁ := List.mem_append_left _ (List.mem_append_right _ (.head _))
    refine compTests_nil ?_
    simp only [if_true]
    refine wpAny_BinOp (LCgL.ld_own N₁ hC hoC ex (LCgL.ld_own N₁ hC hoC ey (sub_int' ?_) (by simp [compEnvC, relabel, hkind]) (lookup_relabel_local hy) hdy) (by simp [compEnvC, relabel, hkind]) (lookup_relabel_local hx) hdx)
    refine ⟨h, _, _, rfl, F₁, N₁, off, ?_, rfl⟩
    rw [zipSub_take (List.getElem?_eq_getElem hi') (List.getElem?_eq_getElem hj')]
    exact intsAre_snoc hI
  · obtain ⟨hI, rfl⟩ := hI
    rw [List.take_of_length_le (by rw [List.length_zipWith, hlen]; omega)] at hI
    exact hRR D C h tk m' ys F₁ N₁ hlt hn hC hCL off hI
theorem slicePick_upto (vs : List Value) {y : Int} (h : 0 ≤ y) : (slicePick vs.toArray none (some y) none).toList = vs.take y.toNat := by
  have e : sliceBounds none (some y) none vs.toArray.size = (((0 : Nat) : Int), ((min y.toNat vs.toArray.size : Nat) : Int), 1) := by
    simp only [sliceBounds, Option.getD_none, show (1 : Int) > 0 by decide, if_true, if_neg (Int.not_lt.mpr h)]
    congr 1
    congr 1
    obtain ⟨n, rfl⟩ := Int.eq_ofNat_of_zero_le h
    rw [Int.toNat_natCast, Int.max_eq_right]
    · rcases Nat.le_total n vs.toArray.size with k | k
      · rw [Nat.min_eq_left k, Int.min_eq_left (Int.ofNat_le.mpr k)]
      · rw [Nat.min_eq_right k, Int.min_eq_right (Int.ofNat_le.mpr k)]
    · exact Int.le_min.mpr ⟨h, Int.natCast_nonneg _⟩
  rw [kmk_pick_nat _ e]
  show (vs.drop 0).take (min y.toNat vs.toArray.size - 0) = _
  rw [List.drop_zero, Nat.sub_zero, List.size_toArray, kmk_take_min]
theorem slice_uptoK {l : Addr} {vs : List Value} {n : Nat} {vl vu : Value} {y : Int} {value slice : Expr} {Q : Value → Shared → Prop} (F : Fr h₀ L s.heap m) (N : News h₀ L s.heap news) (hm : (l, listO vs n) ∈ news) (pl : IsPart vl none) (pu : IsPart vu (some y)) (h0 : 0 ≤ y) (hz : vs.length ≤ sizeLine)
    (h : ∀ D h', Fr h₀ L h' m → News h₀ L h' ((D, listO (vs.take y.toNat) 0) :: news) → (∀ p ∈ news, p.1 < D) → Q (.ref D) { s with heap := h' })
    (hs : subscripted slice false (.ref l) (.ref s.heap.objs.size) = operate [.ref s.heap.objs.size, .ref l] (getItem (.ref l) (.ref s.heap.objs.size))) (ht : ∀ r, letTemporaryGo value (.ref l) r = pure ()) :
    wpAny (model prog w) A (subscriptTail value slice (.ref l) (.ref s.heap.objs.size)) Q E { s with heap := s.heap.push { cls := .type "slice", data := .fields #[vl, vu, .none] } } :=
  kmk_slice_lit F N (N.isList hm) pl pu (slicePick_upto vs h0) h hs ht (by simpa using hz)
theorem KeysIn.take {n : Led} {vs : List Value} {ks : List Key} (h : KeysIn n vs ks) : ∀ k : Nat, KeysIn n (vs.take k) (ks.take k) := by
  induction h with
  | nil => intro k; rw [List.take_nil, List.take_nil]; exact .nil
  | cons a b c _ ih =>
    intro k
    cases k with
    | zero => exact .nil
    | succ k => exact .cons a b c (ih k)
theorem fresh_keep {a b c : Led} (h : Grow b c) : ∀ p ∈ fresh a b, p ∈ fresh a c := fresh_mono (fun _ h => h) h.sub
theorem fresh_up {a b c : Led} (g : Grow a b) : ∀ p ∈ fresh b c, p ∈ fresh a c := fresh_mono g.sub fun _ h => h
def signsL (g : Int → Int) (ks : List Key) : List Int := ks.filterMap fun k => if g k.1 = 0 then none else some (if 0 < g k.1 then k.2 else -k.2)
theorem signs_take {g : Int → Int} {ks : List Key} {i : Nat} {x d : Int} (h : ks[i]? = some (x, d)) : signsL g (ks.take (i + 1)) = signsL g (ks.take i) ++ (if g x = 0 then [] else [if 0 < g x then d else -d]) := by
  unfold signsL
  rw [List.take_add_one, h, List.filterMap_append]
  congr 1
  by_cases hg : g x = 0
  · simp [hg]
  · simp [hg]
theorem signs_cmp {u v : Row} {g : Int → Int} : ∀ {ks : List Key}, (∀ k ∈ ks, g k.1 = u.get k.1 - v.get k.1) → (signsL g ks ++ [0])[0]? = some (cmpK ks u v)
  | [], _ => rfl
  | (x, d) :: ks, h => by
    have hx := h (x, d) (.head _)
    have ih := signs_cmp (ks := ks) fun k hk => h k (.tail _ hk)
    have hx' : g x = u.get x - v.get x := hx
    unfold cmpK
    by_cases h1 : u.get x < v.get x
    · rw [if_pos h1]
      have e1 : g x ≠ 0 := by omega
      have e2 : ¬ 0 < g x := by omega
      simp [signsL, List.filterMap_cons, e1, e2]
    · rw [if_neg h1]
      by_cases h2 : v.get x < u.get x
      · rw [if_pos h2]
        have e1 : g x ≠ 0 := by omega
        have e2 : 0 < g x := by omega
        simp [signsL, List.filterMap_cons, e1, e2]
      · rw [if_neg h2]
        have e1 : g x = 0 := by omega
        have e3 : signsL g ((x, d) :: ks) = signsL g ks := by simp [signsL, List.filterMap_cons, e1]
        rw [e3]; exact ih
def Row.list (r : Row) : List Int := [r.a, r.b, r.c, r.d, r.e, r.f]
theorem gap_item {value slice : Expr} {l : Addr} {vs : List Value} {n : Nat} {u v : Row} {k : Int} {t : Tok} {Q : Value → Shared → Prop} (N : News h₀ L s.heap news) (hi : IntsAre vs (List.zipWith (· - ·) u.list v.list)) (hm : (l, listO vs n) ∈ news) (h0 : 0 ≤ k) (h6 : k < 6) (h : ∀ t, Q (.int (u.get k - v.get k) t) s)
    (hs : subscripted slice false (.ref l) (.int k t) = operate [.ref l, .int k t] (getItem (.ref l) (.int k t)) := by with_unfolding_all rfl) :
    wpAny (model prog w) A (subscriptTail value slice (.ref l) (.int k t)) Q E s := by
  obtain ⟨j, rfl⟩ := Int.eq_ofNat_of_zero_le h0
  have q : ∃ t', vs[j]? = some (.int (u.get j - v.get j) t') := match j, h6 with
    | 0, _ => hi.get 0 _ rfl
    | 1, _ => hi.get 1 _ rfl
    | 2, _ => hi.get 2 _ rfl
    | 3, _ => hi.get 3 _ rfl
    | 4, _ => hi.get 4 _ rfl
    | 5, _ => hi.get 5 _ rfl
    | j + 6, h6 => absurd h6 (by omega)
  obtain ⟨t', e⟩ := q
  exact item_lstM N hm h0 (Int.lt_trans h6 (by decide)) e (h t') hs
theorem comp_signs {ax : Addr} {vs : List Value} {kn : Nat} {ks : List Key} {g : Int → Int} {x y : Str} {px py pt : Pos} {kk : Nat} {iter elt c : Expr} (hh : A.handled = none) (hcell : ∀ y ∈ scope.names, y.2 ≠ .cell) (hkind : scope.kind = .function)
    (hx : scope.names.lookup x = some .local) (hy : scope.names.lookup y = some .local) (hxy : x ≠ y) (F : Fr h₀ L s.heap m) (N : News h₀ L s.heap news) (hm : (ax, listO vs kn) ∈ news) (hks : KeysIn news vs ks) (hsz : vs.length ≤ sizeLine)
    (htest : ∀ i d t u C D oC m₂ own ys h tk (Q : Bool → Shared → Prop) (E' : Value → Shared → Prop), 0 ≤ i → i < 6 → m₂ x = some (.int i t) → m₂ y = some (.int d u) → NsObj oC m₂ → Fr h₀ L h m → News h₀ L h ((own ++ [(C, oC), (D, lst ys)]) ++ news) → (∀ tk', Q (decide (¬ g i = 0)) { s with heap := h, toks := tk' }) →
      wpAny (model prog w) A (isTrue c (compEnvC scope cl C env) (eval c (compEnvC scope cl C env))) Q E' { s with heap := h, toks := tk })
    (helt : ∀ i d t u C D oC m₂ own ys h tk (Q : Value → Shared → Prop) (E' : Value → Shared → Prop), 0 ≤ i → i < 6 → ¬ g i = 0 → m₂ x = some (.int i t) → m₂ y = some (.int d u) → NsObj oC m₂ → Fr h₀ L h m → News h₀ L h ((own ++ [(C, oC), (D, lst ys)]) ++ news) → (∀ t' tk', Q (.int (if 0 < g i then d else -d) t') { s with heap := h, toks := tk' }) →
      wpAny (model prog w) A (eval elt (compEnvC scope cl C env)) Q E' { s with heap := h, toks := tk })
    (hRR : ∀ D C h tk m' ys, Fr h₀ L h m → News h₀ L h ((D, lst ys) :: news) → (∀ p ∈ news, p.1 < D) → h.Ns C m' → h₀.get? C = none → C ≠ L → (∀ p ∈ (D, lst ys) :: news, p.1 ≠ C) → IntsAre ys (signsL g ks) →
      RR (.ref D) C (.ok .next) { s with heap := h, toks := tk }) :
    wpAny (model prog w) A (pyIter (.ref ax)) (fun it s₂ => CBlk prog w A env (.Tuple [.Name x px, .Name y py] kk pt) elt iter [c] scope pos cl RR E it s₂) E s := by
  refine comp_list (V := fun i m₂ => ∃ j d t u, ks[i]? = some (j, d) ∧ 0 ≤ j ∧ j < 6 ∧ m₂ x = some (.int j t) ∧ m₂ y = some (.int d u)) (fun i ys n => IntsAre ys (signsL g (ks.take i)) ∧ n = news) hh hcell hkind F N hm hsz ⟨by rw [List.take_zero]; exact .nil, rfl⟩
    (fun C i v ys news₁ s m₂ Q E hv hI N₁ hn k => ?_) (fun i ys news₁ h tk own C D oC m₂ wr E' hi hV hI hoC F₁ N₁ off _ => ?_) (fun D C h tk m' ys news' F₁ N₁ _ hlt hn hC hCL off hI => ?_)
  · obtain ⟨p, j, d, tj, td, rfl, hk, hp, h0, h6⟩ := hks.at hv
    obtain ⟨_, rfl⟩ := hI
    exact asg_pair hh hkind hx hy hxy (news_tup N₁ hp) hn fun h' tk m₃ a b c d' => k h' tk m₃ a ⟨j, d, tj, td, hk, h0, h6, b, c⟩ d'
  · obtain ⟨j, d, t, u, hk, h0, h6, ex, ey⟩ := hV
    obtain ⟨hI, rfl⟩ := hI
    refine compTests_one (htest j d t u C D oC m₂ own ys h tk _ E' h0 h6 ex ey hoC F₁ N₁ fun tk' => ?_)
    rw [signs_take hk]
    by_cases hg : g j = 0
    · simp only [hg, not_true_eq_false, decide_false, Bool.false_eq_true, if_false, if_true, List.append_nil]
      exact ⟨h, tk', _, rfl, F₁, N₁, off, hI, rfl⟩
    · simp only [hg, not_false_eq_true, decide_true, if_true, if_false]
      refine helt j d t u C D oC m₂ own ys h tk' _ E' h0 h6 hg ex ey hoC F₁ N₁ fun t' tk'' => ?_
      exact ⟨h, tk'', _, rfl, F₁, N₁, off, intsAre_snoc hI, rfl⟩
  · obtain ⟨hI, rfl⟩ := hI
    rw [hks.len, List.take_length] at hI
    exact hRR D C h tk m' ys F₁ N₁ hlt hn hC hCL off hI
end
end Mine
end
section
namespace Mine
theorem mm_add (x y : Int) : min x y + max x y = x + y := by
  rcases Int.le_total x y with h | h
  · rw [Int.min_eq_left h, Int.max_eq_right h]
  · rw [Int.min_eq_right h, Int.max_eq_left h, Int.add_comm]
theorem mm_sub (x y : Int) : min x y = x + y - max x y := by rw [← mm_add x y, Int.add_sub_cancel]
theorem max_off (x y : Int) : max x y = x + max 0 (y - x) := by
  have h := Int.sub_max_sub_right x y x
  rw [Int.sub_self] at h
  rw [h, Int.add_comm, Int.sub_add_cancel]
theorem add_sub_l (a b : Int) : a + b - a = b := Int.sub_eq_iff_eq_add'.mpr rfl
/-- one turn on two rows and two columns -/
structure T4 (a b w x y z w' x' y' z' : Int) : Prop where
  hz : z' = b + max x y - z
  hx : x' = z' + w - x
  hy : y' = z' + w - y
  hw : w' = min x' y' + a - w
theorem T4.c11 {a b w x y z w' x' y' z' : Int} (h : T4 a b w x y z w' x' y' z') : w' = a + b - z := by
  rw [h.hw, h.hx, h.hy, Int.sub_min_sub_left, h.hz]; simp +arith
theorem T4.z2 {a b w x y z w1 x1 y1 z1 w2 x2 y2 z2 : Int} (h : T4 a b w x y z w1 x1 y1 z1) (k : T4 a b w1 x1 y1 z1 w2 x2 y2 z2) : z2 = b + w - min x y := by
  rw [k.hz, h.hx, h.hy, Int.sub_max_sub_left]; simp +arith
theorem T4.c12 {a b w x y z w1 x1 y1 z1 w2 x2 y2 z2 : Int} (h : T4 a b w x y z w1 x1 y1 z1) (k : T4 a b w1 x1 y1 z1 w2 x2 y2 z2) : x2 = a + b - y := by
  rw [k.hx, h.z2 k, h.c11, h.hx, h.hz, mm_sub]; simp +arith
theorem T4.c21 {a b w x y z w1 x1 y1 z1 w2 x2 y2 z2 : Int} (h : T4 a b w x y z w1 x1 y1 z1) (k : T4 a b w1 x1 y1 z1 w2 x2 y2 z2) : y2 = a + b - x := by
  rw [k.hy, h.z2 k, h.c11, h.hy, h.hz, mm_sub]; simp +arith
theorem T4.c22 {a b w x y z w1 x1 y1 z1 w2 x2 y2 z2 w3 x3 y3 z3 : Int} (h : T4 a b w x y z w1 x1 y1 z1) (k : T4 a b w1 x1 y1 z1 w2 x2 y2 z2) (l : T4 a b w2 x2 y2 z2 w3 x3 y3 z3) : z3 = a + b - w := by
  rw [l.hz, h.c12 k, h.c21 k, Int.sub_max_sub_left, Int.min_comm, h.z2 k]; simp +arith
/-- one turn on two rows and three columns -/
structure T6 (a b p q r s t u p' q' r' s' t' u' : Int) : Prop where
  hu : u' = b + max t r - u
  ht : t' = u' + max q s - t
  hs : s' = t' + p - s
  hr : r' = u' + q - r
  hq : q' = min t' r' + p - q
  hp : p' = min s' q' + a - p
theorem two_max (g f : Int) : max g (max 0 (max 0 g + f)) = max 0 g + max 0 f := by
  rcases Int.le_total 0 g with h | h
  · rw [Int.max_eq_right h, ← Int.max_assoc, Int.max_eq_left h, max_off, Int.add_comm g f, Int.add_sub_cancel]
  · rw [Int.max_eq_left h, Int.zero_add, Int.zero_add, Int.max_eq_right (Int.le_trans h (Int.le_max_left 0 f))]
theorem two_min (g f : Int) : min (max 0 f - g) f + max 0 (max 0 g + f) = max 0 f + f := by
  rcases Int.le_total 0 g with h | h
  · rw [Int.max_eq_right h]
    rcases Int.le_total 0 f with k | k
    · rw [Int.max_eq_right k, Int.max_eq_right (Int.add_nonneg h k), Int.min_eq_left (Int.sub_le_self f h), Int.add_comm, Int.add_comm g f, Int.add_assoc, Int.add_comm g, Int.sub_add_cancel]
    · rw [Int.max_eq_left k, Int.zero_add, Int.zero_sub]
      rcases Int.le_total 0 (g + f) with l | l
      · rw [Int.max_eq_right l, Int.min_eq_left (by omega)]; omega
      · rw [Int.max_eq_left l, Int.min_eq_right (by omega), Int.add_zero]
  · rw [Int.max_eq_left h, Int.zero_add, Int.min_eq_right, Int.add_comm]
    exact Int.le_trans (Int.le_max_right 0 f) (Int.le_sub_right_of_add_le (by omega))
/-- what a turn says, without a greatest or a least of its own entries -/
theorem T6.par {a b p q r s t u p1 q1 r1 s1 t1 u1 : Int} (h : T6 a b p q r s t u p1 q1 r1 s1 t1 u1) : ∃ G F P, max (s - q) P = G + F ∧ min (F - (s - q)) (r - t) + P = F + (r - t) ∧ t1 = r1 + G + (r - t) ∧ q1 = t1 - P + p - q ∧ max t1 r1 = r1 + P ∧ max t r = t + F := by
  have e : t1 = r1 + max 0 (s - q) + (r - t) := by rw [h.ht, max_off, h.hr]; simp +arith
  have f : max t1 r1 = r1 + max 0 (max 0 (s - q) + (r - t)) := by rw [Int.max_comm, max_off, e, Int.add_assoc, add_sub_l]
  exact ⟨max 0 (s - q), max 0 (r - t), max 0 (max 0 (s - q) + (r - t)), two_max _ _, two_min _ _, e, by rw [h.hq, mm_sub, f]; simp +arith, f, max_off t r⟩
theorem T6.c11 {a b p q r s t u p1 q1 r1 s1 t1 u1 : Int} (h : T6 a b p q r s t u p1 q1 r1 s1 t1 u1) : p1 = a + b - u := by
  obtain ⟨G, F, P, e1, e2, e3, e4, e5, e6⟩ := h.par
  have f : q1 = (t1 + p - q) - P := by rw [e4]; simp +arith
  have k : s1 = (t1 + p - q) - (s - q) := by rw [h.hs]; simp +arith
  rw [h.hp, f, k, Int.sub_min_sub_left, e1, e3, h.hr, h.hu, e6]; simp +arith
theorem T6.two {a b p q r s t u p1 q1 r1 s1 t1 u1 p2 q2 r2 s2 t2 u2 : Int} (h : T6 a b p q r s t u p1 q1 r1 s1 t1 u1) (k : T6 a b p1 q1 r1 s1 t1 u1 p2 q2 r2 s2 t2 u2) : q2 = a + b - t ∧ s2 = a + b - r ∧ t2 - r2 = max t r - t - s + q - (r - t) := by
  obtain ⟨G, F, P, e1, e2, e3, e4, e5, e6⟩ := h.par
  have f1 := h.c11
  have hs := h.hs
  have hu := h.hu
  have kt := k.ht
  have ku := k.hu
  have kr := k.hr
  have ks := k.hs
  have kq := k.hq
  clear k h
  rw [e5] at ku
  rw [e6] at hu ⊢
  have g : max q1 s1 = s1 + (G + F - P) := by
    rw [Int.max_comm, max_off, ← e1]
    have z := Int.sub_max_sub_right (s - q) P P
    rw [Int.sub_self, Int.max_comm] at z
    have y : q1 - s1 = s - q - P := by rw [e4, hs]; simp +arith
    rw [y, z]
  rw [g] at kt
  clear g e1 e5 e6
  have c1 : t2 = (F - (s - q)) - (P - u2 - G - p + q) := by rw [kt, hs]; simp +arith
  have c2 : r2 = (r - t) - (P - u2 - G - p + q) := by rw [kr, e4, e3]; simp +arith
  refine ⟨?_, ?_, ?_⟩
  · rw [c1, c2, Int.sub_min_sub_right] at kq
    generalize min (F - (s - q)) (r - t) = m at kq e2
    obtain rfl : m = F + (r - t) - P := by rw [← e2]; simp +arith
    rw [kq, ku, e4, e3, f1, hu]; simp +arith
  · rw [ks, kt, ku, hs, f1, e3, hu]; simp +arith
  · rw [c1, c2]; simp +arith
theorem T6.c12 {a b p q r s t u p1 q1 r1 s1 t1 u1 p2 q2 r2 s2 t2 u2 : Int} (h : T6 a b p q r s t u p1 q1 r1 s1 t1 u1) (k : T6 a b p1 q1 r1 s1 t1 u1 p2 q2 r2 s2 t2 u2) : q2 = a + b - t := (h.two k).1
theorem T6.c21 {a b p q r s t u p1 q1 r1 s1 t1 u1 p2 q2 r2 s2 t2 u2 : Int} (h : T6 a b p q r s t u p1 q1 r1 s1 t1 u1) (k : T6 a b p1 q1 r1 s1 t1 u1 p2 q2 r2 s2 t2 u2) : s2 = a + b - r := (h.two k).2.1
theorem T6.c22 {a b p q r s t u p1 q1 r1 s1 t1 u1 p2 q2 r2 s2 t2 u2 p3 q3 r3 s3 t3 u3 : Int} (h : T6 a b p q r s t u p1 q1 r1 s1 t1 u1) (k : T6 a b p1 q1 r1 s1 t1 u1 p2 q2 r2 s2 t2 u2) (l : T6 a b p2 q2 r2 s2 t2 u2 p3 q3 r3 s3 t3 u3) : t3 = a + b - q := by
  have e : t3 = s3 - p2 + s2 := by rw [l.hs]; simp +arith
  rw [e, k.c21 l, h.c21 k, k.c11, h.hr]; simp +arith
theorem T6.c13 {a b p q r s t u p1 q1 r1 s1 t1 u1 p2 q2 r2 s2 t2 u2 p3 q3 r3 s3 t3 u3 : Int} (h : T6 a b p q r s t u p1 q1 r1 s1 t1 u1) (k : T6 a b p1 q1 r1 s1 t1 u1 p2 q2 r2 s2 t2 u2) (l : T6 a b p2 q2 r2 s2 t2 u2 p3 q3 r3 s3 t3 u3) : r3 = a + b - s := by
  have e : r3 = t3 - max q2 s2 + q2 + (t2 - r2) := by rw [l.hr, l.ht]; simp +arith
  rw [e, (h.two k).2.2, h.c22 k l, h.c21 k, h.c12 k, Int.sub_max_sub_left, mm_sub]; simp +arith
theorem T6.c23 {a b p q r s t u p1 q1 r1 s1 t1 u1 p2 q2 r2 s2 t2 u2 p3 q3 r3 s3 t3 u3 p4 q4 r4 s4 t4 u4 : Int} (h : T6 a b p q r s t u p1 q1 r1 s1 t1 u1) (k : T6 a b p1 q1 r1 s1 t1 u1 p2 q2 r2 s2 t2 u2) (l : T6 a b p2 q2 r2 s2 t2 u2 p3 q3 r3 s3 t3 u3) (m : T6 a b p3 q3 r3 s3 t3 u3 p4 q4 r4 s4 t4 u4) : u4 = a + b - p := by
  have e : u4 = r4 - q3 + r3 := by rw [m.hr]; simp +arith
  rw [e, k.c13 l m, h.c13 k l, k.c12 l, h.hs]; simp +arith
end Mine
end
section
namespace Mine
def nearC (bs : List Int) (code way : Int) : List Int := [code + 10 * way, code + way].filter fun o => bs.any (· == o)
def nearL (bs : List Int) (code way : Int) : List Int :=
  if nearC bs code way = [] then (if 0 < way then [99] else [0]) else nearC bs code way
def pick2 (ks : List Key) (way : Int) (u v : Row) : Row := if cmpK ks u v * way > 0 then v else u
def Row.neg (r : Row) : Row := ⟨-r.a, -r.b, -r.c, -r.d, -r.e, -r.f⟩
def pickL (ks : List Key) (way : Int) (f : Int → Row) : List Int → Row
  | [] => f 0
  | [c] => f c
  | c :: d :: _ => pick2 ks way (f c) (f d)
theorem get_add (u v : Row) (i : Int) : (u.add v).get i = u.get i + v.get i := by
  unfold Row.get; split <;> rfl
theorem get_neg (u : Row) (i : Int) : u.neg.get i = -u.get i := by
  unfold Row.get; split <;> rfl
def sgn (d x : Int) : Int := if 0 < d then x else -x
theorem sgn_add (d x y : Int) : sgn d (x + y) = sgn d x + sgn d y := by unfold sgn; split <;> omega
theorem sgn_neg (d x : Int) : sgn d (-x) = -sgn d x := by unfold sgn; split <;> omega
def phi (M : Int) : List Key → Row → Int
  | [], _ => 0
  | (i, d) :: ks, u => sgn d (u.get i) * M ^ ks.length + phi M ks u
theorem phi_add (M : Int) (u v : Row) : ∀ ks, phi M ks (u.add v) = phi M ks u + phi M ks v
  | [] => rfl
  | (i, d) :: ks => by
    unfold phi
    rw [get_add, sgn_add, Int.add_mul, phi_add M u v ks]
    omega
theorem phi_neg (M : Int) (u : Row) : ∀ ks, phi M ks u.neg = -phi M ks u
  | [] => rfl
  | (i, d) :: ks => by
    unfold phi
    rw [get_neg, sgn_neg, Int.neg_mul, phi_neg M u ks]
    omega
theorem pow_pos' {M : Int} (h : 0 < M) : ∀ n : Nat, 0 < M ^ n
  | 0 => by rw [Int.pow_zero]; decide
  | n + 1 => by rw [Int.pow_succ]; exact Int.mul_pos (pow_pos' h n) h
/-- the step of the bound -/
theorem step_bnd {B P x e : Int} (hP : 0 < P) (h1 : -B ≤ x) (h2 : x ≤ B) (h3 : -P < e) (h4 : e < P) : -(P * (B + 1)) < x * P + e ∧ x * P + e < P * (B + 1) := by
  have a := Int.mul_le_mul_of_nonneg_right h2 (Int.le_of_lt hP)
  have b := Int.mul_le_mul_of_nonneg_right h1 (Int.le_of_lt hP)
  rw [Int.neg_mul] at b
  rw [Int.mul_add, Int.mul_one, Int.mul_comm P B]
  omega
theorem pos_bnd {P x e : Int} (hP : 0 < P) (h1 : 0 < x) (h3 : -P < e) : 0 < x * P + e := by
  have a := Int.mul_le_mul_of_nonneg_right (show 1 ≤ x from h1) (Int.le_of_lt hP)
  rw [Int.one_mul] at a
  omega
theorem neg_bnd {P x e : Int} (hP : 0 < P) (h1 : x < 0) (h4 : e < P) : x * P + e < 0 := by
  have a := Int.mul_le_mul_of_nonneg_right (show x ≤ -1 by omega) (Int.le_of_lt hP)
  rw [Int.neg_one_mul] at a
  omega
def Near (B : Int) (u v : Row) : Prop := ∀ i, -B ≤ u.get i - v.get i ∧ u.get i - v.get i ≤ B
theorem phi_diff (M : Int) (i d : Int) (ks : List Key) (u v : Row) : phi M ((i, d) :: ks) u - phi M ((i, d) :: ks) v = sgn d (u.get i - v.get i) * M ^ ks.length + (phi M ks u - phi M ks v) := by
  show sgn d (u.get i) * M ^ ks.length + phi M ks u - (sgn d (v.get i) * M ^ ks.length + phi M ks v) = _
  rw [Int.sub_eq_add_neg (a := u.get i), sgn_add, sgn_neg, Int.add_mul, Int.neg_mul]
  omega
theorem sgn_bnd {B x d : Int} (h1 : -B ≤ x) (h2 : x ≤ B) : -B ≤ sgn d x ∧ sgn d x ≤ B := by
  unfold sgn; split <;> omega
theorem phi_bnd {B : Int} (hB : 0 ≤ B) {u v : Row} (h : Near B u v) : ∀ ks, -((B + 1) ^ ks.length) < phi (B + 1) ks u - phi (B + 1) ks v ∧ phi (B + 1) ks u - phi (B + 1) ks v < (B + 1) ^ ks.length
  | [] => by
    show -((B + 1) ^ 0) < (0 : Int) - 0 ∧ (0 : Int) - 0 < (B + 1) ^ 0
    rw [Int.pow_zero]; decide
  | (i, d) :: ks => by
    rw [phi_diff, List.length_cons, Int.pow_succ]
    have b := sgn_bnd (d := d) (h i).1 (h i).2
    have r := phi_bnd hB h ks
    exact step_bnd (pow_pos' (by omega) _) b.1 b.2 r.1 r.2
theorem phi_cmp {B : Int} (hB : 0 ≤ B) {u v : Row} (h : Near B u v) : ∀ ks : List Key, (∀ k ∈ ks, k.2 ≠ 0) → (0 < cmpK ks u v ↔ phi (B + 1) ks v < phi (B + 1) ks u) ∧ (cmpK ks u v < 0 ↔ phi (B + 1) ks u < phi (B + 1) ks v) ∧ (phi (B + 1) ks u = phi (B + 1) ks v → ∀ k ∈ ks, u.get k.1 = v.get k.1)
  | [], _ => ⟨by show (0 : Int) < 0 ↔ (0 : Int) < 0; exact Iff.rfl, Iff.rfl, fun _ k hk => nomatch hk⟩
  | (i, d) :: ks, hd => by
    have r := phi_cmp hB h ks fun k hk => hd k (.tail _ hk)
    have b := phi_bnd hB h ks
    have e := phi_diff (B + 1) i d ks u v
    have hP := pow_pos' (show 0 < B + 1 by omega) ks.length
    have d0 : d ≠ 0 := hd (i, d) (.head _)
    unfold cmpK
    by_cases h1 : u.get i < v.get i
    · rw [if_pos h1]
      by_cases d1 : 0 < d
      · have s : sgn d (u.get i - v.get i) < 0 := by unfold sgn; rw [if_pos d1]; omega
        have z := neg_bnd hP s b.2
        rw [← e] at z
        refine ⟨by omega, by omega, fun q => ?_⟩
        omega
      · have s : 0 < sgn d (u.get i - v.get i) := by unfold sgn; rw [if_neg d1]; omega
        have z := pos_bnd hP s b.1
        rw [← e] at z
        refine ⟨by omega, by omega, fun q => ?_⟩
        omega
    · rw [if_neg h1]
      by_cases h2 : v.get i < u.get i
      · rw [if_pos h2]
        by_cases d1 : 0 < d
        · have s : 0 < sgn d (u.get i - v.get i) := by unfold sgn; rw [if_pos d1]; omega
          have z := pos_bnd hP s b.1
          rw [← e] at z
          refine ⟨by omega, by omega, fun q => ?_⟩
          omega
        · have s : sgn d (u.get i - v.get i) < 0 := by unfold sgn; rw [if_neg d1]; omega
          have z := neg_bnd hP s b.2
          rw [← e] at z
          refine ⟨by omega, by omega, fun q => ?_⟩
          omega
      · rw [if_neg h2]
        have hq : u.get i = v.get i := by omega
        have s : sgn d (u.get i - v.get i) = 0 := by rw [hq, Int.sub_self]; unfold sgn; split <;> rfl
        rw [s, Int.zero_mul, Int.zero_add] at e
        refine ⟨?_, ?_, fun q k hk => ?_⟩
        · rw [r.1]; omega
        · rw [r.2.1]; omega
        · rcases List.mem_cons.mp hk with rfl | hk
          · exact hq
          · exact r.2.2 (by omega) k hk
def Row.bnd (r : Row) : Int := r.a.natAbs + r.b.natAbs + r.c.natAbs + r.d.natAbs + r.e.natAbs + r.f.natAbs
def bndL : List Row → Int
  | [] => 0
  | r :: l => r.bnd + bndL l
theorem nab_nn (x : Int) : 0 ≤ (x.natAbs : Int) := Int.natCast_nonneg _
theorem nab_bnd (x : Int) : -(x.natAbs : Int) ≤ x ∧ x ≤ x.natAbs := by omega
theorem bnd_l {x B C : Int} (h : -B ≤ x ∧ x ≤ B) (c : 0 ≤ C) : -(B + C) ≤ x ∧ x ≤ B + C := by omega
theorem bnd_r {x B C : Int} (h : -B ≤ x ∧ x ≤ B) (c : 0 ≤ C) : -(C + B) ≤ x ∧ x ≤ C + B := by rw [Int.add_comm]; exact bnd_l h c
theorem Row.bnd_nn (r : Row) : 0 ≤ r.bnd :=
  have n := nab_nn
  Int.add_nonneg (Int.add_nonneg (Int.add_nonneg (Int.add_nonneg (Int.add_nonneg (n _) (n _)) (n _)) (n _)) (n _)) (n _)
theorem get_bnd (r : Row) (i : Int) : -r.bnd ≤ r.get i ∧ r.get i ≤ r.bnd := by
  have n := nab_nn
  have k := nab_bnd
  have n2 := fun x y => Int.add_nonneg (n x) (n y)
  have n3 := fun x y z => Int.add_nonneg (n2 x y) (n z)
  have n4 := fun x y z u => Int.add_nonneg (n3 x y z) (n u)
  unfold Row.bnd Row.get; split
  · exact bnd_l (bnd_l (bnd_l (bnd_l (bnd_l (k _) (n _)) (n _)) (n _)) (n _)) (n _)
  · exact bnd_l (bnd_l (bnd_l (bnd_l (bnd_r (k _) (n _)) (n _)) (n _)) (n _)) (n _)
  · exact bnd_l (bnd_l (bnd_l (bnd_r (k _) (n2 _ _)) (n _)) (n _)) (n _)
  · exact bnd_l (bnd_l (bnd_r (k _) (n3 _ _ _)) (n _)) (n _)
  · exact bnd_l (bnd_r (k _) (n4 _ _ _ _)) (n _)
  · exact bnd_r (k _) (Int.add_nonneg (n4 _ _ _ _) (n _))
theorem bndL_nn : ∀ l, 0 ≤ bndL l
  | [] => Int.le_refl _
  | r :: l => by have := r.bnd_nn; have := bndL_nn l; unfold bndL; omega
theorem bndL_mem {r : Row} : ∀ {l : List Row}, r ∈ l → r.bnd ≤ bndL l
  | q :: l, h => by
    unfold bndL
    rcases List.mem_cons.mp h with rfl | h
    · have := bndL_nn l; omega
    · have := bndL_mem h; have := q.bnd_nn; omega
theorem near_of {l : List Row} {u v : Row} (hu : u ∈ l) (hv : v ∈ l) : Near (2 * bndL l) u v := fun i => by
  have a := get_bnd u i
  have b := get_bnd v i
  have c := bndL_mem hu
  have d := bndL_mem hv
  omega
/-- keys: every column once or more, no direction 0 -/
structure KeysOk (ks : List Key) : Prop where
  nz : ∀ k ∈ ks, k.2 ≠ 0
  all : ∀ i : Int, 0 ≤ i → i < 6 → ∃ d, (i, d) ∈ ks
theorem row_ext {u v : Row} (h : ∀ i : Int, 0 ≤ i → i < 6 → u.get i = v.get i) : u = v := by
  have a : u.a = v.a := h 0 (by decide) (by decide)
  have b : u.b = v.b := h 1 (by decide) (by decide)
  have c : u.c = v.c := h 2 (by decide) (by decide)
  have d : u.d = v.d := h 3 (by decide) (by decide)
  have e : u.e = v.e := h 4 (by decide) (by decide)
  have f : u.f = v.f := h 5 (by decide) (by decide)
  show Row.mk u.a u.b u.c u.d u.e u.f = v
  rw [a, b, c, d, e, f]
structure Emb (ks : List Key) (l : List Row) (φ : Row → Int) : Prop where
  add : ∀ u v, φ (u.add v) = φ u + φ v
  neg : ∀ u, φ u.neg = -φ u
  lo : ∀ u ∈ l, ∀ v ∈ l, φ (pick2 ks 1 u v) = min (φ u) (φ v)
  hi : ∀ u ∈ l, ∀ v ∈ l, φ (pick2 ks (-1) u v) = max (φ u) (φ v)
  inj : ∀ u ∈ l, ∀ v ∈ l, φ u = φ v → u = v
theorem emb {ks : List Key} (hk : KeysOk ks) (l : List Row) : ∃ φ, Emb ks l φ := by
  have hB : 0 ≤ 2 * bndL l := by have := bndL_nn l; omega
  refine ⟨phi (2 * bndL l + 1) ks, fun u v => phi_add _ u v ks, fun u => phi_neg _ u ks, fun u hu v hv => ?_, fun u hu v hv => ?_, fun u hu v hv e => ?_⟩
  all_goals have c := phi_cmp hB (near_of hu hv) ks hk.nz
  · unfold pick2
    split
    · have : 0 < cmpK ks u v := by omega
      have := c.1.mp this; omega
    · have : ¬ 0 < cmpK ks u v := by omega
      rw [c.1] at this; omega
  · unfold pick2
    split
    · have : cmpK ks u v < 0 := by omega
      have := c.2.1.mp this; omega
    · have : ¬ cmpK ks u v < 0 := by omega
      rw [c.2.1] at this; omega
  · exact row_ext fun i h0 h6 => (hk.all i h0 h6).elim fun d hd => c.2.2 e _ hd
/-- one turn over a board -/
structure TurnR (bs : List Int) (ks : List Key) (f f' : Int → Row) : Prop where
  lo : f' 0 = f 0
  hi : f' 99 = f 99
  at' : ∀ c ∈ bs, f' c = ((pickL ks 1 f' (nearL bs c 1)).add (pickL ks (-1) f (nearL bs c (-1)))).add (f c).neg
def bd0 : List Int := [11, 12, 21, 22]
def bd1 : List Int := [11, 12, 13, 21, 22, 23]
def bd2 : List Int := [11, 12, 21, 22, 31, 32]
end Mine
end
section
namespace Mine
def rk (c : Int) : Int := c / 10 + c % 10 - 1
/-- the place across, less the ground and the roof -/
def homeR (a b z : Row) : Row := (a.add b).add z.neg
section
variable {ks : List Key} {l : List Row} {φ : Row → Int} {f f' : Int → Row}
theorem Emb.home (E : Emb ks l φ) {a b z : Row} : φ (homeR a b z) = φ a + φ b - φ z := by
  unfold homeR; rw [E.add, E.add, E.neg]; omega
theorem T4_of (E : Emb ks l φ) (h : TurnR bd0 ks f f') (h12 : f 12 ∈ l) (h21 : f 21 ∈ l) (k12 : f' 12 ∈ l) (k21 : f' 21 ∈ l) :
    T4 (φ (f 0)) (φ (f 99)) (φ (f 11)) (φ (f 12)) (φ (f 21)) (φ (f 22)) (φ (f' 11)) (φ (f' 12)) (φ (f' 21)) (φ (f' 22)) := by
  have e0 := h.lo
  have e99 := h.hi
  have e11 : f' 11 = ((pick2 ks 1 (f' 21) (f' 12)).add (f 0)).add (f 11).neg := h.at' 11 (by decide)
  have e12 : f' 12 = ((f' 22).add (f 11)).add (f 12).neg := h.at' 12 (by decide)
  have e21 : f' 21 = ((f' 22).add (f 11)).add (f 21).neg := h.at' 21 (by decide)
  have e22 : f' 22 = ((f' 99).add (pick2 ks (-1) (f 12) (f 21))).add (f 22).neg := h.at' 22 (by decide)
  have a11 := congrArg φ e11
  have a12 := congrArg φ e12
  have a21 := congrArg φ e21
  have a22 := congrArg φ e22
  rw [E.add, E.add, E.neg, E.lo _ k21 _ k12, Int.min_comm] at a11
  rw [E.add, E.add, E.neg] at a12 a21
  rw [E.add, E.add, E.neg, E.hi _ h12 _ h21, e99] at a22
  exact ⟨a22, a12, a21, a11⟩
theorem T6_of (E : Emb ks l φ) (h : TurnR bd1 ks f f') (h' : ∀ c ∈ bd1, f c ∈ l) (k' : ∀ c ∈ bd1, f' c ∈ l) :
    T6 (φ (f 0)) (φ (f 99)) (φ (f 11)) (φ (f 12)) (φ (f 13)) (φ (f 21)) (φ (f 22)) (φ (f 23)) (φ (f' 11)) (φ (f' 12)) (φ (f' 13)) (φ (f' 21)) (φ (f' 22)) (φ (f' 23)) := by
  have e0 := h.lo
  have e99 := h.hi
  have e11 : f' 11 = ((pick2 ks 1 (f' 21) (f' 12)).add (f 0)).add (f 11).neg := h.at' 11 (by decide)
  have e12 : f' 12 = ((pick2 ks 1 (f' 22) (f' 13)).add (f 11)).add (f 12).neg := h.at' 12 (by decide)
  have e13 : f' 13 = ((f' 23).add (f 12)).add (f 13).neg := h.at' 13 (by decide)
  have e21 : f' 21 = ((f' 22).add (f 11)).add (f 21).neg := h.at' 21 (by decide)
  have e22 : f' 22 = ((f' 23).add (pick2 ks (-1) (f 12) (f 21))).add (f 22).neg := h.at' 22 (by decide)
  have e23 : f' 23 = ((f' 99).add (pick2 ks (-1) (f 13) (f 22))).add (f 23).neg := h.at' 23 (by decide)
  have a11 := congrArg φ e11
  have a12 := congrArg φ e12
  have a13 := congrArg φ e13
  have a21 := congrArg φ e21
  have a22 := congrArg φ e22
  have a23 := congrArg φ e23
  rw [E.add, E.add, E.neg, E.lo _ (k' 21 (by decide)) _ (k' 12 (by decide))] at a11
  rw [E.add, E.add, E.neg, E.lo _ (k' 22 (by decide)) _ (k' 13 (by decide))] at a12
  rw [E.add, E.add, E.neg] at a13 a21
  rw [E.add, E.add, E.neg, E.hi _ (h' 12 (by decide)) _ (h' 21 (by decide))] at a22
  rw [E.add, E.add, E.neg, E.hi _ (h' 13 (by decide)) _ (h' 22 (by decide)), e99, Int.max_comm] at a23
  exact ⟨a23, a22, a21, a13, a12, a11⟩
theorem T6t_of (E : Emb ks l φ) (h : TurnR bd2 ks f f') (h' : ∀ c ∈ bd2, f c ∈ l) (k' : ∀ c ∈ bd2, f' c ∈ l) :
    T6 (φ (f 0)) (φ (f 99)) (φ (f 11)) (φ (f 21)) (φ (f 31)) (φ (f 12)) (φ (f 22)) (φ (f 32)) (φ (f' 11)) (φ (f' 21)) (φ (f' 31)) (φ (f' 12)) (φ (f' 22)) (φ (f' 32)) := by
  have e0 := h.lo
  have e99 := h.hi
  have e11 : f' 11 = ((pick2 ks 1 (f' 21) (f' 12)).add (f 0)).add (f 11).neg := h.at' 11 (by decide)
  have e21 : f' 21 = ((pick2 ks 1 (f' 31) (f' 22)).add (f 11)).add (f 21).neg := h.at' 21 (by decide)
  have e31 : f' 31 = ((f' 32).add (f 21)).add (f 31).neg := h.at' 31 (by decide)
  have e12 : f' 12 = ((f' 22).add (f 11)).add (f 12).neg := h.at' 12 (by decide)
  have e22 : f' 22 = ((f' 32).add (pick2 ks (-1) (f 12) (f 21))).add (f 22).neg := h.at' 22 (by decide)
  have e32 : f' 32 = ((f' 99).add (pick2 ks (-1) (f 22) (f 31))).add (f 32).neg := h.at' 32 (by decide)
  have a11 := congrArg φ e11
  have a12 := congrArg φ e12
  have a31 := congrArg φ e31
  have a21 := congrArg φ e21
  have a22 := congrArg φ e22
  have a32 := congrArg φ e32
  rw [E.add, E.add, E.neg, E.lo _ (k' 21 (by decide)) _ (k' 12 (by decide)), Int.min_comm] at a11
  rw [E.add, E.add, E.neg, E.lo _ (k' 31 (by decide)) _ (k' 22 (by decide)), Int.min_comm] at a21
  rw [E.add, E.add, E.neg] at a12 a31
  rw [E.add, E.add, E.neg, E.hi _ (h' 12 (by decide)) _ (h' 21 (by decide)), Int.max_comm] at a22
  rw [E.add, E.add, E.neg, E.hi _ (h' 22 (by decide)) _ (h' 31 (by decide)), e99] at a32
  exact ⟨a32, a22, a12, a31, a21, a11⟩
/-- all rows of five profiles -/
def allR (bs : List Int) (g : Nat → Int → Row) : List Row := (List.range 6).flatMap fun i => bs.flatMap fun c => [g i c, homeR (g 0 0) (g 0 99) (g i c)]
theorem allR_mem {bs : List Int} {g : Nat → Int → Row} {i : Nat} {c : Int} (hi : i < 6) (hc : c ∈ bs) : g i c ∈ allR bs g ∧ homeR (g 0 0) (g 0 99) (g i c) ∈ allR bs g := by
  constructor <;> refine List.mem_flatMap.mpr ⟨i, List.mem_range.mpr hi, List.mem_flatMap.mpr ⟨c, hc, ?_⟩⟩
  · exact .head _
  · exact .tail _ (.head _)
/-- a chain of turns, the ground and the roof carried along -/
structure Chain (bs : List Int) (ks : List Key) (g : Nat → Int → Row) (n : Nat) : Prop where
  turn : ∀ t, t < n → TurnR bs ks (g t) (g (t + 1))
theorem Chain.ends {bs : List Int} {g : Nat → Int → Row} {n : Nat} (h : Chain bs ks g n) : ∀ t, t ≤ n → g t 0 = g 0 0 ∧ g t 99 = g 0 99
  | 0, _ => ⟨rfl, rfl⟩
  | t + 1, ht => by
    have r := h.ends t (by omega)
    have q := h.turn t (by omega)
    exact ⟨q.lo.trans r.1, q.hi.trans r.2⟩
theorem recip0 (hk : KeysOk ks) {g : Nat → Int → Row} {c d : Int} {n : Nat} (h : Chain bd0 ks g n) (hn : n ≤ 5) (hc : c ∈ bd0) (hr : rk c = n) (hd : d = 33 - c) : g n c = homeR (g 0 0) (g 0 99) (g 0 d) := by
  obtain ⟨φ, E⟩ := emb hk (allR bd0 g)
  have hd' : d ∈ bd0 := by subst hd; simp only [bd0, List.mem_cons, List.not_mem_nil, or_false] at hc; rcases hc with rfl | rfl | rfl | rfl <;> decide
  refine E.inj _ (allR_mem (by omega) hc).1 _ (allR_mem (by omega) hd').2 ?_
  rw [E.home]
  have T : ∀ t, t < n → T4 (φ (g 0 0)) (φ (g 0 99)) (φ (g t 11)) (φ (g t 12)) (φ (g t 21)) (φ (g t 22)) (φ (g (t+1) 11)) (φ (g (t+1) 12)) (φ (g (t+1) 21)) (φ (g (t+1) 22)) := fun t ht => by
    have z := T4_of E (h.turn t ht) (allR_mem (by omega) (by decide)).1 (allR_mem (by omega) (by decide)).1 (allR_mem (by omega) (by decide)).1 (allR_mem (by omega) (by decide)).1
    rw [(h.ends t (by omega)).1, (h.ends t (by omega)).2] at z
    exact z
  subst hd
  simp only [bd0, List.mem_cons, List.not_mem_nil, or_false] at hc
  rcases hc with rfl | rfl | rfl | rfl
  · obtain rfl : n = 1 := (Int.ofNat.inj (show Int.ofNat 1 = Int.ofNat n from hr)).symm
    exact (T 0 (by decide)).c11
  · obtain rfl : n = 2 := (Int.ofNat.inj (show Int.ofNat 2 = Int.ofNat n from hr)).symm
    exact (T 0 (by decide)).c12 (T 1 (by decide))
  · obtain rfl : n = 2 := (Int.ofNat.inj (show Int.ofNat 2 = Int.ofNat n from hr)).symm
    exact (T 0 (by decide)).c21 (T 1 (by decide))
  · obtain rfl : n = 3 := (Int.ofNat.inj (show Int.ofNat 3 = Int.ofNat n from hr)).symm
    exact (T 0 (by decide)).c22 (T 1 (by decide)) (T 2 (by decide))
theorem recip1 (hk : KeysOk ks) {g : Nat → Int → Row} {c d : Int} {n : Nat} (h : Chain bd1 ks g n) (hn : n ≤ 5) (hc : c ∈ bd1) (hr : rk c = n) (hd : d = 34 - c) : g n c = homeR (g 0 0) (g 0 99) (g 0 d) := by
  obtain ⟨φ, E⟩ := emb hk (allR bd1 g)
  have hd' : d ∈ bd1 := by subst hd; simp only [bd1, List.mem_cons, List.not_mem_nil, or_false] at hc; rcases hc with rfl | rfl | rfl | rfl | rfl | rfl <;> decide
  refine E.inj _ (allR_mem (by omega) hc).1 _ (allR_mem (by omega) hd').2 ?_
  rw [E.home]
  have T : ∀ t, t < n → T6 (φ (g 0 0)) (φ (g 0 99)) (φ (g t 11)) (φ (g t 12)) (φ (g t 13)) (φ (g t 21)) (φ (g t 22)) (φ (g t 23)) (φ (g (t+1) 11)) (φ (g (t+1) 12)) (φ (g (t+1) 13)) (φ (g (t+1) 21)) (φ (g (t+1) 22)) (φ (g (t+1) 23)) := fun t ht => by
    have z := T6_of E (h.turn t ht) (fun c hc => (allR_mem (by omega) hc).1) (fun c hc => (allR_mem (by omega) hc).1)
    rw [(h.ends t (by omega)).1, (h.ends t (by omega)).2] at z
    exact z
  subst hd
  simp only [bd1, List.mem_cons, List.not_mem_nil, or_false] at hc
  rcases hc with rfl | rfl | rfl | rfl | rfl | rfl
  · obtain rfl : n = 1 := (Int.ofNat.inj (show Int.ofNat 1 = Int.ofNat n from hr)).symm
    exact (T 0 (by decide)).c11
  · obtain rfl : n = 2 := (Int.ofNat.inj (show Int.ofNat 2 = Int.ofNat n from hr)).symm
    exact (T 0 (by decide)).c12 (T 1 (by decide))
  · obtain rfl : n = 3 := (Int.ofNat.inj (show Int.ofNat 3 = Int.ofNat n from hr)).symm
    exact (T 0 (by decide)).c13 (T 1 (by decide)) (T 2 (by decide))
  · obtain rfl : n = 2 := (Int.ofNat.inj (show Int.ofNat 2 = Int.ofNat n from hr)).symm
    exact (T 0 (by decide)).c21 (T 1 (by decide))
  · obtain rfl : n = 3 := (Int.ofNat.inj (show Int.ofNat 3 = Int.ofNat n from hr)).symm
    exact (T 0 (by decide)).c22 (T 1 (by decide)) (T 2 (by decide))
  · obtain rfl : n = 4 := (Int.ofNat.inj (show Int.ofNat 4 = Int.ofNat n from hr)).symm
    exact (T 0 (by decide)).c23 (T 1 (by decide)) (T 2 (by decide)) (T 3 (by decide))
theorem recip2 (hk : KeysOk ks) {g : Nat → Int → Row} {c d : Int} {n : Nat} (h : Chain bd2 ks g n) (hn : n ≤ 5) (hc : c ∈ bd2) (hr : rk c = n) (hd : d = 43 - c) : g n c = homeR (g 0 0) (g 0 99) (g 0 d) := by
  obtain ⟨φ, E⟩ := emb hk (allR bd2 g)
  have hd' : d ∈ bd2 := by subst hd; simp only [bd2, List.mem_cons, List.not_mem_nil, or_false] at hc; rcases hc with rfl | rfl | rfl | rfl | rfl | rfl <;> decide
  refine E.inj _ (allR_mem (by omega) hc).1 _ (allR_mem (by omega) hd').2 ?_
  rw [E.home]
  have T : ∀ t, t < n → T6 (φ (g 0 0)) (φ (g 0 99)) (φ (g t 11)) (φ (g t 21)) (φ (g t 31)) (φ (g t 12)) (φ (g t 22)) (φ (g t 32)) (φ (g (t+1) 11)) (φ (g (t+1) 21)) (φ (g (t+1) 31)) (φ (g (t+1) 12)) (φ (g (t+1) 22)) (φ (g (t+1) 32)) := fun t ht => by
    have z := T6t_of E (h.turn t ht) (fun c hc => (allR_mem (by omega) hc).1) (fun c hc => (allR_mem (by omega) hc).1)
    rw [(h.ends t (by omega)).1, (h.ends t (by omega)).2] at z
    exact z
  subst hd
  simp only [bd2, List.mem_cons, List.not_mem_nil, or_false] at hc
  rcases hc with rfl | rfl | rfl | rfl | rfl | rfl
  · obtain rfl : n = 1 := (Int.ofNat.inj (show Int.ofNat 1 = Int.ofNat n from hr)).symm
    exact (T 0 (by decide)).c11
  · obtain rfl : n = 2 := (Int.ofNat.inj (show Int.ofNat 2 = Int.ofNat n from hr)).symm
    exact (T 0 (by decide)).c21 (T 1 (by decide))
  · obtain rfl : n = 2 := (Int.ofNat.inj (show Int.ofNat 2 = Int.ofNat n from hr)).symm
    exact (T 0 (by decide)).c12 (T 1 (by decide))
  · obtain rfl : n = 3 := (Int.ofNat.inj (show Int.ofNat 3 = Int.ofNat n from hr)).symm
    exact (T 0 (by decide)).c22 (T 1 (by decide)) (T 2 (by decide))
  · obtain rfl : n = 3 := (Int.ofNat.inj (show Int.ofNat 3 = Int.ofNat n from hr)).symm
    exact (T 0 (by decide)).c13 (T 1 (by decide)) (T 2 (by decide))
  · obtain rfl : n = 4 := (Int.ofNat.inj (show Int.ofNat 4 = Int.ofNat n from hr)).symm
    exact (T 0 (by decide)).c23 (T 1 (by decide)) (T 2 (by decide)) (T 3 (by decide))
/-- a board: its codes, the code of its top -/
def Board (bs : List Int) (tp : Int) : Prop := (bs = bd0 ∧ tp = 22) ∨ (bs = bd1 ∧ tp = 23) ∨ (bs = bd2 ∧ tp = 32)
theorem recip {bs : List Int} {tp : Int} (hb : Board bs tp) (hk : KeysOk ks) {g : Nat → Int → Row} {c : Int} {n j : Nat} (h : Chain bs ks g (n + j)) (hn : n ≤ 5) (hc : c ∈ bs) (hr : rk c = n) : g (n + j) c = homeR (g 0 0) (g 0 99) (g j (tp + 11 - c)) := by
  have h' : Chain bs ks (fun t => g (t + j)) n := ⟨fun t ht => by
    have := h.turn (t + j) (by omega)
    rwa [show t + j + 1 = t + 1 + j by omega] at this⟩
  have e := h.ends j (by omega)
  rcases hb with ⟨rfl, rfl⟩ | ⟨rfl, rfl⟩ | ⟨rfl, rfl⟩
  · have z := recip0 hk h' hn hc hr (d := 22 + 11 - c) (by omega)
    simp only [Nat.zero_add, e.1, e.2] at z
    exact z
  · have z := recip1 hk h' hn hc hr (d := 23 + 11 - c) (by omega)
    simp only [Nat.zero_add, e.1, e.2] at z
    exact z
  · have z := recip2 hk h' hn hc hr (d := 32 + 11 - c) (by omega)
    simp only [Nat.zero_add, e.1, e.2] at z
    exact z
end
end Mine
end
section
namespace Mine
def newR (ks : List Key) (bs : List Int) (up dn f : Int → Row) (c : Int) : Row := ((pickL ks 1 up (nearL bs c 1)).add (pickL ks (-1) dn (nearL bs c (-1)))).add (f c).neg
/-- in the midst of a turn: dn is done -/
structure TurnInv (bs : List Int) (ks : List Key) (f0 f : Int → Row) (dn : List Int) : Prop where
  lo : f 0 = f0 0
  hi : f 99 = f0 99
  top : 99 ∈ dn
  old : ∀ c ∈ bs, c ∉ dn → f c = f0 c
  up : ∀ c ∈ bs, c ∈ dn → ∀ u ∈ nearL bs c 1, u ∈ dn
  val : ∀ c ∈ bs, c ∈ dn → f c = newR ks bs f f0 f0 c
def updF (f : Int → Row) (c : Int) (r : Row) : Int → Row := fun d => if d = c then r else f d
theorem pickL_congr {ks : List Key} {way : Int} {f g : Int → Row} {l : List Int} (h0 : f 0 = g 0) (h : ∀ d ∈ l, f d = g d) : pickL ks way f l = pickL ks way g l := by
  unfold pickL
  split
  · exact h0
  · exact h _ (.head _)
  · rw [h _ (.head _), h _ (.tail _ (.head _))]
theorem newR_congr {ks : List Key} {bs : List Int} {up up' dn dn' f f' : Int → Row} {c : Int} (h0 : up 0 = up' 0) (h1 : ∀ d ∈ nearL bs c 1, up d = up' d) (k0 : dn 0 = dn' 0) (k1 : ∀ d ∈ nearL bs c (-1), dn d = dn' d) (e : f c = f' c) : newR ks bs up dn f c = newR ks bs up' dn' f' c := by
  unfold newR
  rw [pickL_congr h0 h1, pickL_congr k0 k1, e]
theorem Board.down {bs : List Int} {tp : Int} (hb : Board bs tp) : ∀ c ∈ bs, ∀ d ∈ nearL bs c (-1), d = 0 ∨ (d ∈ bs ∧ c ∈ nearL bs d 1) := by
  rcases hb with ⟨rfl, rfl⟩ | ⟨rfl, rfl⟩ | ⟨rfl, rfl⟩ <;> decide
theorem Board.off {bs : List Int} {tp : Int} (hb : Board bs tp) : ∀ c ∈ bs, c ≠ 0 ∧ c ≠ 99 := by
  rcases hb with ⟨rfl, rfl⟩ | ⟨rfl, rfl⟩ | ⟨rfl, rfl⟩ <;> decide
theorem Board.nodup {bs : List Int} {tp : Int} (hb : Board bs tp) : bs.Nodup := by
  rcases hb with ⟨rfl, rfl⟩ | ⟨rfl, rfl⟩ | ⟨rfl, rfl⟩ <;> decide
theorem TurnInv.start {bs : List Int} {tp : Int} {ks : List Key} (hb : Board bs tp) (f : Int → Row) : TurnInv bs ks f f [99] :=
  ⟨rfl, rfl, .head _, fun _ _ _ => rfl, fun c hc h => absurd (List.mem_singleton.mp h) (hb.off c hc).2, fun c hc h => absurd (List.mem_singleton.mp h) (hb.off c hc).2⟩
theorem TurnInv.step {bs : List Int} {tp : Int} {ks : List Key} (hb : Board bs tp) {f0 f : Int → Row} {dn : List Int} (h : TurnInv bs ks f0 f dn) {c : Int} (hc : c ∈ bs) (hn : c ∉ dn) (hu : ∀ u ∈ nearL bs c 1, u ∈ dn) : TurnInv bs ks f0 (updF f c (newR ks bs f f f c)) (dn ++ [c]) := by
  have o := hb.off c hc
  have lo' : updF f c (newR ks bs f f f c) 0 = f 0 := if_neg (fun e => o.1 e.symm)
  have hi' : updF f c (newR ks bs f f f c) 99 = f 99 := if_neg (fun e => o.2 e.symm)
  have eq : ∀ d, d ≠ c → updF f c (newR ks bs f f f c) d = f d := fun d hd => if_neg hd
  have eup : ∀ d ∈ dn, updF f c (newR ks bs f f f c) d = f d := fun d hd => eq d fun e => hn (e ▸ hd)
  refine ⟨lo'.trans h.lo, hi'.trans h.hi, List.mem_append_left _ h.top, fun d hd hnd => ?_, fun d hd hdd u hu' => ?_, fun d hd hdd => ?_⟩
  · rw [eq d fun e => hnd (List.mem_append_right _ (List.mem_singleton.mpr e))]
    exact h.old d hd fun e => hnd (List.mem_append_left _ e)
  · rcases List.mem_append.mp hdd with hdd | hdd
    · exact List.mem_append_left _ (h.up d hd hdd u hu')
    · rw [List.mem_singleton.mp hdd] at hu'
      exact List.mem_append_left _ (hu u hu')
  · rcases List.mem_append.mp hdd with hdd | hdd
    · rw [eup d hdd, h.val d hd hdd]
      exact newR_congr lo'.symm (fun u hu' => (eup u (h.up d hd hdd u hu')).symm) rfl (fun _ _ => rfl) rfl
    · rw [List.mem_singleton.mp hdd]
      have e1 : updF f c (newR ks bs f f f c) c = newR ks bs f f f c := if_pos rfl
      rw [e1]
      refine newR_congr lo'.symm (fun u hu' => (eup u (hu u hu')).symm) h.lo (fun d hd => ?_) (h.old c hc hn)
      rcases hb.down c hc d hd with rfl | ⟨hdb, hcd⟩
      · exact h.lo
      · exact h.old d hdb fun hdd => hn (h.up d hdb hdd c hcd)
theorem TurnInv.fin {bs : List Int} {ks : List Key} {f0 f : Int → Row} {dn : List Int} (h : TurnInv bs ks f0 f dn) (ha : ∀ c ∈ bs, c ∈ dn) : TurnR bs ks f0 f :=
  ⟨h.lo, h.hi, fun c hc => h.val c hc (ha c hc)⟩
def cnt (bs dn : List Int) : Nat := (bs.filter fun c => decide (c ∈ dn)).length
theorem cnt_skip {dn : List Int} {c : Int} : ∀ {bs : List Int}, c ∉ bs → cnt bs (dn ++ [c]) = cnt bs dn
  | [], _ => rfl
  | b :: bs, h => by
    have ih := cnt_skip (dn := dn) (fun e => h (.tail _ e) : c ∉ bs)
    have hbc : b ≠ c := fun e => h (e ▸ .head _)
    unfold cnt at ih ⊢
    have e : decide (b ∈ dn ++ [c]) = decide (b ∈ dn) := by
      simp only [List.mem_append, List.mem_singleton, hbc, or_false]
    rw [List.filter_cons, List.filter_cons, e]
    split
    · rw [List.length_cons, List.length_cons, ih]
    · exact ih
theorem cnt_step {dn : List Int} {c : Int} : ∀ {bs : List Int}, bs.Nodup → c ∈ bs → c ∉ dn → cnt bs (dn ++ [c]) = cnt bs dn + 1
  | b :: bs, hd, hc, hn => by
    obtain ⟨h1, h2⟩ := List.nodup_cons.mp hd
    rcases List.mem_cons.mp hc with rfl | hc
    · have ih := cnt_skip (dn := dn) h1
      unfold cnt at ih ⊢
      rw [List.filter_cons, List.filter_cons, if_pos (by simp), if_neg (by simpa using hn), List.length_cons, ih]
    · have ih := cnt_step h2 hc hn
      have hbc : b ≠ c := fun e => h1 (e ▸ hc)
      unfold cnt at ih ⊢
      have e : decide (b ∈ dn ++ [c]) = decide (b ∈ dn) := by
        simp only [List.mem_append, List.mem_singleton, hbc, or_false]
      rw [List.filter_cons, List.filter_cons, e]
      split
      · rw [List.length_cons, List.length_cons, ih]
      · exact ih
theorem cnt_full {bs dn : List Int} (h : cnt bs dn = bs.length) : ∀ c ∈ bs, c ∈ dn := fun c hc => by
  have := List.length_filter_eq_length_iff.mp h c hc
  exact of_decide_eq_true this
theorem cnt_all {bs dn : List Int} (h : ∀ c ∈ bs, c ∈ dn) : cnt bs dn = bs.length :=
  List.length_filter_eq_length_iff.mpr fun c hc => decide_eq_true (h c hc)
theorem cnt_start {bs : List Int} {tp : Int} (hb : Board bs tp) : cnt bs [99] = 0 := by
  rcases hb with ⟨rfl, rfl⟩ | ⟨rfl, rfl⟩ | ⟨rfl, rfl⟩ <;> decide
/-- who may come next -/
def isRdy (bs dn : List Int) (c : Int) : Bool := decide (c ∉ dn) && decide ((nearL bs c 1).filter (fun o => decide (o ∉ dn)) = [])
theorem isRdy_iff {bs dn : List Int} {c : Int} : isRdy bs dn c = true ↔ c ∉ dn ∧ ∀ u ∈ nearL bs c 1, u ∈ dn := by
  unfold isRdy
  rw [Bool.and_eq_true, decide_eq_true_eq, decide_eq_true_eq, List.filter_eq_nil_iff]
  refine and_congr Iff.rfl ⟨fun h u hu => ?_, fun h u hu => ?_⟩
  · have := h u hu
    rw [decide_eq_true_eq] at this
    exact Decidable.not_not.mp this
  · rw [decide_eq_true_eq]
    exact fun g => g (h u hu)
theorem rdy_all {bs dn : List Int} {tp : Int} (hb : Board bs tp) (h99 : 99 ∈ dn) (h : bs.filter (isRdy bs dn) = []) : ∀ c ∈ bs, c ∈ dn := by
  have k : ∀ c ∈ bs, (∀ u ∈ nearL bs c 1, u ∈ dn) → c ∈ dn := fun c hc hu => by
    rw [List.filter_eq_nil_iff] at h
    have := h c hc
    rw [isRdy_iff] at this
    exact Decidable.not_not.mp fun g => this ⟨g, hu⟩
  have one : ∀ {c d : Int}, c ∈ bs → nearL bs c 1 = [d] → d ∈ dn → c ∈ dn := fun hc e hd => k _ hc fun u hu => by
    rw [e] at hu; rw [List.mem_singleton.mp hu]; exact hd
  have two : ∀ {c d d' : Int}, c ∈ bs → nearL bs c 1 = [d, d'] → d ∈ dn → d' ∈ dn → c ∈ dn := fun hc e hd hd' => k _ hc fun u hu => by
    rw [e] at hu
    rcases List.mem_cons.mp hu with rfl | hu
    · exact hd
    · rw [List.mem_singleton.mp hu]; exact hd'
  rcases hb with ⟨rfl, rfl⟩ | ⟨rfl, rfl⟩ | ⟨rfl, rfl⟩
  · have h22 := one (c := 22) (d := 99) (by decide) (by decide) h99
    have h12 := one (c := 12) (d := 22) (by decide) (by decide) h22
    have h21 := one (c := 21) (d := 22) (by decide) (by decide) h22
    have h11 := two (c := 11) (d := 21) (d' := 12) (by decide) (by decide) h21 h12
    intro c hc
    simp only [bd0, List.mem_cons, List.not_mem_nil, or_false] at hc
    rcases hc with rfl | rfl | rfl | rfl <;> assumption
  · have h23 := one (c := 23) (d := 99) (by decide) (by decide) h99
    have h13 := one (c := 13) (d := 23) (by decide) (by decide) h23
    have h22 := one (c := 22) (d := 23) (by decide) (by decide) h23
    have h12 := two (c := 12) (d := 22) (d' := 13) (by decide) (by decide) h22 h13
    have h21 := one (c := 21) (d := 22) (by decide) (by decide) h22
    have h11 := two (c := 11) (d := 21) (d' := 12) (by decide) (by decide) h21 h12
    intro c hc
    simp only [bd1, List.mem_cons, List.not_mem_nil, or_false] at hc
    rcases hc with rfl | rfl | rfl | rfl | rfl | rfl <;> assumption
  · have h32 := one (c := 32) (d := 99) (by decide) (by decide) h99
    have h31 := one (c := 31) (d := 32) (by decide) (by decide) h32
    have h22 := one (c := 22) (d := 32) (by decide) (by decide) h32
    have h21 := two (c := 21) (d := 31) (d' := 22) (by decide) (by decide) h31 h22
    have h12 := one (c := 12) (d := 22) (by decide) (by decide) h22
    have h11 := two (c := 11) (d := 21) (d' := 12) (by decide) (by decide) h21 h12
    intro c hc
    simp only [bd2, List.mem_cons, List.not_mem_nil, or_false] at hc
    rcases hc with rfl | rfl | rfl | rfl | rfl | rfl <;> assumption
theorem rdy_pos {bs dn : List Int} {tp : Int} (hb : Board bs tp) (h99 : 99 ∈ dn) (h : cnt bs dn < bs.length) : 0 < (bs.filter (isRdy bs dn)).length := by
  rcases Nat.eq_zero_or_pos (bs.filter (isRdy bs dn)).length with e | e
  · have := cnt_all (rdy_all hb h99 (List.eq_nil_of_length_eq_zero e))
    omega
  · exact e
end Mine
end
section
open PySem PySem.W PySem.Spec PySem.Calls PyProof.Rows
namespace Mine
open AutoSeq1 (wpAny_loadPart')
open MeetsSeq MeetsSeq2 MeetsSeq3 SeqRoads2
section
variable {prog : Program} {w : World} {A : Around} {s : Shared}
/-- in this world v == x comes out true -/
def EqW (prog : Program) (w : World) (A : Around) (s : Shared) (y x : Value) : Prop :=
  ∀ (E : Value → Shared → Prop) (Q : Bool → Shared → Prop), Q true s → wpAny (model prog w) A (eqBool y x) Q E s
theorem EqW.at {y x : Value} (h : SeqAt.EqAt A s y x true) : EqW prog w A s y x := fun E Q hq => h prog w E Q hq
theorem EqW.int (a : Int) (t u : Tok) : EqW prog w A s (.int a t) (.int a u) := by
  have h := SeqAt.EqAt.int_int (A := A) (s := s) a t a u
  rw [beq_self_eq_true] at h
  exact EqW.at h
theorem EqW.refs {l b : Addr} (h : l ≠ b → ∀ (E : Value → Shared → Prop) (Q : Value → Shared → Prop), Q (.bool true) s → wpAny (model prog w) A (richCompare .Eq (.ref l) (.ref b)) Q E s) : EqW prog w A s (.ref l) (.ref b) := by
  by_cases hne : l = b
  · subst hne
    exact EqW.at (SeqAt.EqAt.same _)
  · intro E Q hq
    unfold eqBool
    refine wpAny_holding ?_
    refine wpAny_ite_split (fun hab => absurd (by have := eq_of_beq hab; injection this) hne) (fun _ => ?_)
    exact wpAny_bind (h hne E _ (wpAny_truthy_bool hq))
theorem tup_ints {q q' : Addr} {vs us : List Value} {is : List Int} (hq : s.heap.IsTuple q vs.toArray) (hq' : s.heap.IsTuple q' us.toArray) (hi : IntsAre vs is) (hi' : IntsAre us is) (hu : A.units < cLine) : SeqAt.EqAt A s (.ref q) (.ref q') true := by
  by_cases hne : q = q'
  · subst hne; exact SeqAt.EqAt.same _
  refine SeqAt.EqAt.of_refs hne ?_
  have hl : vs.length = us.length := hi.length.trans hi'.length.symm
  have z := SeqAt.RcAt.tuples (e := fun _ => true) hq hq' hu fun j h1 h2 => by
    have h1' : j < vs.length := by simpa using h1
    obtain ⟨t, e1⟩ := hi.get j is[j]! (by rw [List.getElem!_eq_getElem?_getD, List.getElem?_eq_getElem (by rw [← hi.length]; exact h1')]; rfl)
    obtain ⟨t', e2⟩ := hi'.get j is[j]! (by rw [List.getElem!_eq_getElem?_getD, List.getElem?_eq_getElem (by rw [← hi.length]; exact h1')]; rfl)
    have f1 : vs.toArray[j] = Value.int is[j]! t := by
      have := e1; rw [List.getElem?_eq_getElem h1'] at this; simpa using Option.some.inj this
    have f2 : us.toArray[j] = Value.int is[j]! t' := by
      have := e2; rw [List.getElem?_eq_getElem (hl ▸ h1')] at this; simpa using Option.some.inj this
    rw [f1, f2]
    have h := SeqAt.EqAt.int_int (A := A.in1) (s := s) is[j]! t is[j]! t'
    rwa [beq_self_eq_true] at h
  have ht : ∀ k : Nat, ((List.range k).all fun _ => true) = true := fun k => List.all_eq_true.mpr fun _ _ => rfl
  rw [ht, Bool.true_and] at z
  have e : (vs.toArray.size == us.toArray.size) = true := by simpa using hl
  rwa [e] at z
variable {h₀ : Heap} {L : Addr} {news : Led}
theorem units_in1 : A.in1.units ≤ A.units + 1 := by first | exact Nat.le_refl _ | exact Nat.le_succ _ | (unfold Around.in1; split <;> simp)
theorem cal_eqW {v v' : Value} {r : Row} (N : News h₀ L s.heap news) (h1 : CalIn prog w news v r) (h2 : CalIn prog w news v' r) (hu : A.units + 4 < cLine) (hu1 : A.in1.units + 4 < cLine) : EqW prog w A s v v' := by
  cases h1 with | @mk d q o t4 t5 t6 t7 th _ hd lo hD hq =>
  cases h2 with | @mk d' q' o' u4 u5 u6 u7 uh _ hd' lo' hD' hq' =>
  refine EqW.refs fun hne E Q hQ => ?_
  refine keq_pairs (knd := PySem.strKind prog w) N hd hd' hD hD' lo lo' rfl (Nat.lt_of_le_of_lt (Nat.le_add_right _ 4) hu) (r := true && (true && true)) ?_ hQ
  refine .hit rfl (tup_ints (news_tup N hq) (news_tup N hq') (.cons _ _ (.cons _ _ (.cons _ _ (.cons _ _ .nil)))) (.cons _ _ (.cons _ _ (.cons _ _ (.cons _ _ .nil)))) (Nat.lt_of_le_of_lt (Nat.le_add_right _ 4) hu1)) (.hit rfl ?_ .nil)
  have h := SeqAt.EqAt.int_int (A := A.in1) (s := s) (2 * r.e - r.f) th (2 * r.e - r.f) uh
  rwa [beq_self_eq_true] at h
theorem tuple_neW (l b : Addr) (items items2 : Array Value) (n n2 : Nat) (dd dd2 : Option Addr) (sl sl2 : Array (Option Value)) (hsz : items.size = items2.size) :
    MeetsIn prog w (Builtin.«tuple.__ne__» ⟨[.ref l, .ref b], []⟩)
      (fun A R s => s.heap.get? l = some { cls := .type "tuple", dict := dd, data := .seq items n, slots := sl } ∧ s.heap.get? b = some { cls := .type "tuple", dict := dd2, data := .seq items2 n2, slots := sl2 } ∧
        (∀ j (h1 : j < items.size) (h2 : j < items2.size), EqW prog w A.in1 s items[j] items2[j]) ∧ R (.ok (.ret (.bool false))) s) :=
  .of_wp fun A R s h => by
    obtain ⟨hp, g, d, tk, os⟩ := s; obtain ⟨hl, hb, he, h⟩ := h
    have f2 := AutoSeq1.sub_tuple_tuple
    wp_walk using wpAny_loadPart' hl, wpAny_loadPart' hb, wpAny_forIn_list _ (fun rest b s' => b.1 = none ∧ s' = ⟨hp, g, d, tk, os⟩ ∧ ∀ p ∈ rest, EqW prog w A.in1 ⟨hp, g, d, tk, os⟩ p.1 p.2) _
    case turn =>
      rintro ⟨y, x⟩ rest b s' ⟨hb', rfl, ha⟩
      refine wpAny_bind (ha (y, x) (.head _) _ _ ?_)
      wp_walk
      exact ⟨rfl, rfl, fun p hp => ha p (.tail _ hp)⟩
    case fin =>
      rintro ⟨b1, b2⟩ s' ⟨hb', rfl, -⟩
      simp only at hb'
      subst hb'
      wp_walk
      exact ⟨_, rfl, by simpa [Builtin.Tuple.tupleCompareSizes, hsz] using h⟩
    case h =>
      refine ⟨rfl, rfl, fun p hp => ?_⟩
      obtain ⟨j, hj, rfl⟩ := List.mem_iff_getElem.mp hp
      have h1 : j < items.size := by simp at hj; omega
      have h2 : j < items2.size := by simp at hj; omega
      have := he j h1 h2
      simpa using this
theorem tuple_ne {l b : Addr} {vs us : List Value} {E : Value → Shared → Prop} {Q : Value → Shared → Prop} (N : News h₀ L s.heap news) (hl : (l, tupO vs) ∈ news) (hb : (b, tupO us) ∈ news) (hsz : vs.length = us.length) (hu : A.units < cLine)
    (he : ∀ j (h1 : j < vs.length) (h2 : j < us.length), EqW prog w A.in1 s vs[j] us[j]) (h : Q (.bool false) s) : wpAny (model prog w) A (compareOp .NotEq (.ref l) (.ref b)) Q E s := by
  have ol := (N _ hl).1
  have ob := (N _ hb).1
  refine wpAny_richCompare_same_room (op := .NotEq) ⟨_, ol, rfl⟩ ⟨_, ob, rfl⟩ PySem.F.slot_tuple_ne (call_meetsIn PySem.F.slot_tuple_ne ⟨_, ol, rfl⟩ PySem.F.entry_tuple_ne (PySem.F.args_tuple_ne_2 _ _) (tuple_neW l b vs.toArray us.toArray 0 0 none none #[] #[] (by simpa using hsz)) ⟨ol, ob, fun j h1 h2 => ?_, show Value.bool false ≠ Value.notImplemented ∧ Q (.bool false) s from ⟨(fun x => nomatch x), h⟩⟩) hu
  have := he j (by simpa using h1) (by simpa using h2)
  simpa using this
theorem entry_ne {v v' : Value} {r : Row} {E : Value → Shared → Prop} {Q : Value → Shared → Prop} (N : News h₀ L s.heap news) (h1 : EntryIn prog w news v r) (h2 : EntryIn prog w news v' r) (hu : A.units + 9 < cLine) (h : Q (.bool false) s) : wpAny (model prog w) A (compareOp .NotEq v v') Q E s := by
  cases h1 with | @mk p1 d1 q1 o1 a0 a1 a2 a3 a4 a5 a6 a7 ah _ hp1 hd1 lo1 hD1 hq1 =>
  cases h2 with | @mk p2 d2 q2 o2 b0 b1 b2 b3 b4 b5 b6 b7 bh _ hp2 hd2 lo2 hD2 hq2 =>
  have u1 : A.in1.units ≤ A.units + 1 := units_in1
  have u2 : A.in1.in1.units ≤ A.in1.units + 1 := units_in1
  have hc := cal_eqW (A := A.in1) N (CalIn.mk hd1 lo1 hD1 hq1) (CalIn.mk hd2 lo2 hD2 hq2) (by omega) (by omega)
  refine tuple_ne N hp1 hp2 rfl (by omega) (fun j h1 h2 => ?_) h
  match j, h1, h2 with
  | 0, _, _ => exact EqW.int _ _ _
  | 1, _, _ => exact EqW.int _ _ _
  | 2, _, _ => exact EqW.int _ _ _
  | 3, _, _ => exact EqW.int _ _ _
  | 4, _, _ => exact hc
  | _ + 5, h1, _ => exact absurd h1 (by simp)
theorem ne_loopW (l b : Addr) (items items2 : Array Value) (n n2 : Nat) (dd dd2 : Option Addr) (sl sl2 : Array (Option Value)) (hsz : items.size = items2.size) (k : Nat) :
    ∀ i : Nat, items.size - i = k → MeetsIn prog w (Builtin.«list.__eq__.loop» ⟨[.ref l, .ref b, rawInt i, rawInt 3], []⟩)
      (fun A R s => s.heap.get? l = some { cls := .type "list", dict := dd, data := .seq items n, slots := sl } ∧ s.heap.get? b = some { cls := .type "list", dict := dd2, data := .seq items2 n2, slots := sl2 } ∧
        (∀ j (h1 : j < items.size) (h2 : j < items2.size), EqW prog w A.in1 s items[j] items2[j]) ∧ R (.ok (.ret (.bool false))) s) := by
  induction k with
  | zero =>
    intro i hk A R s h
    obtain ⟨hp, g, d, tk, os⟩ := s; obtain ⟨hl, hb, he, h⟩ := h
    wp_walk using wpAny_loadPart' hl, wpAny_loadPart' hb
    rw [show items[((i : Nat) : Int).toNat]? = none by simp; omega, show items2[((i : Nat) : Int).toNat]? = none by simp; omega]
    wp_walk using wpAny_loadPart' hl, wpAny_loadPart' hb
    show R (.ok (.ret (.bool (items.size != items2.size)))) _
    rw [show (items.size != items2.size) = false by simp [hsz]]
    exact h
  | succ k ih =>
    intro i hk A R s h
    obtain ⟨hp, g, d, tk, os⟩ := s; obtain ⟨hl, hb, he, h⟩ := h
    wp_walk using wpAny_loadPart' hl, wpAny_loadPart' hb
    have hlt : i < items.size := by omega
    have hlt2 : i < items2.size := by omega
    rw [show items[((i : Nat) : Int).toNat]? = some items[i] by simp [hlt], show items2[((i : Nat) : Int).toNat]? = some items2[i] by simp [hlt2]]
    refine wpAny_bind (he i hlt hlt2 _ _ ?_)
    wp_walk
    rw [show ((i : Int) + 1) = ((i + 1 : Nat) : Int) by push_cast; rfl]
    exact ⟨plainId_quiet plain_eq_loop _, codeAny_builtin entry_eq_loop (by
      rw [Around.under_plainId plain_eq_loop _]
      exact ih (i + 1) (by omega) A R _ ⟨hl, hb, he, h⟩)⟩
theorem list_neW (l b : Addr) (items items2 : Array Value) (n n2 : Nat) (dd dd2 : Option Addr) (sl sl2 : Array (Option Value)) (hsz : items.size = items2.size) :
    MeetsIn prog w (Builtin.«list.__ne__» ⟨[.ref l, .ref b], []⟩)
      (fun A R s => s.heap.get? l = some { cls := .type "list", dict := dd, data := .seq items n, slots := sl } ∧ s.heap.get? b = some { cls := .type "list", dict := dd2, data := .seq items2 n2, slots := sl2 } ∧
        (∀ j (h1 : j < items.size) (h2 : j < items2.size), EqW prog w A.in1 s items[j] items2[j]) ∧ R (.ok (.ret (.bool false))) s) := by
  intro A R s h
  obtain ⟨hp, g, d, tk, os⟩ := s; obtain ⟨hl, hb, he, h⟩ := h
  have f3 := AutoSeq1.sub_list_list
  have hne : ¬ (items.size != items2.size) = true := by simp [hsz]
  wp_walk using wpAny_loadPart' hl, wpAny_loadPart' hb
  exact ⟨plainId_quiet plain_eq_loop _, codeAny_builtin entry_eq_loop (by
    rw [Around.under_plainId plain_eq_loop _]
    exact ne_loopW l b items items2 n n2 dd dd2 sl sl2 hsz _ 0 rfl A R _ ⟨hl, hb, he, h⟩)⟩
theorem list_ne {l b : Addr} {nl nb : Nat} {vs us : List Value} {E : Value → Shared → Prop} {Q : Value → Shared → Prop} (N : News h₀ L s.heap news) (hl : (l, ({ cls := .type "list", data := .seq vs.toArray nl } : Obj)) ∈ news) (hb : (b, ({ cls := .type "list", data := .seq us.toArray nb } : Obj)) ∈ news) (hsz : vs.length = us.length) (hu : A.units < cLine)
    (he : ∀ j (h1 : j < vs.length) (h2 : j < us.length), EqW prog w A.in1 s vs[j] us[j]) (h : Q (.bool false) s) : wpAny (model prog w) A (compareOp .NotEq (.ref l) (.ref b)) Q E s := by
  have ol := (N _ hl).1
  have ob := (N _ hb).1
  refine wpAny_richCompare_same_room (op := .NotEq) ⟨_, ol, rfl⟩ ⟨_, ob, rfl⟩ PySem.F.slot_list_ne (call_meetsIn PySem.F.slot_list_ne ⟨_, ol, rfl⟩ PySem.F.entry_list_ne (PySem.F.args_list_ne_2 _ _) (list_neW l b vs.toArray us.toArray nl nb none none #[] #[] (by simpa using hsz)) ⟨ol, ob, fun j h1 h2 => ?_, show Value.bool false ≠ Value.notImplemented ∧ Q (.bool false) s from ⟨(fun x => nomatch x), h⟩⟩) hu
  have := he j (by simpa using h1) (by simpa using h2)
  simpa using this
end
end Mine
end
section
open PySem PySem.W PySem.Spec PySem.Calls PyProof.Rows
namespace Mine
open AutoSeq1 (wpAny_loadPart')
theorem plain_upd : plainId "dict.update.loop" = true := by decide +kernel
theorem entry_upd : entryFor table "dict.update.loop" = some Builtin.«dict.update.loop» := entryFor_of_tree (by kernel_rfl)
theorem list_no_keys : typeLookup (.type "list") "keys" = pure none := am_miss_of_fast (by kernel_rfl)
theorem keys_list {prog : Program} {w : World} {A : Around} {E : Value → Shared → Prop} {s : Shared} {a : Addr} {xs : Array Value} {k : Nat} {sl : Array (Option Value)} {Q : Option Value → Shared → Prop}
    (hx : s.heap.get? a = some { cls := .type "list", dict := none, data := .seq xs k, slots := sl }) (hA : A.handled = none)
    (h : ∀ h' tk, (∀ b o, s.heap.get? b = some o → h'.get? b = some o) → Q none { s with heap := h', toks := tk }) :
    wpAny (model prog w) A (getAttr? (.ref a) "keys") Q E s := by
  refine hide fun G' hG' => ?_
  obtain ⟨hp, g, d, tk, os⟩ := s
  refine hG' ?_
  clear hG' G'
  have hT : ∀ tk', (⟨hp, g, d, tk', os⟩ : Shared).TypeIs (.ref a) "list" := fun _ => ⟨_, hx, rfl⟩
  have f1 := sub_AttributeError
  have f3 := F.slot_list_getattribute.lookup
  have f4 := F.slot_list_getattribute.bind (.ref a)
  have f5 := am_list_getattr_none
  unfold getAttr? getAttrBy? getAttrBy
  repeat (any_goals (first | assumption | exact hT _ | ((with_reducible show wpAny _ _ (call (Value.builtin "list.__getattribute__") _ _) _ _ _); refine call_meets F.slot_list_getattribute (hT _) am_entry_list_getattribute (F.args_list_getattribute_2 _ _) (meets_getattribute_miss_list a xs k sl "keys" _ list_no_keys (by decide +kernel) (by rw [sizeLine_eq]; exact Nat.le_of_ble_eq_true rfl)) ⟨hx, hA, fun h' tk' e hx' => ?_⟩) | wp_step))
  refine hide fun G' hG' => ?_
  obtain ⟨t', u', he⟩ := hx'.there
  refine hG' ?_
  clear hG' G'
  show wpAny _ _ (getattributeRaised _ _ _ _ _ _ _) _ _ _
  unfold getattributeRaised
  repeat (any_goals (first | assumption | wp_step))
  exact h _ _ hx'.keeps
section
variable {prog : Program} {w : World}
theorem pairItems_tup {A : Around} {E : Value → Shared → Prop} {s : Shared} {q : Addr} {items : Array Value} {Q : List Value → Shared → Prop} (hq : s.heap.IsTuple q items) (h : Q items.toList s) : wpAny (model prog w) A (Builtin.Dict.pairItems (.ref q)) Q E s := by
  refine hide fun G' hG' => ?_
  obtain ⟨o, ho, hc, n, hd⟩ := id hq
  refine hG' ?_
  clear hG' G'
  unfold Builtin.Dict.pairItems
  refine wpAny_bind (wpAny_typeOf ⟨o, ho, hc⟩ ?_)
  rw [if_pos (by decide)]
  exact wpAny_bind (wpAny_seqItems ho hd (wpAny_pure h))
/-- items: references to pairs of the heap's -/
def PairsAt (h : Heap) (vs : List Value) (ps : List (Int × Value)) : Prop := vs.length = ps.length ∧ ∀ (j : Nat) (c : Int) (v : Value), ps[j]? = some (c, v) → ∃ q t, vs[j]? = some (Value.ref q) ∧ h.IsTuple q #[.int c t, v]
theorem valueAt_take {ps : List (Int × Value)} (hn : (ps.map (·.1)).Nodup) {i : Nat} {c : Int} {v : Value} (h : ps[i]? = some (c, v)) : valueAt (ps.take i) c = none := by
  have hlt : i < ps.length := by
    rcases Nat.lt_or_ge i ps.length with h' | h'
    · exact h'
    · rw [List.getElem?_eq_none h'] at h; cases h
  unfold valueAt
  rw [Option.map_eq_none_iff, List.find?_eq_none]
  rintro ⟨c', v'⟩ hm
  refine hide fun G' hG' => ?_
  obtain ⟨j, hj, e⟩ := List.mem_iff_getElem.mp hm
  refine hG' ?_
  clear hG' G'
  simp only [decide_eq_true_eq]
  intro ec
  have hji : j < i := by simp at hj; omega
  have e1 : (ps.map (·.1))[j]? = some c := by
    rw [List.getElem?_map, List.getElem?_eq_getElem (by omega)]
    rw [List.getElem_take] at e
    rw [e]; simp [ec]
  have e2 : (ps.map (·.1))[i]? = some c := by rw [List.getElem?_map, h]; rfl
  have := (List.getElem?_inj (by rw [List.length_map]; omega) hn).mp (e1.trans e2.symm)
  omega
theorem upd_loop {d I al : Addr} {vs : List Value} {ps : List (Int × Value)} (hdI : d ≠ I) (hal : al ≠ I) (hdl : al ≠ d) (hn : (ps.map (·.1)).Nodup) (hz : ps.length ≤ sizeLine) (nI : ∀ (j : Nat) (q : Addr), vs[j]? = some (Value.ref q) → q ≠ I ∧ q ≠ d) (k : Nat) :
    ∀ (i : Nat) (A : Around) (R : Result → Shared → Prop) (s : Shared), A.handled = none → ps.length - i = k → i ≤ ps.length → s.heap.IsListIter I al i → s.heap.IsList al vs.toArray → s.heap.DictOf (PySem.intKind prog w) d (ps.take i) → PairsAt s.heap vs ps →
      (∀ h' tk, h'.DictOf (PySem.intKind prog w) d ps → (∀ b o, b ≠ I → b ≠ d → s.heap.get? b = some o → h'.get? b = some o) → R (.ok (.ret .none)) { s with heap := h', toks := tk }) →
      codeAny (model prog w) A (.builtin "dict.update.loop" ⟨[.ref d, .ref I, rawInt i, .none], []⟩) R s := by
  induction k with
  | zero =>
    intro i A R s hA hk hi hit hl hd hp h
    have e : i = ps.length := by omega
    refine codeAny_builtin entry_upd ?_
    rw [Around.under_plainId plain_upd _]
    have W := Walks.list (prog := prog) (w := w) (A := A.in1) (by first | exact hA | (rw [← hA]; rfl)) I al hal vs.toArray
    unfold Builtin.«dict.update.loop»
    refine wpAny_bind (W.done s _ _ ⟨by rw [List.size_toArray, hp.1, ← e]; exact hit, hl⟩ fun h' tk hk' => ?_)
    show wpAny _ _ (Builtin.Dict.addKeywords d [] >>= _) _ _ _
    refine wpAny_bind (wpAny_pure (wpAny_pure (h h' tk ?_ fun b o hb _ e => hk' b o (by simpa using hb) e)))
    rw [e, List.take_length] at hd
    refine hide fun G' hG' => ?_
    obtain ⟨o, es, ep, ho, r⟩ := hd
    refine hG' ?_
    clear hG' G'
    exact ⟨o, es, ep, hk' d o (by simpa using hdI) ho, r⟩
  | succ k ih =>
    intro i A R s hA hk hi hit hl hd hp h
    have hlt : i < ps.length := by omega
    refine codeAny_builtin entry_upd ?_
    rw [Around.under_plainId plain_upd _]
    have W := Walks.list (prog := prog) (w := w) (A := A.in1) (by first | exact hA | (rw [← hA]; rfl)) I al hal vs.toArray
    unfold Builtin.«dict.update.loop»
    refine wpAny_bind (W.item i s _ _ (by simpa [hp.1] using hlt) ⟨hit, hl⟩ fun v h' tk hP hSt hk' => ?_)
    obtain ⟨c, u, hc⟩ : ∃ c u, ps[i]? = some (c, u) := ⟨_, _, List.getElem?_eq_getElem hlt⟩
    refine hide fun G' hG' => ?_
    obtain ⟨q, t, e1, hq⟩ := hp.2 i c u hc
    refine hG' ?_
    clear hG' G'
    have ev : v = .ref q := by
      have := hP.symm.trans (by simpa using e1); exact Option.some.inj this
    subst ev
    have keep1 : ∀ b o, b ≠ I → s.heap.get? b = some o → h'.get? b = some o := fun b o hb e => hk' b o (by simpa using hb) e
    have hq' : h'.IsTuple q #[.int c t, u] := by
      refine hide fun G' hG' => ?_
      obtain ⟨o, ho, r⟩ := hq
      refine hG' ?_
      clear hG' G'
      exact ⟨o, keep1 q o (nI i q e1).1 ho, r⟩
    have hd' : h'.DictOf (PySem.intKind prog w) d (ps.take i) := by
      refine hide fun G' hG' => ?_
      obtain ⟨o, es, ep, ho, r⟩ := hd
      refine hG' ?_
      clear hG' G'
      exact ⟨o, es, ep, keep1 d o hdI ho, r⟩
    have key : ∀ (Q : Unit → Shared → Prop), (∀ h'' tk', h''.DictOf (PySem.intKind prog w) d (ps.take (i + 1)) → Heap.SameBut d h' h'' → Q () { s with heap := h'', toks := tk' }) → wpAny (model prog w) A.in1 (dictSet d (.int c t) u) Q (fun e s' => R (.error e) s') { s with heap := h', toks := tk } := fun Q hQ => by
      refine wpAny_dictSet_pairs (knd := PySem.intKind prog w) (intKind_is prog w c t) hd' (fun h'' hd'' hs => hQ h'' _ ?_ hs) (by rw [List.length_take]; omega)
      rw [stored_absent (valueAt_take hn hc)] at hd''
      rw [List.take_add_one, hc]
      exact hd''
    show wpAny _ _ (do holding [.ref q] _; again _) _ _ _
    refine wpAny_bind (wpAny_holding (wpAny_bind (wpAny_tryCatch (pairItems_tup hq' ?_))))
    show wpAny _ _ (holding [.int c t, u] (dictSet d (.int c t) u)) _ _ _
    refine wpAny_holding (key _ fun h'' tk' hd'' hs => ?_)
    have keep2 : ∀ b o, b ≠ I → b ≠ d → s.heap.get? b = some o → h''.get? b = some o := fun b o hb hb' e => (hs.2 b hb').trans (keep1 b o hb e)
    refine wpAny_pure ⟨plainId_quiet plain_upd _, ?_⟩
    have ec : ((i : Int) + 1) = ((i + 1 : Nat) : Int) := by push_cast; rfl
    show codeAny _ _ (.builtin "dict.update.loop" ⟨[.ref d, .ref I, rawInt ((i : Int) + 1), .none], []⟩) _ _
    rw [ec]
    refine ih (i + 1) A R _ hA (by omega) hlt ?_ ?_ hd'' ⟨hp.1, fun j c v e => ?_⟩ fun h3 tk3 hd3 hk3 => h h3 tk3 hd3 fun b o hb hb' e => hk3 b o hb hb' (keep2 b o hb hb' e)
    · exact hSt.1.at fun o e => (hs.2 I (Ne.symm hdI)).trans e
    · exact hSt.2.at fun o e => (hs.2 al hdl).trans e
    · refine hide fun G' hG' => ?_
      obtain ⟨q, t, e1, o, ho, r⟩ := hp.2 j c v e
      refine hG' ?_
      clear hG' G'
      exact ⟨q, t, e1, o, keep2 q o (nI j q e1).1 (nI j q e1).2 ho, r⟩
theorem dict_pairs {A : Around} {E : Value → Shared → Prop} {s : Shared} {h₀ : Heap} {L l : Addr} {m : Str → Option Value} {news : Led} {vs : List Value} {n : Nat} {ps : List (Int × Value)} {Q : Value → Shared → Prop}
    (hA : A.handled = none) (F : Fr h₀ L s.heap m) (N : News h₀ L s.heap news) (hbig : h₀.NoLimit) (hm : (l, ({ cls := .type "list", data := .seq vs.toArray n } : Obj)) ∈ news) (hl : vs.length = ps.length)
    (hp : ∀ (j : Nat) (c : Int) (v : Value), ps[j]? = some (c, v) → ∃ q t, vs[j]? = some (Value.ref q) ∧ (q, tupO [.int c t, v]) ∈ news) (hn : (ps.map (·.1)).Nodup) (hz : ps.length ≤ sizeLine)
    (k : ∀ D h' tk o, Fr h₀ L h' m → News h₀ L h' ((D, o) :: news) → (∀ p ∈ news, p.1 < D) → (D == sysModules) = false → o.IsDictOf (PySem.intKind prog w) ps → Q (.ref D) { s with heap := h', toks := tk }) :
    wpAny (model prog w) A (call (.type "dict") [.ref l]) Q E s := by
  refine callType_codes (Q₁ := fun obj s₁ => obj = .ref s.heap.objs.size ∧ s₁ = { s with heap := s.heap.push { cls := .type "dict", data := .dict #[] } }) PySem.F.kt_called_dict (PySem.F.kt_typeCall_dict_1 _) PySem.F.entry_dict_init (kt_code_dict_new _ ⟨rfl, rfl⟩) ?_
  rintro obj s₁ ⟨rfl, rfl⟩
  have hnew : (s.heap.push { cls := .type "dict", data := .dict #[] }).DictOf (PySem.intKind prog w) s.heap.objs.size [] := Heap.DictOf.new s.heap
  have lt : ∀ p ∈ news, p.1 < s.heap.objs.size := fun p hp => Heap.lt_size (N p hp).1
  have g1 : ∀ b o, s.heap.get? b = some o → (s.heap.push { cls := .type "dict", data := .dict #[] }).get? b = some o := fun b o e => Heap.get?_push_of_some _ e
  have ol := g1 _ _ (N _ hm).1
  refine ⟨hnew.typeIs, PySem.F.args_dict_init_2 _ _, ?_⟩
  unfold Builtin.«dict.__init__»
  refine wpAny_bind ?_
  unfold Builtin.Dict.selfAndRest
  refine wpAny_bind (wpAny_notOrdered_dict hnew.typeIs ?_)
  show wpAny _ _ (pure (s.heap.objs.size, [Value.ref l])) _ _ _
  refine wpAny_pure ?_
  show wpAny _ _ (Builtin.Dict.updateFrom "dict.__init__" s.heap.objs.size (.ref l) [] .none) _ _ _
  unfold Builtin.Dict.updateFrom
  refine wpAny_bind (wpAny_typeOf ⟨_, ol, rfl⟩ ?_)
  rw [if_pos (by decide)]
  refine wpAny_bind (keys_list ol (by first | exact hA | (rw [← hA]; rfl)) fun h2 tk2 g2 => ?_)
  have z2 : s.heap.objs.size < h2.objs.size := by
    refine hide fun G' hG' => ?_
    obtain ⟨o, es, ep, ho, r⟩ := hnew
    refine hG' ?_
    clear hG' G'
    exact Heap.lt_size (g2 _ _ ho)
  show wpAny _ _ (do rule _; _) _ _ _
  refine wpAny_bind (wpAny_rule ?_)
  have hlist2 : h2.IsList l vs.toArray := ⟨_, g2 _ _ ol, rfl, n, rfl⟩
  refine wpAny_bind (wpAny_pyIter_list hlist2 ?_)
  have g3 : ∀ b o, h2.get? b = some o → (h2.push { cls := .type "list_iterator", data := .fields #[.ref l, .int 0 0] }).get? b = some o := fun b o e => Heap.get?_push_of_some _ e
  have g : ∀ b o, s.heap.get? b = some o → (h2.push { cls := .type "list_iterator", data := .fields #[.ref l, .int 0 0] }).get? b = some o := fun b o e => g3 _ _ (g2 _ _ (g1 _ _ e))
  have hll : l < s.heap.objs.size := lt _ hm
  refine wpAny_pure ⟨plainId_quiet plain_upd _, ?_⟩
  refine upd_loop (prog := prog) (w := w) (vs := vs) (ps := ps) (al := l) (Nat.ne_of_lt z2) (Nat.ne_of_lt (Nat.lt_trans hll z2)) (Nat.ne_of_lt hll) hn hz (fun j q e => ?_) _ 0 _ _ _ (by first | exact hA | (rw [← hA]; rfl)) rfl (Nat.zero_le _) ⟨_, Heap.get?_push_size _ rfl, rfl, rfl⟩ (hlist2.at fun o e => g3 _ _ e) ?_ ⟨hl, fun j c v e => ?_⟩ fun h' tk' hd' hk' => ?_
  · obtain ⟨hlt, _⟩ := List.getElem?_eq_some_iff.mp e
    rw [hl] at hlt
    obtain ⟨c, v, hc⟩ : ∃ c v, ps[j]? = some (c, v) := ⟨_, _, List.getElem?_eq_getElem hlt⟩
    refine hide fun G' hG' => ?_
    obtain ⟨q', t, e1, hq⟩ := hp j c v hc
    refine hG' ?_
    clear hG' G'
    have : q = q' := by have := e.symm.trans e1; simpa using this
    subst this
    exact ⟨Nat.ne_of_lt (Nat.lt_trans (lt _ hq) z2), Nat.ne_of_lt (lt _ hq)⟩
  · rw [List.take_zero]
    refine hide fun G' hG' => ?_
    obtain ⟨o, es, ep, ho, r⟩ := hnew
    refine hG' ?_
    clear hG' G'
    exact ⟨o, es, ep, g3 _ _ (g2 _ _ ho), r⟩
  · refine hide fun G' hG' => ?_
    obtain ⟨q, t, e1, hq⟩ := hp j c v e
    refine hG' ?_
    clear hG' G'
    exact ⟨q, t, e1, _, g _ _ (N _ hq).1, rfl, 0, rfl⟩
  · have hk : ∀ b o, s.heap.get? b = some o → h'.get? b = some o := fun b o e => hk' b o (Nat.ne_of_lt (Nat.lt_trans (Heap.lt_size e) z2)) (Nat.ne_of_lt (Heap.lt_size e)) (g b o e)
    refine hide fun G' hG' => ?_
    obtain ⟨o', ho', hd''⟩ := Heap.dictOf_iff.mp hd'
    refine hG' ?_
    clear hG' G'
    have N1 := News.push F N { cls := .type "dict", data := .dict #[] }
    refine ⟨rfl, k _ h' tk' o' (F.keeps hk) (fun p hp => ?_) lt (F.notModules (modules_low hbig)) hd''⟩
    rcases List.mem_cons.mp hp with rfl | hp
    · exact ⟨ho', (N1 _ (.head _)).2⟩
    · exact N.grown hk p hp
theorem dict_copy {A : Around} {E : Value → Shared → Prop} {s : Shared} {h₀ : Heap} {L d : Addr} {o : Obj} {m : Str → Option Value} {news : Led} {kvs : List (Str × Value)} {Q : Value → Shared → Prop}
    (F : Fr h₀ L s.heap m) (N : News h₀ L s.heap news) (hbig : h₀.NoLimit) (hD : o.IsDictOf (PySem.strKind prog w) kvs) (hd : (d, o) ∈ news) (lo : (d == sysModules) = false) (hz : kvs.length ≤ sizeLine)
    (k : ∀ D h' o', Fr h₀ L h' m → News h₀ L h' ((D, o') :: news) → (∀ p ∈ news, p.1 < D) → (D == sysModules) = false → o'.IsDictOf (PySem.strKind prog w) kvs → Q (.ref D) { s with heap := h' }) :
    wpAny (model prog w) A (call (.type "dict") [.ref d]) Q E s := by
  refine kt_call_dict lo (Heap.dictOf_iff.mpr ⟨o, (N _ hd).1, hD⟩) hz fun h' hm hs => ?_
  refine hide fun G' hG' => ?_
  obtain ⟨o', ho', hd'⟩ := Heap.dictOf_iff.mp hm
  refine hG' ?_
  clear hG' G'
  have N1 := News.push F N { cls := .type "dict", data := .dict #[] }
  exact k _ h' o' ((F.push _).change hs (N1 _ (.head _)).2.1 (N1.fresh (.head _))) (N1.setHead N.apart hs ho') (fun p hp => Heap.lt_size (N p hp).1) (F.notModules (modules_low hbig)) hd'
end
end Mine
end
section
open PySem PySem.W PySem.Spec PySem.Calls PyProof.Rows
namespace Mine
open LCg (NsObj ns_obj lst lst_snoc)
theorem relay {h₀ h : Heap} {L : Addr} {M n n' : Led} (N : News h₀ L h n') (g : Grow (M ++ n) n') : News h₀ L h (M ++ (n ++ fresh (M ++ n) n')) := fun p hp => by
  rcases List.mem_append.mp hp with hp | hp
  · exact N p (g.sub p (List.mem_append_left _ hp))
  rcases List.mem_append.mp hp with hp | hp
  · exact N p (g.sub p (List.mem_append_right _ hp))
  · exact N p (fresh_sub p hp)
theorem relay_off {M n n' : Led} {p q : Addr × Obj} (hp : p ∈ fresh (M ++ n) n') (hq : q ∈ M) : p.1 ≠ q.1 := Nat.ne_of_gt ((fresh_mem.mp hp).2 q (List.mem_append_left _ hq))
theorem relay_grow {M n n' : Led} : Grow n (n ++ fresh (M ++ n) n') := ⟨fun p hp => List.mem_append_left _ hp, fun p hp => (List.mem_append.mp hp).imp id fun h => fun q hq => (fresh_mem.mp h).2 q (List.mem_append_right _ hq)⟩
section
variable {prog : Program} {w : World} {A : Around} {E : Value → Shared → Prop} {s : Shared} {h₀ : Heap} {L : Addr} {m : Str → Option Value} {env : Env}
variable {scope : Scope} {cl : List (Str × Addr)} {pos : Pos} {RR : Value → Addr → Result → Shared → Prop} {news : Led} {x : Str} {px : Pos} {elt iter : Expr}
/-- one element that makes new things -/
theorem grow_step {El : Led → Nat → Value → Prop} (hEl : ∀ n n' i y, (∀ p ∈ n, p ∈ n') → El n i y → El n' i y) {s : Shared} {i : Nat} {ys : List Value} {news₁ : Led} {h : Heap} {tk : Nat} {own : Led} {C D : Addr} {oC : Obj} {wr : List Addr} {E' : Value → Shared → Prop}
    (hI : ys.length = i ∧ (∀ j v, ys[j]? = some v → El news₁ j v) ∧ Grow news news₁) (off : ∀ p ∈ news₁, p.1 ∉ wr ∧ p.1 ≠ C ∧ p.1 ≠ D) (hwr : ∀ a ∈ wr, ∃ o, (a, o) ∈ own)
    (helt : ∀ (Q : Value → Shared → Prop), (∀ y h' tk' n', Fr h₀ L h' m → News h₀ L h' n' → Grow ((own ++ [(C, oC), (D, lst ys)]) ++ news₁) n' → El (news₁ ++ fresh ((own ++ [(C, oC), (D, lst ys)]) ++ news₁) n') i y → Q y { s with heap := h', toks := tk' }) →
      wpAny (model prog w) A (eval elt (compEnvC scope cl C env)) Q E' { s with heap := h, toks := tk }) :
    wpAny (model prog w) A (compTests [] (compEnvC scope cl C env)) (fun ok s₃ => if ok = true then
          wpAny (model prog w) A (eval elt (compEnvC scope cl C env)) (fun y s₄ => CEnd h₀ L m { s with heap := h, toks := tk } wr C D (own ++ [(C, oC), (D, lst ys)]) (fun n => (ys ++ [y]).length = i + 1 ∧ (∀ j v, (ys ++ [y])[j]? = some v → El n j v) ∧ Grow news n) s₄) E' s₃
        else CEnd h₀ L m { s with heap := h, toks := tk } wr C D (own ++ [(C, oC), (D, lst ys)]) (fun n => ys.length = i + 1 ∧ (∀ j v, ys[j]? = some v → El n j v) ∧ Grow news n) s₃) E' { s with heap := h, toks := tk } := by
  refine compTests_nil ?_
  simp only [if_true]
  refine helt _ fun y h' tk' n' F' N' g hy => ?_
  refine ⟨h', tk', _, rfl, F', relay N' g, fun p hp => ?_, by rw [List.length_append, hI.1]; rfl, fun j v hv => ?_, hI.2.2.trans relay_grow⟩
  · rcases List.mem_append.mp hp with hp | hp
    · exact off p hp
    · refine ⟨fun hw => ?_, relay_off hp (q := (C, oC)) (List.mem_append_right _ (.head _)), relay_off hp (q := (D, lst ys)) (List.mem_append_right _ (.tail _ (.head _)))⟩
      obtain ⟨o, ho⟩ := hwr _ hw
      exact relay_off hp (q := (p.1, o)) (List.mem_append_left _ ho) rfl
  · rw [List.getElem?_append] at hv
    split at hv
    · exact hEl _ _ _ _ (fun p hp => List.mem_append_left _ hp) (hI.2.1 j v hv)
    · rename_i hj
      have e : j = i := by
        have : j - ys.length = 0 := by
          rcases Nat.eq_zero_or_pos (j - ys.length) with e | e
          · exact e
          · rw [List.getElem?_eq_none (by simp; omega)] at hv; cases hv
        omega
      subst e
      rw [hI.1, Nat.sub_self] at hv
      cases hv
      exact hy
theorem grow_range {El : Led → Nat → Value → Prop} (hEl : ∀ n n' i y, (∀ p ∈ n, p ∈ n') → El n i y → El n' i y) {r : Addr} {b : Int} {t u v : Tok} {n : Nat} (hh : A.handled = none) (hcell : ∀ y ∈ scope.names, y.2 ≠ .cell) (hkind : scope.kind = .function) (hx : scope.names.lookup x = some .local)
    (F : Fr h₀ L s.heap m) (N : News h₀ L s.heap news) (hr : IsRange s.heap r 0 b 1 t u v) (hsm : Builtin.Range.small 0 b 1 = true) (hn : Builtin.Range.rangeSize 0 b 1 = ((n : Nat) : Int)) (hsz : n ≤ sizeLine)
    (helt : ∀ i t C D oC m₂ own ys news₁ h tk (Q : Value → Shared → Prop) (E' : Value → Shared → Prop), i < n → m₂ x = some (.int (i : Int) t) → NsObj oC m₂ → Fr h₀ L h m → News h₀ L h ((own ++ [(C, oC), (D, lst ys)]) ++ news₁) → Grow news news₁ →
      (∀ y h' tk' n', Fr h₀ L h' m → News h₀ L h' n' → Grow ((own ++ [(C, oC), (D, lst ys)]) ++ news₁) n' → El (news₁ ++ fresh ((own ++ [(C, oC), (D, lst ys)]) ++ news₁) n') i y → Q y { s with heap := h', toks := tk' }) →
      wpAny (model prog w) A (eval elt (compEnvC scope cl C env)) Q E' { s with heap := h, toks := tk })
    (hRR : ∀ D C h tk m' ys news', Fr h₀ L h m → News h₀ L h ((D, lst ys) :: news') → (∀ p ∈ news', p.1 ≠ D) → (∀ p ∈ news, p.1 < D) → h.Ns C m' → h₀.get? C = none → C ≠ L → (∀ p ∈ (D, lst ys) :: news', p.1 ≠ C) → ys.length = n → (∀ j v, ys[j]? = some v → El news' j v) → Grow news news' →
      RR (.ref D) C (.ok .next) { s with heap := h, toks := tk }) :
    wpAny (model prog w) A (pyIter (.ref r)) (fun it s₂ => CBlk prog w A env (.Name x px) elt iter [] scope pos cl RR E it s₂) E s := by
  refine comp_range (fun i ys n => ys.length = i ∧ (∀ j v, ys[j]? = some v → El n j v) ∧ Grow news n) hh hcell hkind hx F N hr hsm hn hsz ⟨rfl, fun j v e => by simp at e, Grow.refl⟩
    (fun i ys news₁ h tk own C D oC m₂ wr E' hi hV hI hoC F₁ N₁ off hwr => ?_) (fun D C h tk m' ys news' F₁ N₁ off' hlt hn hC hCL off hI => hRR D C h tk m' ys news' F₁ N₁ off' hlt hn hC hCL off hI.1 hI.2.1 hI.2.2)
  obtain ⟨t, hx⟩ := hV
  exact grow_step hEl hI off hwr fun Q k => helt i t C D oC m₂ own ys news₁ h tk Q E' hi hx hoC F₁ N₁ hI.2.2 k
theorem grow_list {El : Led → Nat → Value → Prop} (hEl : ∀ n n' i y, (∀ p ∈ n, p ∈ n') → El n i y → El n' i y) {ax : Addr} {vs : List Value} {kn : Nat} (hh : A.handled = none) (hcell : ∀ y ∈ scope.names, y.2 ≠ .cell) (hkind : scope.kind = .function) (hx : scope.names.lookup x = some .local)
    (F : Fr h₀ L s.heap m) (N : News h₀ L s.heap news) (hm : (ax, listO vs kn) ∈ news) (hsz : vs.length ≤ sizeLine)
    (helt : ∀ i v C D oC m₂ own ys news₁ h tk (Q : Value → Shared → Prop) (E' : Value → Shared → Prop), vs[i]? = some v → m₂ x = some v → NsObj oC m₂ → Fr h₀ L h m → News h₀ L h ((own ++ [(C, oC), (D, lst ys)]) ++ news₁) → Grow news news₁ →
      (∀ y h' tk' n', Fr h₀ L h' m → News h₀ L h' n' → Grow ((own ++ [(C, oC), (D, lst ys)]) ++ news₁) n' → El (news₁ ++ fresh ((own ++ [(C, oC), (D, lst ys)]) ++ news₁) n') i y → Q y { s with heap := h', toks := tk' }) →
      wpAny (model prog w) A (eval elt (compEnvC scope cl C env)) Q E' { s with heap := h, toks := tk })
    (hRR : ∀ D C h tk m' ys news', Fr h₀ L h m → News h₀ L h ((D, lst ys) :: news') → (∀ p ∈ news', p.1 ≠ D) → (∀ p ∈ news, p.1 < D) → h.Ns C m' → h₀.get? C = none → C ≠ L → (∀ p ∈ (D, lst ys) :: news', p.1 ≠ C) → ys.length = vs.length → (∀ j v, ys[j]? = some v → El news' j v) → Grow news news' →
      RR (.ref D) C (.ok .next) { s with heap := h, toks := tk }) :
    wpAny (model prog w) A (pyIter (.ref ax)) (fun it s₂ => CBlk prog w A env (.Name x px) elt iter [] scope pos cl RR E it s₂) E s := by
  refine comp_list (V := fun i m₂ => ∃ v, vs[i]? = some v ∧ m₂ x = some v) (fun i ys n => ys.length = i ∧ (∀ j v, ys[j]? = some v → El n j v) ∧ Grow news n) hh hcell hkind F N hm hsz ⟨rfl, fun j v e => by simp at e, Grow.refl⟩
    (fun C i v ys news₁ s m₂ Q E hv hI N₁ hn k => asg_name hkind hx hn fun h' tk m₃ a b c => k h' tk m₃ a ⟨v, hv, b⟩ c)
    (fun i ys news₁ h tk own C D oC m₂ wr E' hi hV hI hoC F₁ N₁ off hwr => ?_) (fun D C h tk m' ys news' F₁ N₁ off' hlt hn hC hCL off hI => hRR D C h tk m' ys news' F₁ N₁ off' hlt hn hC hCL off hI.1 hI.2.1 hI.2.2)
  obtain ⟨v, hv, hx⟩ := hV
  exact grow_step hEl hI off hwr fun Q k => helt i v C D oC m₂ own ys news₁ h tk Q E' hv hx hoC F₁ N₁ hI.2.2 k
theorem grow_tuple {El : Led → Nat → Value → Prop} (hEl : ∀ n n' i y, (∀ p ∈ n, p ∈ n') → El n i y → El n' i y) {ax : Addr} {vs : List Value} {kn : Nat} (hh : A.handled = none) (hcell : ∀ y ∈ scope.names, y.2 ≠ .cell) (hkind : scope.kind = .function) (hx : scope.names.lookup x = some .local)
    (F : Fr h₀ L s.heap m) (N : News h₀ L s.heap news) (hm : (ax, ({ cls := .type "tuple", data := .seq vs.toArray kn } : Obj)) ∈ news) (hsz : vs.length ≤ sizeLine)
    (helt : ∀ i v C D oC m₂ own ys news₁ h tk (Q : Value → Shared → Prop) (E' : Value → Shared → Prop), vs[i]? = some v → m₂ x = some v → NsObj oC m₂ → Fr h₀ L h m → News h₀ L h ((own ++ [(C, oC), (D, lst ys)]) ++ news₁) → Grow news news₁ →
      (∀ y h' tk' n', Fr h₀ L h' m → News h₀ L h' n' → Grow ((own ++ [(C, oC), (D, lst ys)]) ++ news₁) n' → El (news₁ ++ fresh ((own ++ [(C, oC), (D, lst ys)]) ++ news₁) n') i y → Q y { s with heap := h', toks := tk' }) →
      wpAny (model prog w) A (eval elt (compEnvC scope cl C env)) Q E' { s with heap := h, toks := tk })
    (hRR : ∀ D C h tk m' ys news', Fr h₀ L h m → News h₀ L h ((D, lst ys) :: news') → (∀ p ∈ news', p.1 ≠ D) → (∀ p ∈ news, p.1 < D) → h.Ns C m' → h₀.get? C = none → C ≠ L → (∀ p ∈ (D, lst ys) :: news', p.1 ≠ C) → ys.length = vs.length → (∀ j v, ys[j]? = some v → El news' j v) → Grow news news' →
      RR (.ref D) C (.ok .next) { s with heap := h, toks := tk }) :
    wpAny (model prog w) A (pyIter (.ref ax)) (fun it s₂ => CBlk prog w A env (.Name x px) elt iter [] scope pos cl RR E it s₂) E s := by
  refine comp_tuple (V := fun i m₂ => ∃ v, vs[i]? = some v ∧ m₂ x = some v) (fun i ys n => ys.length = i ∧ (∀ j v, ys[j]? = some v → El n j v) ∧ Grow news n) hh hcell hkind F N hm hsz ⟨rfl, fun j v e => by simp at e, Grow.refl⟩
    (fun C i v ys news₁ s m₂ Q E hv hI N₁ hn k => asg_name hkind hx hn fun h' tk m₃ a b c => k h' tk m₃ a ⟨v, hv, b⟩ c)
    (fun i ys news₁ h tk own C D oC m₂ wr E' hi hV hI hoC F₁ N₁ off hwr => ?_) (fun D C h tk m' ys news' F₁ N₁ off' hlt hn hC hCL off hI => hRR D C h tk m' ys news' F₁ N₁ off' hlt hn hC hCL off hI.1 hI.2.1 hI.2.2)
  obtain ⟨v, hv, hx⟩ := hV
  exact grow_step hEl hI off hwr fun Q k => helt i v C D oC m₂ own ys news₁ h tk Q E' hv hx hoC F₁ N₁ hI.2.2 k
end
/-- the pairs that a list of made pairs holds -/
theorem build_pairs {P : Nat → Value → Int → Value → Prop} : ∀ (ks : List Int) (ys : List Value), ys.length = ks.length → (∀ (j : Nat) (v : Value) (c : Int), ys[j]? = some v → ks[j]? = some c → ∃ e, P j v c e) →
    ∃ ps : List (Int × Value), ps.map (·.1) = ks ∧ ∀ (j : Nat) (c : Int) (e : Value), ps[j]? = some (c, e) → ∃ v, ys[j]? = some v ∧ P j v c e
  | [], [], _, _ => ⟨[], rfl, fun j c e h => by simp at h⟩
  | c :: ks, v :: ys, hl, h => by
    obtain ⟨e, he⟩ := h 0 v c rfl rfl
    obtain ⟨ps, h1, h2⟩ := build_pairs (P := fun j => P (j + 1)) ks ys (by simpa using hl) fun j v c hv hc => h (j + 1) v c hv hc
    refine ⟨(c, e) :: ps, by rw [List.map_cons, h1], fun j c' e' hj => ?_⟩
    match j, hj with
    | 0, hj => cases hj; exact ⟨v, rfl, he⟩
    | j + 1, hj => exact h2 j c' e' hj
theorem valueAt_mem {ps : List (Int × Value)} (hn : (ps.map (·.1)).Nodup) {i : Nat} {c : Int} {v : Value} (h : ps[i]? = some (c, v)) : valueAt ps c = some v := by
  induction ps generalizing i with
  | nil => simp at h
  | cons p ps ih =>
    obtain ⟨h1, h2⟩ := List.nodup_cons.mp hn
    match i, h with
    | 0, h =>
      cases h
      simp [valueAt]
    | i + 1, h =>
      have hm : c ∈ ps.map (·.1) := List.mem_map.mpr ⟨(c, v), List.mem_of_getElem? h, rfl⟩
      have hne : ¬ p.1 = c := fun e => h1 (by show p.1 ∈ _; rw [e]; exact hm)
      have z := ih h2 (i := i) h
      simp only [valueAt, List.find?_cons, hne, decide_false] at z ⊢
      exact z
end Mine
end
section
open PySem PySem.W PySem.Spec PySem.Calls PyProof.Rows
namespace Mine
open LCg (NsObj ns_obj lst lst_snoc)
section
variable {prog : Program} {w : World} {A : Around} {E : Value → Shared → Prop} {s : Shared} {h₀ : Heap} {L : Addr} {m : Str → Option Value} {env : Env}
variable {scope : Scope} {cl : List (Str × Addr)} {pos : Pos} {RR : Value → Addr → Result → Shared → Prop} {news : Led}
theorem zip3_list {l1 l2 l3 : Addr} {n1 n2 : Nat} {xs ys zs : List Value} {Q : Value → Shared → Prop} (F : Fr h₀ L s.heap m) (N : News h₀ L s.heap news) (h1 : (l1, listO xs n1) ∈ news) (h2 : (l2, listO ys n2) ∈ news) (h3 : (l3, tupO zs) ∈ news)
    (k : ∀ b h', b = s.heap.objs.size → ZipAt b [⟨b, l1, false, xs⟩, ⟨b + 1, l2, false, ys⟩, ⟨b + 2, l3, true, zs⟩] 0 .none h' → Fr h₀ L h' m → News h₀ L h' news → (∀ p ∈ news, p.1 < b) → L < b → Q (.ref (b + 3 + 2)) { s with heap := h' }) :
    wpAny (model prog w) A (call (.type "zip") [.ref l1, .ref l2, .ref l3]) Q E s :=
  call_zip_llt (N.isList h1) (N.isList h2) (news_tup N h3) fun h' Z _ hk => k _ h' rfl Z (F.keeps hk) (N.grown hk) (fun p hp => Heap.lt_size (N p hp).1) F.ns.lt
def homeL (is js ks : List Int) : List Int := List.zipWith (· - ·) (List.zipWith (· + ·) is js) ks
theorem homeL_take {is js ks : List Int} {i : Nat} {a b c : Int} (h1 : is[i]? = some a) (h2 : js[i]? = some b) (h3 : ks[i]? = some c) : (homeL is js ks).take (i + 1) = (homeL is js ks).take i ++ [a + b - c] := by
  rw [List.take_add_one]
  have : (homeL is js ks)[i]? = some (a + b - c) := by simp [homeL, List.getElem?_zipWith, h1, h2, h3]
  rw [this]; rfl
theorem comp_home {b l1 l2 l3 : Nat} {vs us ws : List Value} {is js ks : List Int} {x y z : Str} {px py pz pt p1 p2 p3 p4 p5 : Pos} {kk : Nat} {iter : Expr} (hh : A.handled = none) (hcell : ∀ y ∈ scope.names, y.2 ≠ .cell) (hkind : scope.kind = .function)
    (hx : scope.names.lookup x = some .local) (hy : scope.names.lookup y = some .local) (hz : scope.names.lookup z = some .local) (hxy : x ≠ y) (hxz : x ≠ z) (hyz : y ≠ z) (hdx : (x == ("__debug__" : Str)) = false) (hdy : (y == ("__debug__" : Str)) = false) (hdz : (z == ("__debug__" : Str)) = false)
    (h1 : IntsAre vs is) (h2 : IntsAre us js) (h3 : IntsAre ws ks) (e1 : is.length = js.length) (e2 : is.length = ks.length) (hl1 : l1 < b) (hl2 : l2 < b) (hl3 : l3 < b) (hZ : ZipAt b [⟨b, l1, false, vs⟩, ⟨b + 1, l2, false, us⟩, ⟨b + 2, l3, true, ws⟩] 0 .none s.heap) (hnew : h₀.objs.size ≤ b) (hLb : L < b) (hL1 : l1 ≠ L) (hL2 : l2 ≠ L) (hL3 : l3 ≠ L) (hnb : ∀ p ∈ news, p.1 < b)
    (F : Fr h₀ L s.heap m) (N : News h₀ L s.heap news) (hsz : is.length ≤ sizeLine)
    (hRR : ∀ D C h tk m' ys, Fr h₀ L h m → News h₀ L h ((D, lst ys) :: news) → (∀ p ∈ news, p.1 < D) → h.Ns C m' → h₀.get? C = none → C ≠ L → (∀ p ∈ (D, lst ys) :: news, p.1 ≠ C) → IntsAre ys (homeL is js ks) →
      RR (.ref D) C (.ok .next) { s with heap := h, toks := tk }) :
    wpAny (model prog w) A (pyIter (.ref (b + 3 + 2))) (fun it s₂ => CBlk prog w A env (.Tuple [.Name x px, .Name y py, .Name z pz] kk pt) (.BinOp (.BinOp (.Name x p1) .Add (.Name y p2) p3) .Sub (.Name z p4) p5) iter [] scope pos cl RR E it s₂) E s := by
  have hlen3 : (homeL is js ks).length = is.length := by simp [homeL, ← e1, ← e2]
  refine comp_zip (b := b) (c₀ := ⟨b, l1, false, vs⟩) (r := [⟨b + 1, l2, false, us⟩, ⟨b + 2, l3, true, ws⟩]) (N₀ := is.length) (V := fun i m₂ => ∃ (a b c : Int) (t u v : Tok), is[i]? = some a ∧ js[i]? = some b ∧ ks[i]? = some c ∧ m₂ x = some (.int a t) ∧ m₂ y = some (.int b u) ∧ m₂ z = some (.int c v)) (fun i ys n => IntsAre ys ((homeL is js ks).take i) ∧ n = news)
    hh hcell hkind ⟨rfl, rfl, rfl, trivial⟩ (fun c hc => ?_) (fun c hc => ?_) (by show 3 ≤ sizeLine; rw [sizeLine_eq]; exact Nat.le_of_ble_eq_true rfl) hZ hnew hLb (fun c hc => ?_) hnb F N hsz ⟨by rw [List.take_zero]; exact .nil, rfl⟩
    (fun C T i ys news₁ s m₂ Q E hi hT hI N₁ hn k => ?_) (fun i ys news₁ h tk own C D oC m₂ wr E' hi hV hI hoC F₁ N₁ off _ => ?_) (fun D C h tk m' ys news' F₁ N₁ _ hlt hn hC hCL off hI => ?_)
  · simp only [List.mem_cons, List.not_mem_nil, or_false] at hc
    rcases hc with rfl | rfl | rfl
    · exact hl1
    · exact hl2
    · exact hl3
  · simp only [List.mem_cons, List.not_mem_nil, or_false] at hc
    rcases hc with rfl | rfl | rfl
    · exact h1.length
    · exact h2.length.trans e1.symm
    · exact h3.length.trans e2.symm
  · simp only [List.mem_cons, List.not_mem_nil, or_false] at hc
    rcases hc with rfl | rfl | rfl
    · exact hL1
    · exact hL2
    · exact hL3
  · have hj : i < js.length := e1 ▸ hi
    have hk : i < ks.length := e2 ▸ hi
    obtain ⟨t, q1⟩ := ints_cur h1 hi
    obtain ⟨u, q2⟩ := ints_cur h2 hj
    obtain ⟨v, q3⟩ := ints_cur h3 hk
    have hT' : s.heap.IsTuple T #[.int is[i] t, .int js[i] u, .int ks[i] v] := by
      have : (List.map (fun c : Cur => c.xs[i]?.getD .none) [⟨b, l1, false, vs⟩, ⟨b + 1, l2, false, us⟩, ⟨b + 2, l3, true, ws⟩]).toArray = #[.int is[i] t, .int js[i] u, .int ks[i] v] := by
        show #[vs[i]?.getD .none, us[i]?.getD .none, ws[i]?.getD .none] = _
        rw [q1, q2, q3]
      rw [← this]; exact hT
    exact asg_triple hh hkind hx hy hz hxy hxz hyz hT' hn fun h' tk m₃ a b c d e => k h' tk m₃ a ⟨_, _, _, t, u, v, List.getElem?_eq_getElem hi, List.getElem?_eq_getElem hj, List.getElem?_eq_getElem hk, b, c, d⟩ e
  · refine hide fun G' hG' => ?_
    obtain ⟨a, b', c, t, u, v, q1, q2, q3, ex, ey, ez⟩ := hV
    refine hG' ?_
    clear hG' G'
    obtain ⟨hI, rfl⟩ := hI
    have hC : (C, oC) ∈ (own ++ [(C, oC), (D, lst ys)]) ++ news₁ := List.mem_append_left _ (List.mem_append_right _ (.head _))
    have kf : (compEnvC scope cl C env).scope.kind = .function := by simp [compEnvC, relabel, hkind]
    refine compTests_nil ?_
    simp only [if_true]
    refine wpAny_BinOp (wpAny_BinOp (LCgL.ld_own N₁ hC hoC ex (LCgL.ld_own N₁ hC hoC ey (wpAny_add_int (LCgL.ld_own N₁ hC hoC ez (sub_int' ?_) kf (lookup_relabel_local hz) hdz)) kf (lookup_relabel_local hy) hdy) kf (lookup_relabel_local hx) hdx))
    refine ⟨h, _, _, rfl, F₁, N₁, off, ?_, rfl⟩
    rw [homeL_take q1 q2 q3]
    exact intsAre_snoc hI
  · obtain ⟨hI, rfl⟩ := hI
    rw [List.take_of_length_le (by rw [hlen3]; omega)] at hI
    exact hRR D C h tk m' ys F₁ N₁ hlt hn hC hCL off hI
end
end Mine
end
section
open PySem PySem.W PySem.Spec PySem.Calls PyProof.Rows
namespace Mine
/-- no tuple, no list, no dict -/
structure NoDat (o : Obj) : Prop where
  t : o.cls ≠ .type "tuple"
  l : o.cls ≠ .type "list"
  d : o.cls ≠ .type "dict"
section
variable {prog : Program} {w : World} {A : Around} {E : Value → Shared → Prop} {s : Shared} {env : Env} {h₀ : Heap} {target : Expr} {body : List Stmt} {Q : Flow → Shared → Prop}
theorem nodat_range {o : Obj} (h : o.cls = .type "range_iterator") : NoDat o := by
  constructor <;> rw [h] <;> decide
theorem nodat_list {o : Obj} (h : o.cls = .type "list_iterator") : NoDat o := by
  constructor <;> rw [h] <;> decide
theorem turns_st {target : Expr} {I : Addr} {fp wr : List Addr} {n : Nat} {P Md : Nat → Value → Heap → Prop} {St : Nat → Heap → Prop} (W : KTurns prog w A target I fp wr n P Md St) : KTurns prog w A target I fp wr n (fun i v h => P i v h ∧ St (i + 1) h) Md St where
  sub := W.sub
  frame := W.frame
  item := W.item
  go := fun i v s Q E hm hQ => W.go i v s Q E hm fun h' hP hSt hk => hQ h' ⟨hP, hSt⟩ hSt hk
  done := W.done
theorem range_gensY {r : Addr} {a b : Int} {t u v : Tok} {n : Nat} {x : Str} {px : Pos} {m₀ : Str → Option Value} {news : Led} (hh : A.handled = none)
    (F : Fr h₀ env.locals s.heap m₀) (N : News h₀ env.locals s.heap news) (hr : IsRange s.heap r a b 1 t u v) (hsm : Builtin.Range.small a b 1 = true) (hn : Builtin.Range.rangeSize a b 1 = ((n : Nat) : Int))
    (J : Nat → (Str → Option Value) → Led → Array GenState → Prop) (h0 : J 0 m₀ news s.gens)
    (step : ∀ i t' m₁ news₁ I h₁ tk₁ gn it, (∀ p ∈ news, p.1 < I) → i < n → J i m₁ news₁ gn → (∀ p ∈ news₁, p.1 ≠ I) → NoDat it → Fr h₀ env.locals h₁ m₁ → News h₀ env.locals h₁ ((I, it) :: news₁) →
      wpAny (model prog w) A (assign (.Name x px) env (.int (a + (i : Int)) t')) (fun _ s₃ => wpAny (model prog w) A (execs body env) (GPost h₀ env.locals { s with heap := h₁, toks := tk₁, gens := gn } I it (J (i + 1)) Q) E s₃) E { s with heap := h₁, toks := tk₁, gens := gn })
    (done : ∀ h' tk gn m' news', Fr h₀ env.locals h' m' → News h₀ env.locals h' news' → J n m' news' gn → Q .next { s with heap := h', toks := tk, gens := gn }) :
    wpAny (model prog w) A (pyIter (.ref r)) (fun it s₂ => TurnsX prog w A h₀ env (.Name x px) body Q E it s₂) E s := by
  refine wpAny_pyIter_range hr hsm ?_
  have W := LCg.range_walks (prog := prog) (w := w) (I := s.heap.objs.size) hh a n
  refine .inr (TurnsG.mk (m := m₀) (news := news) (keep := []) (J := J) (turns_st (KTurns.ofWalks W fun i v s Q E st q => wpAny_pure q)) (fun b hb => .inl (List.mem_singleton.mp hb)) ?_ (Nat.ne_of_lt F.ns.lt) (next_is_new F) ?_ (by show IsRangeIter _ _ _ _ _; rw [hn]; simpa using Heap.get?_push_size _ rfl) (F.push _) (fun p hp => ⟨Heap.get?_push_of_some _ (N p hp).1, (N p hp).2⟩) h0 (fun i m n g j p hp => (nomatch hp)) ?_ done)
  · exact fun i h st => ⟨_, st⟩
  · exact fun p hp e => absurd (Heap.lt_size (N p hp).1) (e ▸ Nat.lt_irrefl _)
  · rintro i v m₁ news₁ h₁ tk₁ gn it hi ⟨⟨t', rfl⟩, st⟩ hJ hoff F₁ N₁
    have e := (N₁ _ (.head _)).1
    have st' : h₁.get? s.heap.objs.size = some _ := st
    rw [st'] at e
    exact step i t' m₁ news₁ _ h₁ tk₁ gn it (fun p hp => Heap.lt_size (N p hp).1) hi hJ hoff (nodat_range (by cases e; rfl)) F₁ N₁
theorem allObj_one {I : Addr} {n : String} {k : Led → Prop} (h : ∀ it : Obj, it.cls = .type n → k [(I, it)]) : AllObj [(I, n)] k := fun o ho => h o ho
theorem items_inv1 {I : Addr} {nm : String} {keep : Led} {xs : List Itm} (Inv : Nat → (Str → Option Value) → Led → Prop)
    (step : ∀ i a v m₁ news₁ h tk (it : Obj), it.cls = .type nm → xs[i]? = some a → Inv i m₁ news₁ → SubL keep news₁ → (∀ p ∈ news₁, p.1 ≠ I) → a.Is v h → Fr h₀ env.locals h m₁ → News h₀ env.locals h ((I, it) :: news₁) →
      wpAny (model prog w) A (assign target env v) (fun _ s₂ => wpAny (model prog w) A (execs body env) (TPost h₀ env.locals { s with heap := h, toks := tk } [(I, it)] (fun m' n' => SubL keep n' ∧ Inv (i + 1) m' n') Q) E s₂) E { s with heap := h, toks := tk })
    (done : ∀ m₁ news₁ h tk, Inv xs.length m₁ news₁ → Fr h₀ env.locals h m₁ → News h₀ env.locals h news₁ → Q .next { s with heap := h, toks := tk })
    {m : Str → Option Value} {news : Led} (h0 : Inv 0 m news) (hk : SubL keep news) (hoff : ∀ p ∈ news, p.1 ≠ I) :
    ItemsRest prog w A E h₀ env target body Q s [(I, nm)] keep xs m news := by
  have all : ∀ (j i : Nat) (m : Str → Option Value) (news : Led), j = xs.length - i → i ≤ xs.length → Inv i m news → SubL keep news → (∀ p ∈ news, p.1 ≠ I) → ItemsRest prog w A E h₀ env target body Q s [(I, nm)] keep (xs.drop i) m news := by
    intro j
    induction j with
    | zero =>
      intro i m news hj hi hI _ _
      have e : i = xs.length := by omega
      subst e
      rw [List.drop_length]
      exact fun h tk F N => done m news h tk hI F N
    | succ j ih =>
      intro i m news hj hi hI hk hoff
      have hlt : i < xs.length := by omega
      rw [List.drop_eq_getElem_cons hlt]
      intro v h tk ha F
      refine allObj_one fun it hit N => ?_
      refine wpAny_mono (step i xs[i] v m news h tk it hit (List.getElem?_eq_getElem hlt) hI hk hoff ha F N) (fun _ s₂ h₂ => wpAny_mono h₂ (fun f s₃ h₃ => ?_) fun _ _ x => x) fun _ _ x => x
      have conv : TEnd h₀ env.locals { s with heap := h, toks := tk } [(I, it)] (fun m' n' => SubL keep n' ∧ Inv (i + 1) m' n') s₃ →
          UnrEndW h₀ env.locals { s with heap := h, toks := tk } [(I, it)] (fun m' n' => SubL keep n' ∧ ItemsRest prog w A E h₀ env target body Q s [(I, nm)] keep (xs.drop (i + 1)) m' n') s₃ := by
        rintro ⟨h', tk', m', news', rfl, F', N', off', hk', hI'⟩
        exact ⟨h', tk', m', news', rfl, F', N', off', hk', ih (i + 1) m' news' (by omega) hlt hI' hk' fun p hp => off' p hp _ (.head _)⟩
      cases f with
      | ret v => exact h₃
      | brk => exact h₃
      | next => exact conv h₃
      | cont => exact conv h₃
  have := all (xs.length - 0) 0 m news rfl (Nat.zero_le _) h0 hk hoff
  rwa [List.drop_zero] at this
theorem list_loopY {ax : Addr} {vs : List Value} {n : Nat} {m₀ : Str → Option Value} {news : Led} (Inv : Nat → (Str → Option Value) → Led → Prop)
    (hh : A.handled = none) (F : Fr h₀ env.locals s.heap m₀) (N : News h₀ env.locals s.heap news) (hm : (ax, listO vs n) ∈ news) (h0 : Inv 0 m₀ news)
    (step : ∀ I i v m₁ news₁ h tk (it : Obj), NoDat it → (∀ p ∈ news, p.1 < I) → vs[i]? = some v → Inv i m₁ news₁ → (ax, listO vs n) ∈ news₁ → (∀ p ∈ news₁, p.1 ≠ I) → Fr h₀ env.locals h m₁ → News h₀ env.locals h ((I, it) :: news₁) →
      wpAny (model prog w) A (assign target env v) (fun _ s₂ => wpAny (model prog w) A (execs body env) (TPost h₀ env.locals { s with heap := h, toks := tk } [(I, it)] (fun m' n' => (ax, listO vs n) ∈ n' ∧ Inv (i + 1) m' n') Q) E s₂) E { s with heap := h, toks := tk })
    (done : ∀ m₁ news₁ h tk, Inv vs.length m₁ news₁ → Fr h₀ env.locals h m₁ → News h₀ env.locals h news₁ → Q .next { s with heap := h, toks := tk }) :
    wpAny (model prog w) A (pyIter (.ref ax)) (fun it s₂ => TurnsX prog w A h₀ env target body Q E it s₂) E s := by
  refine wpAny_mono (iter_listTurns hh F N hm rfl rfl fun I hI => ?_) (fun _ _ h => .inl h) fun _ _ e => e
  refine items_inv1 Inv ?_ ?_ h0 ⟨hm, trivial⟩ (fun p hp => Nat.ne_of_lt (hI p hp))
  · intro i a v m₁ news₁ h tk it hit ha hJ hk hoff hav F₁ N₁
    have ha' : ∃ x, vs[i]? = some x ∧ a = .val x := by
      rw [List.getElem?_map] at ha
      cases hx : vs[i]? with
      | none => rw [hx] at ha; cases ha
      | some x => rw [hx] at ha; exact ⟨x, rfl, (Option.some.inj ha).symm⟩
    obtain ⟨x, hx, rfl⟩ := ha'
    have hvx : v = x := hav
    subst hvx
    refine wpAny_mono (step I i v m₁ news₁ h tk it (nodat_list hit) hI hx hJ hk.1 hoff F₁ N₁) (fun _ s₂ h₂ => wpAny_mono h₂ (fun f s₃ h₃ => ?_) fun _ _ e => e) fun _ _ e => e
    have conv : TEnd h₀ env.locals { s with heap := h, toks := tk } [(I, it)] (fun m' n' => (ax, listO vs n) ∈ n' ∧ Inv (i + 1) m' n') s₃ → TEnd h₀ env.locals { s with heap := h, toks := tk } [(I, it)] (fun m' n' => SubL [(ax, listO vs n)] n' ∧ Inv (i + 1) m' n') s₃ := by
      rintro ⟨h', tk', m', news', e, F', N', off', hk', hI'⟩
      exact ⟨h', tk', m', news', e, F', N', off', ⟨hk', trivial⟩, hI'⟩
    cases f with
    | ret v => exact h₃
    | brk => exact h₃
    | next => exact conv h₃
    | cont => exact conv h₃
  · intro m₁ news₁ h tk hJ F₁ N₁
    rw [List.length_map] at hJ
    exact done m₁ news₁ h tk hJ F₁ N₁
/-- the ledger without a cell -/
def carve (c : Addr) (n : Led) : Led := n.filter fun p => decide (p.1 ≠ c)
theorem carve_mem {c : Addr} {n : Led} {p : Addr × Obj} : p ∈ carve c n ↔ p ∈ n ∧ p.1 ≠ c := by
  unfold carve
  rw [List.mem_filter, decide_eq_true_eq]
theorem carve_sub {c : Addr} {n : Led} : ∀ p ∈ carve c n, p ∈ n := fun p h => (carve_mem.mp h).1
theorem carve_off {c : Addr} {n : Led} : ∀ p ∈ carve c n, p.1 ≠ c := fun p h => (carve_mem.mp h).2
theorem carve_news {L c : Addr} {h : Heap} {oc : Obj} {n : Led} (N : News h₀ L h n) (hc : (c, oc) ∈ n) : News h₀ L h ((c, oc) :: carve c n) := fun p hp => by
  rcases List.mem_cons.mp hp with rfl | hp
  · exact N _ hc
  · exact N p (carve_sub p hp)
theorem carve_upd {c : Addr} {oc : Obj} {n : Led} : UpdF c oc ((c, oc) :: carve c n) (fun o' => (c, o') :: carve c n) := .head carve_off
theorem same_obj {L c : Addr} {h : Heap} {o o' : Obj} {n : Led} (N : News h₀ L h n) (h1 : (c, o) ∈ n) (h2 : (c, o') ∈ n) : o = o' := by
  have a := (N _ h1).1
  have b := (N _ h2).1
  rw [a] at b
  exact Option.some.inj b
/-- an object that may be written: no tuple, no dict of texts -/
structure CellO (prog : Program) (w : World) (o : Obj) : Prop where
  t : ∀ vs, o ≠ tupO vs
  d : ∀ kvs, kvs ≠ [] → ¬ o.IsDictOf (PySem.strKind prog w) kvs
theorem NoDat.cell {o : Obj} (h : NoDat o) : CellO prog w o := ⟨fun vs e => h.t (by rw [e]), fun kvs _ hd => by
  obtain ⟨es, ep, he, _⟩ := hd
  exact h.d he.1⟩
theorem cell_list {vs : List Value} {n : Nat} : CellO prog w (listO vs n) := ⟨fun vs h => absurd (show Value.type "list" = Value.type "tuple" from congrArg Obj.cls h) (by decide), fun kvs _ hd => by
  obtain ⟨es, ep, he, _⟩ := hd
  exact absurd (show Value.type "list" = Value.type "dict" from he.1) (by decide)⟩
theorem cell_tab {ps : Array Value} : CellO prog w (tabObj ps) := ⟨fun vs h => absurd (show Value.none = Value.type "tuple" from congrArg Obj.cls h) (by decide), fun kvs _ hd => by
  obtain ⟨es, ep, he, _⟩ := hd
  exact absurd (show Value.none = Value.type "dict" from he.1) (by decide)⟩
theorem dict_ne {o : Obj} {kvs : List (Str × Value)} {kvi : List (Int × Value)} (hne : kvs ≠ []) (hs : o.IsDictOf (PySem.strKind prog w) kvs) (hi : o.IsDictOf (PySem.intKind prog w) kvi) : False := by
  obtain ⟨es, ep, -, e1, k1, p1, -⟩ := hs
  obtain ⟨es', ep', -, e2, k2, -, -⟩ := hi
  rw [e1] at e2
  cases e2
  obtain ⟨e, he⟩ : ∃ e, e ∈ es := by
    cases hl : es.toList with
    | nil => rw [hl] at p1; cases kvs with
      | nil => exact absurd rfl hne
      | cons a r => exact absurd p1 (by intro h; cases h)
    | cons a r => exact ⟨a, by rw [← Array.mem_toList_iff, hl]; exact .head _⟩
  obtain ⟨k, h1, -⟩ := k1 e he
  obtain ⟨i, h2, -⟩ := k2 e he
  obtain ⟨t, e3⟩ := Value.isStrOf_shape h1
  obtain ⟨u, e4⟩ := Value.isInt_shape h2
  rw [e3] at e4
  cases e4
theorem cell_dict {o : Obj} {kvi : List (Int × Value)} (hi : o.IsDictOf (PySem.intKind prog w) kvi) : CellO prog w o := ⟨fun vs h => by
  obtain ⟨es, ep, he, -⟩ := hi
  exact absurd (show Value.type "dict" = Value.type "tuple" from he.1.symm.trans (congrArg Obj.cls h)) (by decide), fun kvs hne hs => dict_ne hne hs hi⟩
theorem cell_cell {o : Obj} {v : Option Value} (h : o.data = .cell v) : CellO prog w o := ⟨fun vs e => by rw [e] at h; exact absurd h (by intro q; cases q), fun kvs _ hd => by
  obtain ⟨es, ep, -, e, -⟩ := hd
  rw [e] at h; cases h⟩
section
variable {L c : Addr} {h : Heap} {oc : Obj} {n : Led}
theorem tup_off (N : News h₀ L h n) (hc : (c, oc) ∈ n) (hk : CellO prog w oc) {p : Addr} {vs : List Value} (hp : (p, tupO vs) ∈ n) : p ≠ c := fun e => by
  subst e
  exact hk.t vs (same_obj N hc hp)
theorem tup_carve (N : News h₀ L h n) (hc : (c, oc) ∈ n) (hk : CellO prog w oc) {p : Addr} {vs : List Value} (hp : (p, tupO vs) ∈ n) : (p, tupO vs) ∈ carve c n := carve_mem.mpr ⟨hp, tup_off N hc hk hp⟩
theorem dict_carve (N : News h₀ L h n) (hc : (c, oc) ∈ n) (hk : CellO prog w oc) {d : Addr} {o : Obj} {kvs : List (Str × Value)} (hd : (d, o) ∈ n) (hD : o.IsDictOf (PySem.strKind prog w) kvs) (hne : kvs ≠ []) : (d, o) ∈ carve c n := carve_mem.mpr ⟨hd, fun e => by
  have e : d = c := e
  subst e
  rw [same_obj N hd hc] at hD
  exact hk.d kvs hne hD⟩
theorem RowIn.carve (N : News h₀ L h n) (hc : (c, oc) ∈ n) (hk : CellO prog w oc) {v : Value} {r : Row} (x : RowIn n v r) : RowIn (carve c n) v r := by
  cases x with | mk a => exact .mk (tup_carve N hc hk a)
theorem EntryIn.carve (N : News h₀ L h n) (hc : (c, oc) ∈ n) (hk : CellO prog w oc) {v : Value} {r : Row} (x : EntryIn prog w n v r) : EntryIn prog w (carve c n) v r := by
  cases x with | mk a b lo e q => exact .mk (tup_carve N hc hk a) (dict_carve N hc hk b e (List.cons_ne_nil _ _)) lo e (tup_carve N hc hk q)
theorem CalIn.carve (N : News h₀ L h n) (hc : (c, oc) ∈ n) (hk : CellO prog w oc) {v : Value} {r : Row} (x : CalIn prog w n v r) : CalIn prog w (carve c n) v r := by
  cases x with | mk b lo e q => exact .mk (dict_carve N hc hk b e (List.cons_ne_nil _ _)) lo e (tup_carve N hc hk q)
end
end
end Mine
end
section
open PySem PySem.W PySem.Spec PySem.Calls PyProof.Rows
namespace Mine
local macro_rules | `(tactic| k_mem) => `(tactic| (refine' mem_of ?_; ktr_member))
local macro_rules | `(tactic| k_mem) => `(tactic| (refine Grow.mem' ?_ ?_; with_reducible assumption; k_mem))
local macro_rules | `(tactic| ktn_ord) => `(tactic| first | exact Grow.refl | with_reducible assumption | (refine Grow.cons ?_ ?_; (first | assumption | exact allLt_of (by assumption)); ktn_ord) | (refine Grow.trans ?_ ?_; rotate_left; with_reducible assumption; ktn_ord))
local macro_rules | `(tactic| ktn_ord) => `(tactic| ((with_reducible show AllLt _ _); first | assumption | exact allLt_of (by assumption) | exact And.right (by assumption) | exact And.right (And.right (by assumption)) | exact And.right (And.right (And.right (by assumption))) | exact And.right (And.right (And.right (And.right (by assumption)))) | exact And.right (And.right (And.right (And.right (And.right (by assumption)))))))
local macro_rules | `(tactic| walk_at $s:str) => `(tactic| k_extra $s)
theorem lay_8 : True := by
  k_with "eval Dict" => (k_here; k_dflt (refine kdn_str (by rfl) (by k_asm) (by k_asm) (by exact TopRead.nolimit (by k_asm)) (by rfl) (by rfl) (by exact List.cons_ne_nil _ _) (by exact Nat.le_of_ble_eq_true rfl) ?_); intro d'_k h'_k o'_k F'_k N'_k l1_k lo'_k hd'_k; (try k_lt l1_k))
  k_with "subscriptTail" => (k_here; (with_reducible show wpAny _ _ (subscriptTail _ (PySem.Expr.Slice none (some _) none _) (Value.ref _) (Value.ref _)) _ _ _); k_dflt (refine slice_tuple_uptoK (by k_asm) (by k_asm) (by k_mem) (by decide) (by exact Nat.le_of_ble_eq_true rfl) (by kl_lit) (by exact Nat.le_of_ble_eq_true rfl) ?_ (by with_unfolding_all rfl) (by kmk_pure)); intro D'_k h'_k F'_k N'_k l1_k; (try k_lt l1_k); (try k_sweep))
  k_with "subscriptTail" => (k_here; (with_reducible show wpAny _ _ (subscriptTail _ _ (Value.ref _) (Value.int _ _)) _ _ _); k_dflt (refine item_tupM (by k_asm) (by k_mem) (by decide) (by decide) (by rfl) (by rfl) ?_; k_whole))
  k_with "subscriptTail" => (k_here; (with_reducible show wpAny _ _ (subscriptTail _ _ (Value.ref _) (Value.int _ _)) _ _ _); k_dflt (refine item_lstM (by k_asm) (by k_mem) (by decide) (by decide) (by rfl) ?_; k_whole))
  k_with "subscriptTail" => (k_here; first | ((with_reducible show wpAny _ _ (subscriptTail _ _ (Value.ref _) (Value.str _ _)) _ _ _); k_dflt (refine kdt_tail (knd := PySem.strKind _ _) (by k_asm) (by k_mem) (by k_asm) (kdt_getItem (knd := PySem.strKind _ _) (by k_asm) (by k_mem) (by k_asm) (strKind_is _ _ _ _) (by rfl) ?_))) | ((with_reducible show wpAny _ _ (subscriptTail _ _ (Value.ref _) (Value.int _ _)) _ _ _); k_dflt (refine kdt_tail (knd := PySem.intKind _ _) (by k_asm) (by k_mem) (by k_asm) (kdt_getItem (knd := PySem.intKind _ _) (by k_asm) (by k_mem) (by k_asm) (intKind_is _ _ _ _) (by rfl) ?_))))
  k_with "compareOp In str ref" => (k_here; k_dflt (first | (refine kda_in (knd := PySem.strKind _ _) (by k_asm) (by k_mem) (by k_asm) (by k_asm) (strKind_is _ _ _ _) true (by rfl) ?_) | (refine kda_in (knd := PySem.strKind _ _) (by k_asm) (by k_mem) (by k_asm) (by k_asm) (strKind_is _ _ _ _) false (by rfl) ?_)))
  k_with "setItem ref str" => (k_here; k_dflt (refine kda_set (knd := PySem.strKind _ _) (by k_asm) (by k_asm) (by k_updF) (by k_asm) (strKind_is _ _ _ _) (by (rw [sizeLine_eq]; exact Nat.le_of_ble_eq_true (by with_unfolding_all rfl))) ?_); intro h'_k o'_k F'_k N'_k hd'_k; (try dsimp only at N'_k))
  k_with "call builtin:isinstance" => (k_here; (with_reducible show wpAny _ _ (call _ [Value.ref _, Value.type "tuple"]) _ _ _); k_dflt (refine isi_tuple (by k_asm) (by k_mem) ?_; k_whole))
  k_with "call type:zip" => (k_here; k_dflt (refine zip_news (by k_asm) (by k_asm) (by k_mem) (by k_mem) ?_); intro b5_k h5_k hb5_k Z5_k F5_k N5_k lt5_k l5_k)
  k_with "call type:tuple" => (k_here; k_dflt (refine tuple_gen (by k_asm) (by k_asm) (by assumption) (by assumption) (by assumption) (by assumption) (by exact Nat.le_of_ble_eq_true rfl) ?_); intro D5_k vals5_k h5_k tk5_k gn5_k hl5_k hv5_k F5_k N5_k lt5_k G5_k; (try k_lt lt5_k))
  trivial
/-- what holds between the turns over the second dict -/
inductive JC (prog : Program) (w : World) (P nd : Addr) (oc2 : Obj) (ps : Array Value) (news : Led) (r1 r2 : Row) : Nat → (Str → Option Value) → Led → Array GenState → Prop
  | a {u g} : AllBare g → JC prog w P nd oc2 ps news r1 r2 0 (cf [(Str.ofString "new_callers", .ref nd)] u) ((nd, oc2) :: (P, tabObj ps) :: news) g
  | b {i u g D t0 t1 t2 t3 oc ps' v t} : AllBare g → AllLt D ((nd, oc) :: (P, tabObj ps') :: news) → TriplesOk ps'.toList → oc.IsDictOf (PySem.strKind prog w) [(Str.ofString "f", .ref D), (Str.ofString "g", .int v t)] → ((i = 1 ∧ v = 2 * r1.e - r1.f) ∨ (i = 2 ∧ v = (2 * r1.e - r1.f) + (2 * r2.e - r2.f))) →
      JC prog w P nd oc2 ps news r1 r2 i (cf [(Str.ofString "new_callers", .ref nd)] u) ((D, tupO [.int (r2.e + r1.e) t0, .int (r2.f + r1.f) t1, .int ((r2.a - r2.f) + (r1.a - r1.f)) t2, .int ((r2.b + r2.e) + (r1.b + r1.e)) t3]) :: (nd, oc) :: (P, tabObj ps') :: news) g
theorem JC.pre {prog : Program} {w : World} {P nd : Addr} {oc2 : Obj} {ps : Array Value} {news : Led} {r1 r2 : Row} {i m n g} (h : JC prog w P nd oc2 ps news r1 r2 i m n g) {p : Addr × Obj} (hp : p ∈ news) : p ∈ n := by
  cases h with
  | a => exact .tail _ (.tail _ hp)
  | b => exact .tail _ (.tail _ (.tail _ hp))
theorem JC.frame {prog : Program} {w : World} {P nd : Addr} {oc2 : Obj} {ps : Array Value} {news : Led} {r1 r2 : Row} {m g} (h : Knows m [(Str.ofString "new_callers", .ref nd)]) (hg : AllBare g) : JC prog w P nd oc2 ps news r1 r2 0 m ((nd, oc2) :: (P, tabObj ps) :: news) g := by
  rw [cf_of h]; exact .a hg
theorem JC.one {prog : Program} {w : World} {P nd : Addr} {oc2 : Obj} {ps : Array Value} {news : Led} {r1 r2 : Row} {i m g D t0 t1 t2 t3 oc ps' v t} (h : Knows m [(Str.ofString "new_callers", .ref nd)]) (hg : AllBare g) (hD : AllLt D ((nd, oc) :: (P, tabObj ps') :: news)) (hP : TriplesOk ps'.toList) (ho : oc.IsDictOf (PySem.strKind prog w) [(Str.ofString "f", .ref D), (Str.ofString "g", .int v t)]) (hi : (i = 1 ∧ v = 2 * r1.e - r1.f) ∨ (i = 2 ∧ v = (2 * r1.e - r1.f) + (2 * r2.e - r2.f))) :
    JC prog w P nd oc2 ps news r1 r2 i m ((D, tupO [.int (r2.e + r1.e) t0, .int (r2.f + r1.f) t1, .int ((r2.a - r2.f) + (r1.a - r1.f)) t2, .int ((r2.b + r2.e) + (r1.b + r1.e)) t3]) :: (nd, oc) :: (P, tabObj ps') :: news) g := by
  rw [cf_of h]; exact .b hg hD hP ho hi
set_option maxHeartbeats 4000000 in
theorem add_callers_ct {prog w mg mb P news v1 v2 r1 r2} (h1 : CalIn prog w news v1 r1) (h2 : CalIn prog w news v2 r2) : CtG prog w mg mb P 10 (.ref 56) [v1, v2] news (fun n v => CalIn prog w n v (r1.add r2)) := by
  intro dp un gd cn cs a ccd cl outer A₀ base h₀ L m s ps Q E B F X N T C M HP HG HQ hk hdp hun hret
  cases h1 with | @mk d1 q1 o1 a4 a5 a6 a7 ah _ hd1 lo1 hD1 hq1 =>
  cases h2 with | @mk d2 q2 o2 b4 b5 b6 b7 bh _ hd2 lo2 hD2 hq2 =>
  refine wpAny_call ?_
  k_dflt (refine code_defR (by exact rfl) (by exact rfl) (by assumption) (by k_asm) (by k_asm) (by k_asm) (by k_asm) (by k_asm) (by k_is) (by k_is) (by ktr_room) (by exact BindsTo.of_eq rfl) (by decide) (by exact locs rfl) (by exact rfl) (by exact rfl) (by exact rfl) ?_; k_whole; intro g'_k L'_k h'_k FG'_k F'_k N'_k B'_k X'_k T'_k st'_k hL'_k; (try dsimp only); (try k_fold))
  rename Heap.StaysIn h₀ _ => st9; rename TR mg mb _ => T9
  k_steps
  rename Fr _ _ _ _ => lF'; rename News _ _ _ _ => lN'
  rename_i nd hh9 oo9 lo9 hs9 fs9 hi9 fi9 l9 l10
  have hP9 : P < nd := by first | exact l9.1 | exact l10.1
  have hA9 : AllLt nd news := by first | exact l9.2 | exact l10.2
  with_unfolding_all ((refine' For_turns lF' ?_); k_whole; (refine MethodCall_ ?_); (refine ld lF' (by rfl) ?_); (refine kdl_method (knd := PySem.strKind _ _) PySem.F.slot_dict_items PySem.F.type_dict_items lN' (by k_mem) hD1 ?_); (refine callWith_method0 ?_); (refine kta_callItems (knd := PySem.strKind _ _) lF' lN' (by k_mem) hD1 lo1 ?_); intro h' hv' F' N'; (refine kta_items (knd := PySem.strKind _ _) (enc := PyData.str) (xs := [Itm.pair (fun t => .str (Str.ofString "f") t) (.ref q1), Itm.pair (fun t => .str (Str.ofString "g") t) (.int (2 * r1.e - r1.f) ah)]) (by rfl) F' N' hv' (by k_mem) hD1 (fun _ _ h => Value.isStrOf_shape h) (by rfl) ?_))
  clear lF' lN'
  intro I1 l1
  k_lt l1
  refine ItemsRest.pair (fun T1 t1 h1 tk1 hT1 F1 => AllObj.cons fun oi1 ho1 => AllObj.nil fun N1 => ?_)
  dsimp only [List.cons_append, List.nil_append] at N1
  refine gen2 fun Q9 E9 hQ9 => ?_
  k_steps
  rename Fr _ _ _ _ => F2; rename News _ _ _ _ => N2; rename Obj.IsDictOf (PySem.strKind prog w) _ _ => hc
  rename Obj => oc
  have hc1 : oc.IsDictOf (PySem.strKind prog w) [(Str.ofString "f", .ref q1)] := hc
  clear hc
  refine hQ9 _ _ (UnrPostW.fin F2 N2 (fun p hp q hq => ?_) ⟨by k_mem, trivial⟩ ?_)
  all_goals clear hQ9 Q9 E9
  · rw [List.mem_singleton.mp hq]
    exact Nat.ne_of_lt (allLt_mem (l := (_, oc) :: (P, tabObj ps) :: news) l1 p hp)
  refine ItemsRest.pair (fun T2 t2 h2 tk2 hT2 F3 => AllObj.cons fun oi2 ho2 => AllObj.nil fun N3 => ?_)
  dsimp only [List.cons_append, List.nil_append] at N3
  refine gen2 fun Q9 E9 hQ9 => ?_
  k_steps
  rename Fr _ _ _ _ => F4; rename News _ _ _ _ => N4; rename Obj.IsDictOf (PySem.strKind prog w) _ _ => hc
  rename Obj => oc2
  have hc2 : oc2.IsDictOf (PySem.strKind prog w) [(Str.ofString "f", .ref q1), (Str.ofString "g", .int (2 * r1.e - r1.f) ah)] := hc
  clear hc
  refine hQ9 _ _ (UnrPostW.fin F4 N4 (fun p hp q hq => ?_) ⟨by k_mem, trivial⟩ ?_)
  all_goals clear hQ9 Q9 E9
  · rw [List.mem_singleton.mp hq]
    exact Nat.ne_of_lt (allLt_mem (l := (_, oc2) :: (P, tabObj ps) :: news) l1 p hp)
  refine ItemsRest.zero (fun h3 tk3 F5 N5 => ?_)
  rename Obj.IsDictOf (PySem.strKind prog w) oc [_] => hcx; clear hcx
  k_steps
  refine' For_turnsG F5 ?_
  with_unfolding_all (k_whole; (refine MethodCall_ ?_); (refine ld F5 (by rfl) ?_); (refine kdl_method (knd := PySem.strKind _ _) PySem.F.slot_dict_items PySem.F.type_dict_items N5 (by k_mem) hD2 ?_); (refine callWith_method0 ?_); (refine kta_callItems (knd := PySem.strKind _ _) F5 N5 (by k_mem) hD2 lo2 ?_); intro h' hv' F' N')
  refine items_gens (knd := PySem.strKind _ _) (kvs := [(Str.ofString "f", .ref q2), (Str.ofString "g", .int (2 * r2.e - r2.f) bh)]) rfl F' (news_part (l' := (nd, oc2) :: (P, tabObj ps) :: news) N' fun p hp => hp) hv' (by k_mem) hD2 (JC prog w P nd oc2 ps news r1 r2) ?_ ?_ ?_ ?_
  · exact .frame ⟨rfl, trivial⟩ HG
  · exact fun i m₁ n₁ g₁ hJ => hJ.pre hd2
  · intro i T3 key k x m₁ n₁ I2 h4 tk4 gn it hI2 hkx hkey hT3 hJ hoff F6 N6
    refine gen2 fun Q9 E9 hQ9 => ?_
    cases hJ with
    | @a u _ HG1 =>
      cases hkx
      obtain ⟨tt, rfl⟩ := Value.isStrOf_shape hkey
      have hI3 := allLt_of hI2
      simp only [AllLt] at hI3
      k_steps
      rename Fr _ _ _ _ => F7; rename News _ _ _ _ => N7
      refine gen_sum (c := 55) (P := P) (ps := ps) (mg := mg) (news := (I2, it) :: (nd, oc2) :: news) F7 rfl ?_ rfl rfl (by decide) rfl rfl rfl (by decide) (by decide) (by decide) rfl (CH.hd (C.keeps st9)) rfl rfl (TopRead.g T9) (M.keeps st9) (TopRead.nolimit T9) HP ?_ (fun _ => rfl)
      · ktr_room
      k_steps
      rename Fr _ _ _ _ => F8; rename News _ _ _ _ => N8
      rename ZipAt _ _ _ _ _ => Z5
      have N9 := news_part (l' := (P, tabObj ps) :: (I2, it) :: (nd, oc2) :: news) N8 fun p hp => mem_rot3 hp
      refine SumSrc.mk (n := 4) Z5 ⟨rfl, rfl, trivial⟩ (lt5_k _ (.tail _ (.tail _ (.tail _ hq2)))) (lt5_k _ (.tail _ (.tail _ (.tail _ hq1)))) rfl rfl ints4 ints4 F8 N9 (fun p hp => lt5_k p (mem_rot3 hp)) ?_ l5_k HG1 ?_
      · exact List.forall_mem_cons.mpr ⟨hI3.2.1, List.forall_mem_cons.mpr ⟨hP9, HQ⟩⟩
      intro ga h6 tk6 gn6 ps6 F10 N10 HP6 HG6 V6
      have hb6 : ∀ p ∈ (P, tabObj ps6) :: (I2, it) :: (nd, oc2) :: news, p.1 < _ := List.forall_mem_cons.mpr ⟨lt5_k (P, tabObj ps) (.tail _ (.tail _ (.head _))), fun p hp => lt5_k p (mem_rot3 (.tail _ hp))⟩
      k_steps
      rename Fr _ _ _ _ => F11; rename News _ _ _ _ => N11
      rename (List.length _ = 4) => hl7
      rename (∀ j, j < 4 → _) => hv7
      rename P < _ ∧ I2 < _ ∧ _ => lt7
      obtain ⟨t0, t1, t2, t3, rfl⟩ := four_ints hl7 hv7
      refine hQ9 _ _ (GPost.fin F11 (news_part N11 fun p hp => mem_shuf hp) ?_ (.one ⟨rfl, trivial⟩ (by assumption) ⟨lt7.2.2.1, lt7.1, lt7.2.2.2⟩ HP6 (by assumption) (.inl ⟨rfl, rfl⟩)))
      intro p hp
      simp only [List.mem_cons] at hp
      rcases hp with rfl | rfl | rfl | hp
      · exact Nat.ne_of_gt lt7.2.1
      · exact Nat.ne_of_lt hI3.1
      · exact Nat.ne_of_lt hI3.2.1
      · exact hoff p (.tail _ (.tail _ hp))
    | @b _ u _ D t0 t1 t2 t3 oc ps' v t HG1 hDl HP1 hoc hi =>
    rcases hi with ⟨rfl, rfl⟩ | ⟨rfl, rfl⟩
    · cases hkx
      obtain ⟨tt, rfl⟩ := Value.isStrOf_shape hkey
      have hI3 := allLt_of hI2
      simp only [AllLt] at hI3 hDl
      k_steps
      rename Fr _ _ _ _ => F7; rename News _ _ _ _ => N7
      refine hQ9 _ _ (GPost.fin F7 N7 ?_ (.one ⟨rfl, trivial⟩ HG1 hDl HP1 (by assumption) (.inr ⟨rfl, rfl⟩)))
      intro p hp
      simp only [List.mem_cons] at hp
      rcases hp with rfl | rfl | rfl | hp
      · exact hoff _ (.head _)
      · exact hoff (nd, oc) (.tail _ (.head _))
      · exact hoff _ (.tail _ (.tail _ (.head _)))
      · exact hoff p (.tail _ (.tail _ (.tail _ hp)))
    · cases hkx
  · intro h7 tk7 gn7 m7 n7 F7 N7 hJ
    have hJ : JC prog w P nd oc2 ps news r1 r2 2 m7 n7 gn7 := hJ
    cases hJ with
    | @b _ u _ D t0 t1 t2 t3 oc ps' v t HG7 hDl HP7 hoc hi =>
    rcases hi with ⟨e, _⟩ | ⟨_, rfl⟩
    · cases e
    k_steps
    rename Fr h₀ L _ m => kF; rename News h₀ L _ _ => kN
    have E1 : r2.e + r1.e = (r1.add r2).e := Int.add_comm _ _
    have E2 : r2.f + r1.f = (r1.add r2).f := Int.add_comm _ _
    have E3 : (r2.a - r2.f) + (r1.a - r1.f) = (r1.add r2).a - (r1.add r2).f := by show _ = (r1.a + r2.a) - (r1.f + r2.f); omega
    have E4 : (r2.b + r2.e) + (r1.b + r1.e) = (r1.add r2).b + (r1.add r2).e := by show _ = (r1.b + r2.b) + (r1.e + r2.e); omega
    have E5 : 2 * r1.e - r1.f + (2 * r2.e - r2.f) = 2 * (r1.add r2).e - (r1.add r2).f := by show _ = 2 * (r1.e + r2.e) - (r1.f + r2.f); omega
    rw [E5] at hoc
    rw [E1, E2, E3, E4] at kN
    exact hret _ _ _ _ _ _ kF (news_part kN fun p hp => mem_shuf2 hp) HP7 HG7 (List.forall_mem_cons.mpr ⟨hDl.2.1, List.forall_mem_cons.mpr ⟨hP9, HQ⟩⟩) (Grow.cons ⟨hDl.1, hDl.2.2⟩ (Grow.cons hA9 Grow.refl)) (CalIn.mk (.tail _ (.head _)) lo9 hoc (.head _))
inductive NilIn (prog : Program) (w : World) (news : Led) : Value → Prop
  | mk {d : Addr} {o : Obj} : (d, o) ∈ news → (d == sysModules) = false → o.IsDictOf (PySem.strKind prog w) [] → NilIn prog w news (.ref d)
set_option maxHeartbeats 4000000 in
theorem add_callers_nil_l {prog w mg mb news v1 v2 r2} (h1 : NilIn prog w news v1) (h2 : CalIn prog w news v2 r2) : Ct prog w mg mb 10 (.ref 56) [v1, v2] news (fun n v => CalIn prog w n v r2) := by
  intro dp un gd cn cs a ccd cl outer A₀ base h₀ L m s Q E B F X N T hk hdp hun hret
  cases h1 with | @mk d1 o1 hd1 lo1 hD1 =>
  cases h2 with | @mk d2 q2 o2 b4 b5 b6 b7 bh _ hd2 lo2 hD2 hq2 =>
  refine wpAny_call ?_
  k_dflt (refine code_defR (by exact rfl) (by exact rfl) (by assumption) (by k_asm) (by k_asm) (by k_asm) (by k_asm) (by k_asm) (by k_is) (by k_is) (by ktr_room) (by exact BindsTo.of_eq rfl) (by decide) (by exact locs rfl) (by exact rfl) (by exact rfl) (by exact rfl) ?_; k_whole; intro g'_k L'_k h'_k FG'_k F'_k N'_k B'_k X'_k T'_k st'_k hL'_k; (try dsimp only); (try k_fold))
  k_steps
  rename Fr _ _ _ _ => lF'; rename News _ _ _ _ => lN'
  rename_i nd hh9 oo9 l9 lo9 hs9 fs9 hi9 fi9 l10
  have hA9 : AllLt nd news := allLt_of l9
  with_unfolding_all ((refine' For_turns lF' ?_); k_whole; (refine MethodCall_ ?_); (refine ld lF' (by rfl) ?_); (refine kdl_method (knd := PySem.strKind _ _) PySem.F.slot_dict_items PySem.F.type_dict_items lN' (by k_mem) hD1 ?_); (refine callWith_method0 ?_); (refine kta_callItems (knd := PySem.strKind _ _) lF' lN' (by k_mem) hD1 lo1 ?_); intro h' hv' F' N'; (refine kta_items (knd := PySem.strKind _ _) (enc := PyData.str) (xs := []) (by rfl) F' N' hv' (by k_mem) hD1 (fun _ _ h => Value.isStrOf_shape h) (by rfl) ?_))
  clear lF' lN'
  intro I1 l1
  refine ItemsRest.zero (fun h3 tk3 F5 N5 => ?_)
  k_steps
  with_unfolding_all ((refine' For_turns F5 ?_); k_whole; (refine MethodCall_ ?_); (refine ld F5 (by rfl) ?_); (refine kdl_method (knd := PySem.strKind _ _) PySem.F.slot_dict_items PySem.F.type_dict_items N5 (by k_mem) hD2 ?_); (refine callWith_method0 ?_); (refine kta_callItems (knd := PySem.strKind _ _) F5 N5 (by k_mem) hD2 lo2 ?_); intro h' hv' F' N'; (refine kta_items (knd := PySem.strKind _ _) (enc := PyData.str) (xs := [Itm.pair (fun t => .str (Str.ofString "f") t) (.ref q2), Itm.pair (fun t => .str (Str.ofString "g") t) (.int (2 * r2.e - r2.f) bh)]) (by rfl) F' N' hv' (by k_mem) hD2 (fun _ _ h => Value.isStrOf_shape h) (by rfl) ?_))
  clear F5 N5
  intro I2 m1
  k_lt m1
  refine ItemsRest.pair (fun T1 t1 h1 tk1 hT1 F1 => AllObj.cons fun oi1 ho1 => AllObj.nil fun N1 => ?_)
  dsimp only [List.cons_append, List.nil_append] at N1
  refine gen2 fun Q9 E9 hQ9 => ?_
  k_steps
  rename Fr _ _ _ _ => F2; rename News _ _ _ _ => N2; rename Obj.IsDictOf (PySem.strKind prog w) _ _ => hc
  rename Obj => oc
  have hc1 : oc.IsDictOf (PySem.strKind prog w) [(Str.ofString "f", .ref q2)] := hc
  clear hc
  refine hQ9 _ _ (UnrPostW.fin F2 N2 (fun p hp q hq => ?_) ⟨by k_mem, trivial⟩ ?_)
  all_goals clear hQ9 Q9 E9
  · rw [List.mem_singleton.mp hq]
    exact Nat.ne_of_lt (allLt_mem (l := (_, oc) :: news) m1 p hp)
  refine ItemsRest.pair (fun T2 t2 h2 tk2 hT2 F3 => AllObj.cons fun oi2 ho2 => AllObj.nil fun N3 => ?_)
  dsimp only [List.cons_append, List.nil_append] at N3
  refine gen2 fun Q9 E9 hQ9 => ?_
  k_steps
  rename Fr _ _ _ _ => F4; rename News _ _ _ _ => N4; rename Obj.IsDictOf (PySem.strKind prog w) _ _ => hc
  rename Obj => oc2
  have hc2 : oc2.IsDictOf (PySem.strKind prog w) [(Str.ofString "f", .ref q2), (Str.ofString "g", .int (2 * r2.e - r2.f) bh)] := hc
  clear hc
  refine hQ9 _ _ (UnrPostW.fin F4 N4 (fun p hp q hq => ?_) ⟨by k_mem, trivial⟩ ?_)
  all_goals clear hQ9 Q9 E9
  · rw [List.mem_singleton.mp hq]
    exact Nat.ne_of_lt (allLt_mem (l := (_, oc2) :: news) m1 p hp)
  refine ItemsRest.zero (fun h3 tk3 F5 N5 => ?_)
  k_steps
  rename Fr h₀ L _ m => kF; rename News h₀ L _ _ => kN
  exact hret _ _ _ _ kF kN (Grow.cons hA9 Grow.refl) (CalIn.mk (.head _) lo9 hc2 (.tail _ hq2))
set_option maxHeartbeats 4000000 in
theorem add_callers_nil_r {prog w mg mb news v1 v2 r1} (h1 : CalIn prog w news v1 r1) (h2 : NilIn prog w news v2) : Ct prog w mg mb 10 (.ref 56) [v1, v2] news (fun n v => CalIn prog w n v r1) := by
  intro dp un gd cn cs a ccd cl outer A₀ base h₀ L m s Q E B F X N T hk hdp hun hret
  cases h1 with | @mk d1 q1 o1 a4 a5 a6 a7 ah _ hd1 lo1 hD1 hq1 =>
  cases h2 with | @mk d2 o2 hd2 lo2 hD2 =>
  refine wpAny_call ?_
  k_dflt (refine code_defR (by exact rfl) (by exact rfl) (by assumption) (by k_asm) (by k_asm) (by k_asm) (by k_asm) (by k_asm) (by k_is) (by k_is) (by ktr_room) (by exact BindsTo.of_eq rfl) (by decide) (by exact locs rfl) (by exact rfl) (by exact rfl) (by exact rfl) ?_; k_whole; intro g'_k L'_k h'_k FG'_k F'_k N'_k B'_k X'_k T'_k st'_k hL'_k; (try dsimp only); (try k_fold))
  k_steps
  rename Fr _ _ _ _ => lF'; rename News _ _ _ _ => lN'
  rename_i nd hh9 oo9 l9 lo9 hs9 fs9 hi9 fi9 l10
  have hA9 : AllLt nd news := allLt_of l9
  with_unfolding_all ((refine' For_turns lF' ?_); k_whole; (refine MethodCall_ ?_); (refine ld lF' (by rfl) ?_); (refine kdl_method (knd := PySem.strKind _ _) PySem.F.slot_dict_items PySem.F.type_dict_items lN' (by k_mem) hD1 ?_); (refine callWith_method0 ?_); (refine kta_callItems (knd := PySem.strKind _ _) lF' lN' (by k_mem) hD1 lo1 ?_); intro h' hv' F' N'; (refine kta_items (knd := PySem.strKind _ _) (enc := PyData.str) (xs := [Itm.pair (fun t => .str (Str.ofString "f") t) (.ref q1), Itm.pair (fun t => .str (Str.ofString "g") t) (.int (2 * r1.e - r1.f) ah)]) (by rfl) F' N' hv' (by k_mem) hD1 (fun _ _ h => Value.isStrOf_shape h) (by rfl) ?_))
  clear lF' lN'
  intro I1 l1
  k_lt l1
  refine ItemsRest.pair (fun T1 t1 h1 tk1 hT1 F1 => AllObj.cons fun oi1 ho1 => AllObj.nil fun N1 => ?_)
  dsimp only [List.cons_append, List.nil_append] at N1
  refine gen2 fun Q9 E9 hQ9 => ?_
  k_steps
  rename Fr _ _ _ _ => F2; rename News _ _ _ _ => N2; rename Obj.IsDictOf (PySem.strKind prog w) _ _ => hc
  rename Obj => oc
  have hc1 : oc.IsDictOf (PySem.strKind prog w) [(Str.ofString "f", .ref q1)] := hc
  clear hc
  refine hQ9 _ _ (UnrPostW.fin F2 N2 (fun p hp q hq => ?_) ⟨by k_mem, trivial⟩ ?_)
  all_goals clear hQ9 Q9 E9
  · rw [List.mem_singleton.mp hq]
    exact Nat.ne_of_lt (allLt_mem (l := (_, oc) :: news) l1 p hp)
  refine ItemsRest.pair (fun T2 t2 h2 tk2 hT2 F3 => AllObj.cons fun oi2 ho2 => AllObj.nil fun N3 => ?_)
  dsimp only [List.cons_append, List.nil_append] at N3
  refine gen2 fun Q9 E9 hQ9 => ?_
  k_steps
  rename Fr _ _ _ _ => F4; rename News _ _ _ _ => N4; rename Obj.IsDictOf (PySem.strKind prog w) _ _ => hc
  rename Obj => oc2
  have hc2 : oc2.IsDictOf (PySem.strKind prog w) [(Str.ofString "f", .ref q1), (Str.ofString "g", .int (2 * r1.e - r1.f) ah)] := hc
  clear hc
  refine hQ9 _ _ (UnrPostW.fin F4 N4 (fun p hp q hq => ?_) ⟨by k_mem, trivial⟩ ?_)
  all_goals clear hQ9 Q9 E9
  · rw [List.mem_singleton.mp hq]
    exact Nat.ne_of_lt (allLt_mem (l := (_, oc2) :: news) l1 p hp)
  refine ItemsRest.zero (fun h3 tk3 F5 N5 => ?_)
  rename Obj.IsDictOf (PySem.strKind prog w) oc [_] => hcx; clear hcx
  k_steps
  with_unfolding_all ((refine' For_turns F5 ?_); k_whole; (refine MethodCall_ ?_); (refine ld F5 (by rfl) ?_); (refine kdl_method (knd := PySem.strKind _ _) PySem.F.slot_dict_items PySem.F.type_dict_items N5 (by k_mem) hD2 ?_); (refine callWith_method0 ?_); (refine kta_callItems (knd := PySem.strKind _ _) F5 N5 (by k_mem) hD2 lo2 ?_); intro h' hv' F' N'; (refine kta_items (knd := PySem.strKind _ _) (enc := PyData.str) (xs := []) (by rfl) F' N' hv' (by k_mem) hD2 (fun _ _ h => Value.isStrOf_shape h) (by rfl) ?_))
  clear F5 N5
  intro I2 m1
  refine ItemsRest.zero (fun h3 tk3 F5 N5 => ?_)
  k_steps
  rename Fr h₀ L _ m => kF; rename News h₀ L _ _ => kN
  exact hret _ _ _ _ kF kN (Grow.cons hA9 Grow.refl) (CalIn.mk (.head _) lo9 hc2 (.tail _ hq1))
set_option maxHeartbeats 4000000 in
theorem add_stats_ct {prog w mg mb P news v1 v2 r1 r2} (h1 : EntryIn prog w news v1 r1) (h2 : EntryIn prog w news v2 r2) : CtG prog w mg mb P 20 (.ref 49) [v1, v2] news (fun n v => EntryIn prog w n v (r1.add r2)) := by
  intro dp un gd cn cs a ccd cl outer A₀ base h₀ L m s ps Q E B F X N T C M HP HG HQ hk hdp hun hret
  cases h1 with | @mk p1 d1 q1 o1 a0 a1 a2 a3 a4 a5 a6 a7 ah _ hp1 hd1 lo1 hD1 hq1 =>
  cases h2 with | @mk p2 d2 q2 o2 b0 b1 b2 b3 b4 b5 b6 b7 bh _ hp2 hd2 lo2 hD2 hq2 =>
  refine wpAny_call ?_
  k_dflt (refine code_defR (by exact rfl) (by exact rfl) (by assumption) (by k_asm) (by k_asm) (by k_asm) (by k_asm) (by k_asm) (by k_is) (by k_is) (by ktr_room) (by exact BindsTo.of_eq rfl) (by decide) (by exact locs rfl) (by exact rfl) (by exact rfl) (by exact rfl) ?_; k_whole; intro g'_k L'_k h'_k FG'_k F'_k N'_k B'_k X'_k T'_k st'_k hL'_k; (try dsimp only); (try k_fold))
  rename Heap.StaysIn h₀ _ => st9; rename TR mg mb _ => T9; rename Below _ _ _ _ => B9; rename Frag.In _ _ => X9
  k_steps
  rename Fr _ _ _ _ => F1; rename News _ _ _ _ => N1
  refine add_callers_ct (CalIn.mk hd1 lo1 hD1 hq1) (CalIn.mk hd2 lo2 hD2 hq2) _ _ _ _ _ _ _ _ _ _ _ _ _ _ _ _ _ _ B9 F1 X9 N1 T9 (C.keeps st9) (M.keeps st9) HP HG HQ rfl ?_ ?_ ?_
  · ktr_room
  · first | ktr_room | (dsimp only [ktrTop] at *; simp only [units_deeper] at *; omega)
  rintro r news1 h3 tk3 gn3 ps3 F3 N3 HP3 HG3 HQ3 gr3 ho3
  cases ho3 with | @mk d3 q3 o3 c4 c5 c6 c7 ch _ hd3 lo3 hD3 hq3 =>
  k_steps
  rename Fr h₀ L _ m => kF; rename News h₀ L _ _ => kN
  rename P < _ ∧ AllLt _ news1 => l9
  have E1 : r2.a + r1.a = (r1.add r2).a := Int.add_comm _ _
  have E2 : r2.b + r1.b = (r1.add r2).b := Int.add_comm _ _
  have E3 : r2.c + r1.c = (r1.add r2).c := Int.add_comm _ _
  have E4 : r2.d + r1.d = (r1.add r2).d := Int.add_comm _ _
  rw [E1, E2, E3, E4] at kN
  exact hret _ _ _ _ _ _ kF (news_part kN fun p hp => mem_swap hp) HP3 HG3 (List.forall_mem_cons.mpr ⟨l9.1, HQ3⟩) (Grow.cons l9.2 gr3) (EntryIn.mk (.head _) (.tail _ hd3) lo3 hD3 (.tail _ hq3))
inductive NilE (prog : Program) (w : World) (news : Led) : Value → Prop
  | mk {p : Addr} {t0 t1 t2 t3 : Tok} {v : Value} : (p, tupO [.int 0 t0, .int 0 t1, .int 0 t2, .int 0 t3, v]) ∈ news → NilIn prog w news v → NilE prog w news (.ref p)
theorem NilE.mkM {prog : Program} {w : World} {news : Led} {p d : Addr} {o : Obj} {t0 t1 t2 t3 : Tok} (a : (p, tupO [.int 0 t0, .int 0 t1, .int 0 t2, .int 0 t3, .ref d]) ∈ news) (c : o.IsDictOf (PySem.strKind prog w) []) (b : (d, o) ∈ news) (l : (d == sysModules) = false) : NilE prog w news (.ref p) := .mk a (.mk b l c)
set_option maxHeartbeats 4000000 in
theorem add_stats_nil_l {prog w mg mb news v1 v2 r2} (h1 : NilE prog w news v1) (h2 : EntryIn prog w news v2 r2) : Ct prog w mg mb 20 (.ref 49) [v1, v2] news (fun n v => EntryIn prog w n v r2) := by
  intro dp un gd cn cs a ccd cl outer A₀ base h₀ L m s Q E B F X N T hk hdp hun hret
  cases h1 with | @mk p1 a0 a1 a2 a3 vd hp1 hnil =>
  cases hnil with | @mk d1 o1 hd1 lo1 hD1 =>
  cases h2 with | @mk p2 d2 q2 o2 b0 b1 b2 b3 b4 b5 b6 b7 bh _ hp2 hd2 lo2 hD2 hq2 =>
  refine wpAny_call ?_
  k_dflt (refine code_defR (by exact rfl) (by exact rfl) (by assumption) (by k_asm) (by k_asm) (by k_asm) (by k_asm) (by k_asm) (by k_is) (by k_is) (by ktr_room) (by exact BindsTo.of_eq rfl) (by decide) (by exact locs rfl) (by exact rfl) (by exact rfl) (by exact rfl) ?_; k_whole; intro g'_k L'_k h'_k FG'_k F'_k N'_k B'_k X'_k T'_k st'_k hL'_k; (try dsimp only); (try k_fold))
  rename Heap.StaysIn h₀ _ => st9; rename TR mg mb _ => T9; rename Below _ _ _ _ => B9; rename Frag.In _ _ => X9
  k_steps
  rename Fr _ _ _ _ => F1; rename News _ _ _ _ => N1
  refine add_callers_nil_l (NilIn.mk hd1 lo1 hD1) (CalIn.mk hd2 lo2 hD2 hq2) _ _ _ _ _ _ _ _ _ _ _ _ _ _ _ _ _ B9 F1 X9 N1 T9 rfl ?_ ?_ ?_
  · ktr_room
  · ktr_room
  rintro r news1 h3 tk3 F3 N3 gr3 ho3
  cases ho3 with | @mk d3 q3 o3 c4 c5 c6 c7 ch _ hd3 lo3 hD3 hq3 =>
  k_steps
  rename Fr h₀ L _ m => kF; rename News h₀ L _ _ => kN
  simp only [Int.add_zero] at kN
  exact hret _ _ _ _ kF kN (by ktn_ord) (EntryIn.mk (.head _) (.tail _ hd3) lo3 hD3 (.tail _ hq3))
set_option maxHeartbeats 4000000 in
theorem add_stats_nil_r {prog w mg mb news v1 v2 r1} (h1 : EntryIn prog w news v1 r1) (h2 : NilE prog w news v2) : Ct prog w mg mb 20 (.ref 49) [v1, v2] news (fun n v => EntryIn prog w n v r1) := by
  intro dp un gd cn cs a ccd cl outer A₀ base h₀ L m s Q E B F X N T hk hdp hun hret
  cases h1 with | @mk p1 d1 q1 o1 a0 a1 a2 a3 a4 a5 a6 a7 ah _ hp1 hd1 lo1 hD1 hq1 =>
  cases h2 with | @mk p2 b0 b1 b2 b3 vd hp2 hnil =>
  cases hnil with | @mk d2 o2 hd2 lo2 hD2 =>
  refine wpAny_call ?_
  k_dflt (refine code_defR (by exact rfl) (by exact rfl) (by assumption) (by k_asm) (by k_asm) (by k_asm) (by k_asm) (by k_asm) (by k_is) (by k_is) (by ktr_room) (by exact BindsTo.of_eq rfl) (by decide) (by exact locs rfl) (by exact rfl) (by exact rfl) (by exact rfl) ?_; k_whole; intro g'_k L'_k h'_k FG'_k F'_k N'_k B'_k X'_k T'_k st'_k hL'_k; (try dsimp only); (try k_fold))
  rename Heap.StaysIn h₀ _ => st9; rename TR mg mb _ => T9; rename Below _ _ _ _ => B9; rename Frag.In _ _ => X9
  k_steps
  rename Fr _ _ _ _ => F1; rename News _ _ _ _ => N1
  refine add_callers_nil_r (CalIn.mk hd1 lo1 hD1 hq1) (NilIn.mk hd2 lo2 hD2) _ _ _ _ _ _ _ _ _ _ _ _ _ _ _ _ _ B9 F1 X9 N1 T9 rfl ?_ ?_ ?_
  · ktr_room
  · ktr_room
  rintro r news1 h3 tk3 F3 N3 gr3 ho3
  cases ho3 with | @mk d3 q3 o3 c4 c5 c6 c7 ch _ hd3 lo3 hD3 hq3 =>
  k_steps
  rename Fr h₀ L _ m => kF; rename News h₀ L _ _ => kN
  simp only [Int.zero_add] at kN
  exact hret _ _ _ _ kF kN (by ktn_ord) (EntryIn.mk (.head _) (.tail _ hd3) lo3 hD3 (.tail _ hq3))
theorem lay_9 : True := by
  k_with "exec Assign cons ListComp" => (k_here; k_dflt (refine compA (by with_unfolding_all rfl) (by with_unfolding_all rfl) (by rfl) (by decide) ?_ (by exact fun _ => rfl); k_whole))
  k_with "eval ListComp" => (k_here; k_dflt (refine compE (by with_unfolding_all rfl) (by rfl) (by decide) ?_ (by exact fun _ => rfl); k_whole))
  k_with "compareOp In int ref" => (k_here; k_dflt (refine in_ints_M (by k_asm) (by k_mem) (by assumption) ?_; k_whole))
  k_with "compareOp NotIn int ref" => (k_here; k_dflt (refine notin_ints_M (by k_asm) (by k_mem) (by assumption) ?_; k_whole))
  k_with "call ref" => (k_here; (with_reducible show wpAny _ _ (call (Value.ref 70) _) _ _ _); (refine Ct.use (by k_asm) (by k_asm) (by k_asm) (by k_asm) (by k_asm) (law_row_ct (by (refine EntryIn.mono (by with_reducible assumption) (by (intro p_k hp_k; (repeat (first | exact hp_k | refine Grow.mem (by with_reducible assumption) ?_ | refine List.Mem.tail _ ?_))))))) (by rfl) (by ktr_room) (by ktr_room) ?_); intro r7_k n7_k h7_k tk7_k F7_k N7_k g7_k o7_k)
  k_with "exec For" => (k_here; (with_reducible rename Fr _ _ _ _ => lF'_k); k_dflt (refine' For_turnsX lF'_k ?_); k_whole)
  k_with "exec Assign cons ListComp" => (k_here; k_dflt (refine wpAny_Assign_Name ?_ (by with_unfolding_all rfl); k_whole))
  k_with "subscriptTail Name Slice ref ref" => (k_here; (with_reducible show wpAny _ _ (subscriptTail _ (PySem.Expr.Slice none (some _) none _) (Value.ref _) (Value.ref _)) _ _ _); k_dflt (refine slice_uptoK (by k_asm) (by k_asm) (by k_mem) (by kmk_part) (by kmk_part) (by assumption) (by assumption) ?_ (by with_unfolding_all rfl) (by kmk_pure)); intro D'_k h'_k F'_k N'_k l1_k; (try k_lt l1_k))
  trivial
inductive IntL (news : Led) : Value → List Int → Prop
  | mk {l : Addr} {n : Nat} {vs : List Value} {is : List Int} : (l, listO vs n) ∈ news → IntsAre vs is → IntL news (.ref l) is
theorem comp_part {h₀ h : Heap} {L C D : Addr} {oC oD : Obj} {own news : Led} (N : News h₀ L h ((own ++ [(C, oC), (D, oD)]) ++ news)) : News h₀ L h ((C, oC) :: (D, oD) :: news) := news_part N fun p hp => by
  rcases List.mem_cons.mp hp with rfl | hp
  · exact List.mem_append_left _ (List.mem_append_right _ (.head _))
  · rcases List.mem_cons.mp hp with rfl | hp
    · exact List.mem_append_left _ (List.mem_append_right _ (.tail _ (.head _)))
    · exact List.mem_append_right _ hp
theorem news_top {h₀ h : Heap} {L : Addr} {x : Addr × Obj} {rest news : Led} (N : News h₀ L h (x :: rest)) (hs : ∀ p ∈ news, p ∈ rest) : News h₀ L h (x :: news) := news_part N fun p hp => by
  rcases List.mem_cons.mp hp with rfl | hp
  · exact .head _
  · exact .tail _ (hs p hp)
set_option maxHeartbeats 4000000 in
theorem law_near_ct {prog w mg mb news v1 bs code way t1 t2} (h1 : IntL news v1 bs) : Ct prog w mg mb 10 (.ref 75) [v1, .int code t1, .int way t2] news (fun n v => IntL (fresh news n) v (nearL bs code way)) := by
  intro dp un gd cn cs a ccd cl outer A₀ base h₀ L m s Q E B F X N T hk hdp hun hret
  cases h1 with | @mk lb nb bvs _ hlb hbs =>
  refine wpAny_call ?_
  k_dflt (first | (refine code_defCR (by exact rfl) (by exact rfl) (by assumption) (by k_asm) (by k_asm) (by k_asm) (by k_asm) (by k_asm) (by k_is) (by k_is) (by ktr_room) (by exact BindsTo.of_eq rfl) (by exact rfl) (by decide +kernel) (by exact rfl) (by exact rfl) (by exact rfl) ?_; k_whole; intro g'_k L'_k h'_k tk'_k cells'_k FG'_k F'_k N'_k Y'_k B'_k X'_k T'_k st'_k l1_k; (try k_lt l1_k); k_cells Y'_k; (try simp only [List.cons_append, List.nil_append] at N'_k); (try dsimp only); (try k_fold)) | (refine code_defR (by exact rfl) (by exact rfl) (by assumption) (by k_asm) (by k_asm) (by k_asm) (by k_asm) (by k_asm) (by k_is) (by k_is) (by ktr_room) (by exact BindsTo.of_eq rfl) (by decide) (by exact locs rfl) (by exact rfl) (by exact rfl) (by exact rfl) ?_; k_whole; intro g'_k L'_k h'_k FG'_k F'_k N'_k B'_k X'_k T'_k st'_k hL'_k; (try dsimp only); (try k_fold)))
  k_steps
  rename Fr _ _ _ _ => F1; rename News _ _ _ _ => N1
  refine filter_tuple (p := fun o => bs.any (· == o)) rfl (by decide) rfl rfl (by decide) F1 N1 (by k_mem) (.cons _ _ (.cons _ _ .nil)) (Nat.le_of_ble_eq_true rfl) ?_ ?_
  · intro o t C D oC m₂ own ys h tk Q E' hx hoC F2 N2 hQ
    replace N2 := comp_part N2
    k_steps
    exact hQ _
  · intro D C h tk m' ys F2 N2 hlt hn hC₀ hCL off hys
    refine postA ?pa F2 N2 hn hC₀ hCL off ?pb ?pc fun h' tk' F3 N3 => ?_
    case pa => rfl
    case pb => rfl
    case pc => rfl
    k_steps
    · rename Fr h₀ L _ m => kF; rename News h₀ L _ _ => kN
      rename decide _ = true => he
      have e : nearL bs code way = [99] := by unfold nearL nearC; rw [if_pos (of_decide_eq_true he), if_pos (by assumption)]
      have kN' := news_top (news := news) kN fun p hp => by repeat (first | exact hp | refine List.Mem.tail _ ?_)
      exact hret _ _ _ _ kF kN' (Grow.cons (by ktn_ord) Grow.refl) (IntL.mk (fr_mem (.head _) (by ktn_ord)) (by rw [e]; exact .cons _ _ .nil))
    · rename Fr h₀ L _ m => kF; rename News h₀ L _ _ => kN
      rename decide _ = true => he
      have e : nearL bs code way = [0] := by unfold nearL nearC; rw [if_pos (of_decide_eq_true he), if_neg (by assumption)]
      have kN' := news_top (news := news) kN fun p hp => by repeat (first | exact hp | refine List.Mem.tail _ ?_)
      exact hret _ _ _ _ kF kN' (Grow.cons (by ktn_ord) Grow.refl) (IntL.mk (fr_mem (.head _) (by ktn_ord)) (by rw [e]; exact .cons _ _ .nil))
    · rename Fr h₀ L _ m => kF; rename News h₀ L _ _ => kN
      rename decide _ = false => he
      have e : nearL bs code way = nearC bs code way := by unfold nearL; rw [if_neg (show ¬ nearC bs code way = [] from of_decide_eq_false he)]
      have hlD : AllLt D news := allLt_of fun p hp => hlt p (by repeat (first | exact hp | refine List.Mem.tail _ ?_))
      refine hret _ ((D, listO ys ys.length) :: news) _ _ kF (news_part kN fun p hp => ?_) (Grow.cons hlD Grow.refl) (IntL.mk (fr_mem (.head _) hlD) (by rw [e]; exact hys))
      rcases List.mem_cons.mp hp with rfl | hp
      · exact List.Mem.tail _ (List.Mem.head _)
      · repeat (first | exact hp | refine List.Mem.tail _ ?_)
theorem KeyL.mono {n n' : Led} {v : Value} {ks : List Key} (h : KeyL n v ks) (g : ∀ p ∈ n, p ∈ n') : KeyL n' v ks := by
  cases h with | mk a b => exact .mk (g _ a) (b.mono g)
set_option maxHeartbeats 4000000 in
theorem tuple_comp_ct {prog w mg mb news v ks} (h1 : KeyL news v ks) : Ct prog w mg mb 10 (.ref 38) [v] news (fun n v => CompIn prog w n v ks) := by
  intro dp un gd cn cs a ccd cl outer A₀ base h₀ L m s Q E B F X N T hk hdp hun hret
  refine call_cls (C := 38) (fI := 28) F X N ?_ ?_ ?_ fun x dx h' F' N' l1 l2 => ?_
  · k_is
  · k_is
  · k_is
  replace l1 := allLt_of l1
  k_lt2 l2
  k_dflt (first | (refine code_defCR (by exact rfl) (by exact rfl) (by assumption) (by k_asm) (by k_asm) (by k_asm) (by k_asm) (by k_asm) (by k_is) (by k_is) (by ktr_room) (by exact BindsTo.of_eq rfl) (by exact rfl) (by decide +kernel) (by exact rfl) (by exact rfl) (by exact rfl) ?_; k_whole; intro g'_k L'_k h'_k tk'_k cells'_k FG'_k F'_k N'_k Y'_k B'_k X'_k T'_k st'_k l1_k; (try k_lt l1_k); k_cells Y'_k; (try simp only [List.cons_append, List.nil_append] at N'_k); (try dsimp only); (try k_fold)) | (refine code_defR (by exact rfl) (by exact rfl) (by assumption) (by k_asm) (by k_asm) (by k_asm) (by k_asm) (by k_asm) (by k_is) (by k_is) (by ktr_room) (by exact BindsTo.of_eq rfl) (by decide) (by exact locs rfl) (by exact rfl) (by exact rfl) (by exact rfl) ?_; k_whole; intro g'_k L'_k h'_k FG'_k F'_k N'_k B'_k X'_k T'_k st'_k hL'_k; (try dsimp only); (try k_fold)))
  k_steps
  rename Fr h₀ L _ m => kF; rename News h₀ L _ _ => kN
  exact hret _ _ _ _ kF kN (Grow.cons ⟨l2, allLt_of fun p hp => Nat.lt_trans (allLt_mem l1 p hp) l2⟩ (Grow.cons l1 Grow.refl)) (CompIn.mk (.head _) (.tail _ (.head _)) (h1.mono fun p hp => .tail _ (.tail _ hp)))
local macro_rules | `(tactic| k_mem) => `(tactic| (refine' mem_of ?_; (with_reducible (repeat (first | exact List.mem_cons_self | refine List.mem_cons_of_mem _ ?_))); done))
local macro_rules | `(tactic| k_mem) => `(tactic| (refine' mem_of ?_; (repeat (with_reducible refine List.mem_cons_of_mem _ ?_)); with_reducible assumption))
theorem lay_10 : True := by
  k_with "eval Name" => (k_here; (with_reducible show wpAny _ _ (eval (PySem.Expr.Name _ _) (compEnvC _ _ _ _)) _ _ _); k_dflt (first | (name_kind "local"; refine own_M (by with_reducible assumption) (by with_reducible assumption) (by with_reducible assumption) (by (first | exact mem_of (List.Mem.head _) | k_mem)) ?_ (by rfl) (by rfl) (by decide); k_whole) | (name_kind "free"; refine free_M (by with_reducible assumption) (by rfl) (by with_reducible assumption) (by k_mem) ?_ (by rfl) (by rfl); k_whole) | (name_kind "cell"; refine cell_M (by with_reducible assumption) (by rfl) (by with_reducible assumption) (by k_mem) ?_ (by rfl) (by rfl); k_whole)))
  trivial
section
inductive TabIn (prog : Program) (w : World) (news : Led) : Value → List Int → (Int → Row) → Prop
  | mk {d : Addr} {o : Obj} {kvs : List (Int × Value)} {cs : List Int} {f : Int → Row} : (d, o) ∈ news → (d == sysModules) = false → o.IsDictOf (PySem.intKind prog w) kvs → kvs.length ≤ 8 → (∀ c ∈ cs, ∃ v, valueAt kvs c = some v ∧ EntryIn prog w news v (f c)) → TabIn prog w news (.ref d) cs f
theorem TabIn.mono {prog : Program} {w : World} {n n' : Led} {v : Value} {cs : List Int} {f : Int → Row} (h : TabIn prog w n v cs f) (g : ∀ p ∈ n, p ∈ n') : TabIn prog w n' v cs f := by
  cases h with | mk a b c d e => exact .mk (g _ a) b c d fun x hx => let ⟨v, p, q⟩ := e x hx; ⟨v, p, q.mono g⟩
theorem tab_item {prog : Program} {w : World} {A : Around} {E : Value → Shared → Prop} {s : Shared} {h₀ : Heap} {L d : Addr} {led n : Led} {value slice : Expr} {c : Int} {t : Tok} {cs : List Int} {f : Int → Row} {Q : Value → Shared → Prop} (N : News h₀ L s.heap led) (T : TabIn prog w n (.ref d) cs f) (hc : c ∈ cs) (g : ∀ p ∈ n, p ∈ led)
    (h : ∀ v, EntryIn prog w n v (f c) → Q v { s with toks := s.toks + 1 })
    (hs : subscripted slice false (.ref d) (.int c t) = operate [.ref d, .int c t] (getItem (.ref d) (.int c t)) := by with_unfolding_all rfl) :
    wpAny (model prog w) A (subscriptTail value slice (.ref d) (.int c t)) Q E s := by
  cases T with | mk a b cc dd e =>
  obtain ⟨v, hv, he⟩ := e c hc
  exact kdt_tail (knd := PySem.intKind _ _) N (g _ a) cc (kdt_getItem (knd := PySem.intKind _ _) N (g _ a) cc (intKind_is _ _ _ _) hv (h v he)) hs
theorem lay_11 : True := by
  k_with "subscriptTail" => (k_here; (with_reducible show wpAny _ _ (subscriptTail _ _ (Value.ref _) (Value.int _ _)) _ _ _); k_dflt (refine tab_item (by k_asm) (by with_reducible assumption) (by (first | assumption | k_mem)) (by (intro p_k hp_k; (repeat (first | exact hp_k | refine Grow.mem (by with_reducible assumption) ?_ | refine List.Mem.tail _ ?_)))) ?_; k_whole); intro v9_k hv9_k)
  trivial
theorem split_cell {h₀ h : Heap} {L : Addr} {x y : Addr × Obj} {I A c : Nat} {it lA oc : Obj} {news n : Led} (N : News h₀ L h (x :: y :: n)) (g : Grow ((I, it) :: (A, lA) :: (c, oc) :: news) n) (h1 : ∀ p ∈ news, p.1 < c) (h2 : c < A) (h3 : A < I) (hx : ∀ p ∈ y :: n, p.1 < x.1) :
    ∃ n2, News h₀ L h (x :: (I, it) :: (A, lA) :: (c, oc) :: n2) ∧ UpdF c oc (x :: (I, it) :: (A, lA) :: (c, oc) :: n2) (fun o' => x :: (I, it) :: (A, lA) :: (c, o') :: n2) ∧ Grow news n2 ∧ (∀ p ∈ n2, p.1 ≠ c ∧ p.1 ≠ A ∧ p.1 ≠ I ∧ p.1 < x.1) ∧ ∀ p ∈ fresh ((I, it) :: (A, lA) :: (c, oc) :: news) n, p ∈ n2 := by
  have h13 : c < I := Nat.lt_trans h2 h3
  have hin : ∀ p ∈ news ++ fresh ((I, it) :: (A, lA) :: (c, oc) :: news) n, p ∈ n := fun p hp => (List.mem_append.mp hp).elim (fun h => g.sub _ (.tail _ (.tail _ (.tail _ h)))) fun h => fresh_sub _ h
  have off : ∀ p ∈ news ++ fresh ((I, it) :: (A, lA) :: (c, oc) :: news) n, p.1 ≠ c ∧ p.1 ≠ A ∧ p.1 ≠ I ∧ p.1 < x.1 := fun p hp => by
    refine ⟨?_, ?_, ?_, hx p (.tail _ (hin p hp))⟩
    all_goals rcases List.mem_append.mp hp with h | h
    · exact Nat.ne_of_lt (h1 p h)
    · exact Nat.ne_of_gt ((fresh_mem.mp h).2 _ (.tail _ (.tail _ (.head _))))
    · exact Nat.ne_of_lt (Nat.lt_trans (h1 p h) h2)
    · exact Nat.ne_of_gt ((fresh_mem.mp h).2 _ (.tail _ (.head _)))
    · exact Nat.ne_of_lt (Nat.lt_trans (h1 p h) h13)
    · exact Nat.ne_of_gt ((fresh_mem.mp h).2 _ (.head _))
  have hxc : x.1 ≠ c := Nat.ne_of_gt (hx (c, oc) (.tail _ (g.sub _ (.tail _ (.tail _ (.head _))))))
  refine ⟨news ++ fresh ((I, it) :: (A, lA) :: (c, oc) :: news) n, fun p hp => ?_, .tail hxc (.tail (Nat.ne_of_gt h13) (.tail (Nat.ne_of_gt h2) (.head fun p hp => (off p hp).1))), ⟨fun p hp => List.mem_append_left _ hp, fun p hp => (List.mem_append.mp hp).imp id fun h => fun q hq => (fresh_mem.mp h).2 q (.tail _ (.tail _ (.tail _ hq)))⟩, off, fun p hp => List.mem_append_right _ hp⟩
  rcases List.mem_cons.mp hp with rfl | hp
  · exact N _ (.head _)
  refine N p (.tail _ (.tail _ ?_))
  rcases List.mem_cons.mp hp with rfl | hp
  · exact g.sub _ (.head _)
  rcases List.mem_cons.mp hp with rfl | hp
  · exact g.sub _ (.tail _ (.head _))
  rcases List.mem_cons.mp hp with rfl | hp
  · exact g.sub _ (.tail _ (.tail _ (.head _)))
  · exact hin p hp
theorem CompIn.mono {prog : Program} {w : World} {n n' : Led} {v : Value} {ks : List Key} (h : CompIn prog w n v ks) (g : ∀ p ∈ n, p ∈ n') : CompIn prog w n' v ks := by
  cases h with | mk a b c => exact .mk (g _ a) (g _ b) (c.mono g)
theorem lay_12 : True := by
  k_with "call ref" => (k_here; (with_reducible show wpAny _ _ (call (Value.ref 38) _) _ _ _); (refine Ct.use (by k_asm) (by k_asm) (by k_asm) (by k_asm) (by k_asm) (tuple_comp_ct (by (refine KeyL.mono (by with_reducible assumption) (by (intro p_k hp_k; (repeat (first | exact hp_k | refine Grow.mem (by with_reducible assumption) ?_ | refine List.Mem.tail _ ?_))))))) (by rfl) (by ktr_room) (by ktr_room) ?_); intro r7_k n7_k h7_k tk7_k F7_k N7_k g7_k o7_k)
  k_with "call ref" => (k_here; (with_reducible show wpAny _ _ (call (Value.ref 35) _) _ _ _); (refine Ct.use (by k_asm) (by k_asm) (by k_asm) (by k_asm) (by k_asm) (compare_ct (by (refine CompIn.mono (by with_reducible assumption) (by (intro p_k hp_k; (repeat (first | exact hp_k | refine Grow.mem (by with_reducible assumption) ?_ | refine List.Mem.tail _ ?_)))))) (by (refine RowIn.mono (by with_reducible assumption) (by (intro p_k hp_k; (repeat (first | exact hp_k | refine Grow.mem (by with_reducible assumption) ?_ | refine List.Mem.tail _ ?_)))))) (by (refine RowIn.mono (by with_reducible assumption) (by (intro p_k hp_k; (repeat (first | exact hp_k | refine Grow.mem (by with_reducible assumption) ?_ | refine List.Mem.tail _ ?_))))))) (by rfl) (by ktr_room) (by ktr_room) ?_); intro r7_k n7_k h7_k tk7_k F7_k N7_k g7_k o7_k)
  k_with "subscriptTail Name Name ref int" => (k_here; (with_reducible show wpAny _ _ (subscriptTail (PySem.Expr.Name (Str.ofString "gaps") _) _ (Value.ref _) (Value.int _ _)) _ _ _); k_dflt (refine gap_item (by with_reducible assumption) (by with_reducible assumption) (by k_mem) (by with_reducible assumption) (by with_reducible assumption) ?_; k_whole); intro t9_k)
  trivial
theorem bne_dec (x : Int) : (x != 0) = decide (¬ x = 0) := by by_cases h : x = 0 <;> simp [h]
set_option maxHeartbeats 4000000 in
theorem law_pick1_ct {prog w mg mb news v1 v2 v4 way many cs f c ks t3 t5} (h1 : TabIn prog w news v1 cs f) (h2 : IntL news v2 [c]) (hc : c ∈ cs) (h4 : KeyL news v4 ks) : Ct prog w mg mb 20 (.ref 80) [v1, v2, .int way t3, v4, .int many t5] news (fun n v => EntryIn prog w n v (f c)) := by
  intro dp un gd cn cs' a ccd cl outer A₀ base h₀ L m s Q E B F X N T hk hdp hun hret
  have h1' := h1
  cases h1' with | @mk d1 o1 kvs _ _ hd1 lo1 hD1 hl1 he1 =>
  cases h2 with | @mk lc nc cvs _ hlc hcs =>
  obtain ⟨tc, cvs', rfl, hcs'⟩ := hcs.cons_inv
  obtain rfl := hcs'.nil_inv
  refine wpAny_call ?_
  k_dflt (first | (refine code_defCR (by exact rfl) (by exact rfl) (by assumption) (by k_asm) (by k_asm) (by k_asm) (by k_asm) (by k_asm) (by k_is) (by k_is) (by ktr_room) (by exact BindsTo.of_eq rfl) (by exact rfl) (by decide +kernel) (by exact rfl) (by exact rfl) (by exact rfl) ?_; k_whole; intro g'_k L'_k h'_k tk'_k cells'_k FG'_k F'_k N'_k Y'_k B'_k X'_k T'_k st'_k l1_k; (try k_lt l1_k); k_cells Y'_k; (try simp only [List.cons_append, List.nil_append] at N'_k); (try dsimp only); (try k_fold)) | (refine code_defR (by exact rfl) (by exact rfl) (by assumption) (by k_asm) (by k_asm) (by k_asm) (by k_asm) (by k_asm) (by k_is) (by k_is) (by ktr_room) (by exact BindsTo.of_eq rfl) (by decide) (by exact locs rfl) (by exact rfl) (by exact rfl) (by exact rfl) ?_; k_whole; intro g'_k L'_k h'_k FG'_k F'_k N'_k B'_k X'_k T'_k st'_k hL'_k; (try dsimp only); (try k_fold)))
  k_steps
  rename Fr _ _ _ _ => F1; rename News _ _ _ _ => N1
  refine list_none rfl F1 N1 (n := 0) (.head _) fun h tk F2 N2 => ?_
  k_steps
  rename Fr h₀ L _ m => kF; rename News h₀ L _ _ => kN
  exact hret _ news _ _ kF (news_part kN fun p hp => .tail _ (.tail _ hp)) Grow.refl (by assumption)
theorem add_ints_M {prog : Program} {w : World} {A : Around} {E : Value → Shared → Prop} {s : Shared} {h₀ : Heap} {L a b : Addr} {m : Str → Option Value} {news : Led} {na nb : Nat} {vs ws : List Value} {ns ms : List Int} {Q : Value → Shared → Prop} (F : Fr h₀ L s.heap m) (N : News h₀ L s.heap news) (ha : (a, listO vs na) ∈ news) (hb : (b, listO ws nb) ∈ news) (hi : IntsAre vs ns) (hj : IntsAre ws ms) (hz : vs.length ≤ 99) (hw : ws.length ≤ 99)
    (h : ∀ D us h', Fr h₀ L h' m → News h₀ L h' ((D, listO us 0) :: news) → (∀ p ∈ news, p.1 < D) → IntsAre us (ns ++ ms) → Q (.ref D) { s with heap := h' }) : wpAny (model prog w) A (binaryOp .Add (.ref a) (.ref b)) Q E s :=
  kmk_add_ints F N (N.isList ha) (N.isList hb) hi hj h (by rw [← hi.length, ← hj.length, sizeLine_eq]; exact Nat.le_trans (Nat.add_le_add hz hw) (Nat.le_of_ble_eq_true rfl))
theorem sign_item {prog : Program} {w : World} {A : Around} {E : Value → Shared → Prop} {s : Shared} {h₀ : Heap} {L l : Addr} {n : Nat} {led : Led} {value slice : Expr} {vs : List Value} {u v : Row} {ks : List Key} {t : Tok} {Q : Value → Shared → Prop} (N : News h₀ L s.heap led) (hi : IntsAre vs (signsL (fun i => u.get i - v.get i) ks ++ [0])) (hm : (l, listO vs n) ∈ led)
    (h : ∀ t, Q (.int (cmpK ks u v) t) s) (hs : subscripted slice false (.ref l) (.int 0 t) = operate [.ref l, .int 0 t] (getItem (.ref l) (.int 0 t)) := by with_unfolding_all rfl) :
    wpAny (model prog w) A (subscriptTail value slice (.ref l) (.int 0 t)) Q E s := by
  obtain ⟨t', e⟩ := hi.get 0 (cmpK ks u v) (signs_cmp fun _ _ => rfl)
  exact item_lstM N hm (by decide) (by decide) e (h t') hs
theorem signs_len {g : Int → Int} {ks : List Key} : (signsL g ks).length ≤ ks.length := List.length_filterMap_le _ _
theorem lay_13 : True := by
  k_with "binaryOp Add ref ref" => (k_here; (with_reducible show wpAny _ _ (binaryOp Operator.Add (Value.ref _) (Value.ref _)) _ _ _); k_dflt (refine add_ints_M (by with_reducible assumption) (by with_reducible assumption) (by k_mem) (by k_mem) (by with_reducible assumption) (by exact IntsAre.cons _ _ IntsAre.nil) (by with_reducible assumption) (by exact Nat.le_of_ble_eq_true rfl) ?_; k_whole); intro D'_k us9_k h'_k F'_k N'_k l1_k hus9_k; (try k_lt l1_k))
  k_with "subscriptTail Name Name ref int" => (k_here; (with_reducible show wpAny _ _ (subscriptTail (PySem.Expr.Name (Str.ofString "table") _) _ (Value.ref _) (Value.int _ _)) _ _ _); k_dflt (refine tab_item (by with_reducible assumption) (by with_reducible assumption) (by with_reducible assumption) (by with_reducible assumption) ?_; k_whole); intro v8_k hv8_k)
  k_with "subscriptTail BinOp" => (k_here; (with_reducible show wpAny _ _ (subscriptTail (PySem.Expr.BinOp _ _ _ _) _ (Value.ref _) (Value.int _ _)) _ _ _); k_dflt (refine sign_item (by with_reducible assumption) (by with_reducible assumption) (by k_mem) ?_; k_whole); intro t9_k)
  trivial
set_option maxHeartbeats 8000000 in
theorem law_pick2_ct {prog w mg mb news v1 v2 v4 way many cs f c1 c2 ks t3 t5} (h1 : TabIn prog w news v1 cs f) (h2 : IntL news v2 [c1, c2]) (hc1 : c1 ∈ cs) (hc2 : c2 ∈ cs) (h4 : KeyL news v4 ks) (hm0 : 0 ≤ many) (hk8 : ks.length ≤ 8) (hway : way = 1 ∨ way = -1) : Ct prog w mg mb 20 (.ref 80) [v1, v2, .int way t3, v4, .int many t5] news (fun n v => EntryIn prog w n v (pick2 ks way (f c1) (f c2))) := by
  intro dp un gd cn cs' a ccd cl outer A₀ base h₀ L m s Q E B F X N T hk hdp hun hret
  have h1' := h1
  cases h1' with | @mk d1 o1 kvs _ _ hd1 lo1 hD1 hl1 he1 =>
  cases h2 with | @mk lc nc cvs _ hlc hcs =>
  obtain ⟨tc, cvs', rfl, hcs'⟩ := hcs.cons_inv
  obtain ⟨tc2, cvs2, rfl, hcs2⟩ := hcs'.cons_inv
  obtain rfl := hcs2.nil_inv
  cases h4 with | @mk lk nk kvl _ hlk hks =>
  have hz8 : kvl.length ≤ sizeLine := by rw [sizeLine_eq, hks.len]; exact Nat.le_trans hk8 (Nat.le_of_ble_eq_true rfl)
  refine wpAny_call ?_
  k_dflt (first | (refine code_defCR (by exact rfl) (by exact rfl) (by assumption) (by k_asm) (by k_asm) (by k_asm) (by k_asm) (by k_asm) (by k_is) (by k_is) (by ktr_room) (by exact BindsTo.of_eq rfl) (by exact rfl) (by decide +kernel) (by exact rfl) (by exact rfl) (by exact rfl) ?_; k_whole; intro g'_k L'_k h'_k tk'_k cells'_k FG'_k F'_k N'_k Y'_k B'_k X'_k T'_k st'_k l1_k; (try k_lt l1_k); k_cells Y'_k; (try simp only [List.cons_append, List.nil_append] at N'_k); (try dsimp only); (try k_fold)) | (refine code_defR (by exact rfl) (by exact rfl) (by assumption) (by k_asm) (by k_asm) (by k_asm) (by k_asm) (by k_asm) (by k_is) (by k_is) (by ktr_room) (by exact BindsTo.of_eq rfl) (by decide) (by exact locs rfl) (by exact rfl) (by exact rfl) (by exact rfl) ?_; k_whole; intro g'_k L'_k h'_k FG'_k F'_k N'_k B'_k X'_k T'_k st'_k hL'_k; (try dsimp only); (try k_fold)))
  k_steps
  rename Fr _ _ _ _ => F1; rename News _ _ _ _ => N1
  rename EntryIn _ _ _ _ _ => he9
  obtain ⟨v9, rfl, he9⟩ : ∃ v, v = _ ∧ EntryIn prog w news v (f c1) := ⟨_, rfl, he9⟩
  rename ∀ p ∈ news, p.1 < _ => hL9
  obtain ⟨LL, rfl, hL9⟩ : ∃ LL, LL = _ ∧ ∀ p ∈ news, p.1 < LL := ⟨_, rfl, hL9⟩
  rename _ ∧ AllLt _ news => lA9
  have lD9 := lA9.1
  rename Obj.data _ = _ => dC9
  refine list_once rfl F1 N1 (n := 0) (.head _) (fun m₁ n₁ => ∃ vb u, m₁ = cf [(Str.ofString "best", vb)] u ∧ EntryIn prog w n₁ vb (pick2 ks way (f c1) (f c2)) ∧ Grow news n₁) (fun I h tk it hI F2 N2 => ?_) ?_
  · refine gen2q fun Q8 hQ8 => ?_
    obtain ⟨A9, rfl, hI⟩ : ∃ A9, A9 = _ ∧ ∀ p ∈ (A9, W.listOf #[Value.int c2 tc2] 0) :: _, p.1 < I := ⟨_, rfl, hI⟩
    k_steps
    rename RowIn _ _ (f c2) => ho2
    rename RowIn _ _ (f c1) => ho1
    cases ho1 with | @mk p1 a0 a1 a2 a3 a4 a5 _ m1 =>
    cases ho2 with | @mk p2 b0 b1 b2 b3 b4 b5 _ m2 =>
    rename Fr _ _ _ _ => F3; rename News _ _ _ _ => N3
    rename Grow _ _ => g2
    rename Grow ((I, it) :: _) _ => g1
    have q1 := g2.mem (fresh_sub _ m1)
    have q2 := fresh_sub _ m2
    refine zip_news F3 N3 (.tail _ q1) (.tail _ q2) fun b h' hb Z F4 N4 lt4 l4 => ?_
    refine comp_diff (is := (f c1).list) (js := (f c2).list) rfl (by decide) rfl rfl rfl (by decide) (by decide) (by decide) (.cons _ _ (.cons _ _ (.cons _ _ (.cons _ _ (.cons _ _ (.cons _ _ .nil)))))) (.cons _ _ (.cons _ _ (.cons _ _ (.cons _ _ (.cons _ _ (.cons _ _ .nil)))))) rfl (lt4 _ (.tail _ q1)) (lt4 _ (.tail _ q2)) Z (Nat.le_trans F4.above (Nat.le_of_lt l4)) l4 (N4 _ (.tail _ q1)).2.1 (N4 _ (.tail _ q2)).2.1 lt4 F4 N4 (Nat.le_of_ble_eq_true rfl) ?_
    intro D C h5 tk5 m5 ys F5 N5 hltD hn hC₀ hCL off hys
    refine postE F5 N5 hn hC₀ hCL off fun h6 F6 N6 => ?_
    have gg := Grow.trans g1 g2
    have y1 := fresh_keep g2 _ m1
    have y2 := fresh_up g1 _ m2
    obtain ⟨n2, N7, U7, gn, off7, hf7⟩ := split_cell N6 gg (fun p hp => Nat.lt_succ_of_lt (hL9 p hp)) lD9 (hI _ (.head _)) hltD
    refine storeX_C F6 N7 rfl U7 dC9 fun h7 o8 F8 N8 dC8 => ?_
    have hlk2 := gn.mem hlk
    have z1 := hf7 _ y1
    have z2 := hf7 _ y2
    clear N6 N7 U7 N5 N4 N3 F3 F4 F5 F6 Z hn hC₀ hCL off
    k_steps
    rename Fr _ _ _ _ => F9; rename News _ _ _ _ => N9
    obtain ⟨BB, hBB, N9⟩ : ∃ BB, BB = _ ∧ News _ _ _ BB := ⟨_, rfl, N9⟩
    have hn2 : ∀ p ∈ n2, p ∈ BB := by rw [hBB]; intro p hp; repeat (first | exact hp | refine List.Mem.tail _ ?_)
    have hks9 : KeysIn BB kvl ks := hks.mono fun p hp => hn2 p (gn.sub p hp)
    have hlk9 : KeyL BB (.ref lk) ks := .mk (hn2 _ hlk2) hks9
    have hD9 : (D, LCg.lst ys) ∈ BB := by rw [hBB]; k_mem
    have hc9 : (LL + 1, o8) ∈ BB := by rw [hBB]; k_mem
    have hr1 : RowIn BB (.ref p1) (f c1) := .mk (hn2 _ z1)
    have hr2 : RowIn BB (.ref p2) (f c2) := .mk (hn2 _ z2)
    refine' tuple_fix (fun i m => ∃ u V tv, m = cf [(Str.ofString "one", .ref p1), (Str.ofString "other", .ref p2), (Str.ofString "best", v9), (Str.ofString "table", .ref d1), (Str.ofString "code", .int c2 tc2), (Str.ofString "way", .int way t3), (Str.ofString "verdict", .int V tv)] u ∧ (i = 2 → V = cmpK ks (f c1) (f c2))) rfl F9 N9 ?hm9 ?hz9 ?hs9 ?hd9
    case hm9 => rw [hBB]; k_mem
    case hz9 => exact ⟨_, _, _, cf_of ⟨rfl, rfl, rfl, rfl, rfl, rfl, rfl, trivial⟩, fun e => absurd e (by decide)⟩
    case hs9 =>
      rintro I2 i v m1 h9 tk9 it9 hI2 hv ⟨u, V, tv, rfl, -⟩ F10 N10
      have hv' : ∃ ki, KeyL BB v ki ∧ ki.length ≤ 8 ∧ (i + 1 = 2 → ki = ks) := by
        match i, hv with
        | 0, hv =>
          cases hv
          refine ⟨ks.take many.toNat, ?_, Nat.le_trans (by rw [List.length_take]; exact Nat.min_le_right _ _) hk8, fun e => absurd e (by decide)⟩
          refine KeyL.mk (n := 0) (vs := kvl.take many.toNat) ?_ (hks9.take _)
          rw [hBB]; k_mem
        | 1, hv =>
          cases hv
          exact ⟨ks, hlk9, hk8, fun _ => rfl⟩
        | _ + 2, hv => simp at hv
      obtain ⟨ki, hki, hk9, hik⟩ := hv'
      clear hBB
      refine gen2 fun Q9 E9 hQ9 => ?_
      k_steps
      rename CompIn _ _ _ _ _ => hcmp
      cases hcmp with | @mk x9 dx9 nx tkx vx _ hx9 hdx9 hkl9 =>
      have hcmp := CompIn.mk (prog := prog) (w := w) hx9 hdx9 hkl9
      k_steps
      rename ∃ t, _ = Value.int (cmpK ki _ _) t => o9
      obtain ⟨tv9, rfl⟩ := o9
      rename Grow _ _ => k2
      rename Grow ((I2, it9) :: BB) _ => k1
      have kk := k1.trans k2
      cases hki with | @mk lv nv vvs _ hlv hvks =>
      rename Fr _ _ _ _ => F11; rename News _ _ _ _ => N11
      have hB9 : ∀ p ∈ BB, p ∈ _ := fun p hp => kk.sub p (.tail _ hp)
      have hlv2 := hB9 _ hlv
      have hcell2 := hB9 _ hc9
      have hgap2 := hB9 _ hD9
      refine comp_signs (g := fun i => (f c1).get i - (f c2).get i) rfl (by decide) rfl rfl rfl (by decide) F11 N11 hlv2 (hvks.mono hB9) (by rw [sizeLine_eq, hvks.len]; exact Nat.le_trans hk9 (Nat.le_of_ble_eq_true rfl)) ?_ ?_ ?_
      · intro i d t u C D8 oC m₂ own ys8 h tk Q E' h0 h6 ex ey hoC F2 N2 hQ
        replace N2 := comp_part N2
        k_steps
        rw [show ((f c1).get i - (f c2).get i != 0) = decide (¬ (f c1).get i - (f c2).get i = 0) from bne_dec _]
        exact hQ _
      · intro i d t u C D8 oC m₂ own ys8 h tk Q E' h0 h6 hg ex ey hoC F2 N2 hQ
        replace N2 := comp_part N2
        k_steps
        · have hh := hQ u
          simp only [if_pos (show 0 < (f c1).get i - (f c2).get i by assumption)] at hh
          exact hh _
        · have hh := fun t' => hQ t'
          simp only [if_neg (show ¬ 0 < (f c1).get i - (f c2).get i by assumption)] at hh
          exact hh _ _
      · intro D8 C h tk m' ys8 F2 N2 hlt8 hn hC₀ hCL off hys8
        have hz9 : ys8.length ≤ 99 := by rw [hys8.length]; exact Nat.le_trans signs_len (Nat.le_trans hk9 (Nat.le_of_ble_eq_true rfl))
        refine postE F2 N2 hn hC₀ hCL off fun h' F3 N3 => ?_
        k_steps
        · exfalso
          first
            | (rename _ ≠ _ => hb; exact hb rfl)
            | (rename ¬ _ = _ => hb; exact hb rfl)
            | (rename (!_) = true => hb; simp at hb)
        · rename Fr _ _ _ _ => F12; rename News _ _ _ _ => N12
          refine hQ9 _ _ (FPost.fin F12 (news_part N12 fun p hp => ?_) ⟨_, _, _, cf_of ⟨rfl, rfl, rfl, rfl, rfl, rfl, rfl, trivial⟩, fun e => by rw [hik e]⟩)
          repeat (first | exact kk.sub p hp | refine List.Mem.tail _ ?_)
    case hd9 =>
      rintro m9 h9 tk9 ⟨u, V, tv, rfl, hV⟩ F10 N10
      obtain rfl := hV rfl
      have hnB : ∀ p ∈ news, p ∈ BB := fun p hp => hn2 p (gn.sub p hp)
      have hpart : ∀ p ∈ (I, it) :: (A9, W.listOf #[Value.int c2 tc2] 0) :: n2, p ∈ BB := by
        rw [hBB]; intro p hp
        rcases List.mem_cons.mp hp with rfl | hp
        · k_mem
        rcases List.mem_cons.mp hp with rfl | hp
        · k_mem
        repeat refine List.mem_cons_of_mem _ ?_
        exact hp
      have hoff : ∀ p ∈ (A9, W.listOf #[Value.int c2 tc2] 0) :: n2, ∀ q ∈ [(I, it)], p.1 ≠ q.1 := fun p hp q hq => by
        rw [List.mem_singleton.mp hq]
        rcases List.mem_cons.mp hp with rfl | hp
        · exact Nat.ne_of_lt (hI _ (.head _))
        · exact (off7 p hp).2.2.1
      have gnA : Grow news ((A9, W.listOf #[Value.int c2 tc2] 0) :: n2) := ⟨fun p hp => .tail _ (gn.sub p hp), fun p hp => by
        rcases List.mem_cons.mp hp with rfl | hp
        · exact .inr fun q hq => Nat.lt_trans (hL9 q hq) (Nat.lt_trans (Nat.lt_succ_self _) lD9)
        · exact gn.new p hp⟩
      clear hBB hl1 he1 hD1
      rcases hway with rfl | rfl
      · k_steps
        · have e : pick2 ks 1 (f c1) (f c2) = f c2 := if_pos (by omega)
          rename Fr _ _ _ _ => F12; rename News _ _ _ _ => N12
          exact hQ8 _ _ (TPost.fin F12 (news_part N12 hpart) hoff ⟨.head _, _, _, cf_of ⟨rfl, trivial⟩, by rw [e]; exact EntryIn.mono (n := news) (by assumption) fun p hp => .tail _ (gn.sub p hp), gnA⟩)
        · have e : pick2 ks 1 (f c1) (f c2) = f c1 := if_neg (by omega)
          rename Fr _ _ _ _ => F12; rename News _ _ _ _ => N12
          exact hQ8 _ _ (TPost.fin F12 (news_part N12 hpart) hoff ⟨.head _, _, _, cf_of ⟨rfl, trivial⟩, by rw [e]; exact he9.mono fun p hp => .tail _ (gn.sub p hp), gnA⟩)
      · k_steps
        · have e : pick2 ks (-1) (f c1) (f c2) = f c2 := if_pos (by omega)
          rename Fr _ _ _ _ => F12; rename News _ _ _ _ => N12
          exact hQ8 _ _ (TPost.fin F12 (news_part N12 hpart) hoff ⟨.head _, _, _, cf_of ⟨rfl, trivial⟩, by rw [e]; exact EntryIn.mono (n := news) (by assumption) fun p hp => .tail _ (gn.sub p hp), gnA⟩)
        · have e : pick2 ks (-1) (f c1) (f c2) = f c1 := if_neg (by omega)
          rename Fr _ _ _ _ => F12; rename News _ _ _ _ => N12
          exact hQ8 _ _ (TPost.fin F12 (news_part N12 hpart) hoff ⟨.head _, _, _, cf_of ⟨rfl, trivial⟩, by rw [e]; exact he9.mono fun p hp => .tail _ (gn.sub p hp), gnA⟩)
  intro m9 n9 h9 tk9 hP F9 N9
  obtain ⟨vb, u, rfl, hbe, hgr⟩ := hP
  k_steps
  rename Fr h₀ L _ m => kF; rename News h₀ L _ _ => kN
  exact hret _ _ _ _ kF kN hgr hbe
theorem law_pick_ct {prog w mg mb news v1 v2 v4 way many cs codes f ks t3 t5} (h1 : TabIn prog w news v1 cs f) (h2 : IntL news v2 codes) (hne : codes ≠ []) (hl : codes.length ≤ 2) (hc : ∀ c ∈ codes, c ∈ cs) (h4 : KeyL news v4 ks) (hm0 : 0 ≤ many) (hk8 : ks.length ≤ 8) (hway : way = 1 ∨ way = -1) : Ct prog w mg mb 20 (.ref 80) [v1, v2, .int way t3, v4, .int many t5] news (fun n v => EntryIn prog w n v (pickL ks way f codes)) :=
  match codes, hne, hl with
  | [c], _, _ => law_pick1_ct h1 h2 (hc c (.head _)) h4
  | [c, d], _, _ => law_pick2_ct h1 h2 (hc c (.head _)) (hc d (.tail _ (.head _))) h4 hm0 hk8 hway
  | _ :: _ :: _ :: _, _, hl => absurd hl (by simp)
end
theorem lay_14 : True := by
  k_with_none
  k_with "eval Dict" => (k_here; k_dflt (refine kdn_str (by rfl) (by k_asm) (by k_asm) (by exact TopRead.nolimit (by k_asm)) (by rfl) (by rfl) (by exact List.cons_ne_nil _ _) (by exact Nat.le_of_ble_eq_true rfl) ?_); intro d'_k h'_k o'_k F'_k N'_k l1_k lo'_k hd'_k; (try k_lt l1_k))
  k_with "subscriptTail" => (k_here; (with_reducible show wpAny _ _ (subscriptTail _ (PySem.Expr.Slice none (some _) none _) (Value.ref _) (Value.ref _)) _ _ _); k_dflt (refine slice_tuple_uptoK (by k_asm) (by k_asm) (by k_mem) (by decide) (by exact Nat.le_of_ble_eq_true rfl) (by kl_lit) (by exact Nat.le_of_ble_eq_true rfl) ?_ (by with_unfolding_all rfl) (by kmk_pure)); intro D'_k h'_k F'_k N'_k l1_k; (try k_lt l1_k); (try k_sweep))
  k_with "subscriptTail" => (k_here; (with_reducible show wpAny _ _ (subscriptTail _ _ (Value.ref _) (Value.int _ _)) _ _ _); k_dflt (refine item_tupM (by k_asm) (by k_mem) (by decide) (by decide) (by rfl) (by rfl) ?_; k_whole))
  k_with "subscriptTail" => (k_here; (with_reducible show wpAny _ _ (subscriptTail _ _ (Value.ref _) (Value.int _ _)) _ _ _); k_dflt (refine item_lstM (by k_asm) (by k_mem) (by decide) (by decide) (by rfl) ?_; k_whole))
  k_with "subscriptTail" => (k_here; first | ((with_reducible show wpAny _ _ (subscriptTail _ _ (Value.ref _) (Value.str _ _)) _ _ _); k_dflt (refine kdt_tail (knd := PySem.strKind _ _) (by k_asm) (by k_mem) (by k_asm) (kdt_getItem (knd := PySem.strKind _ _) (by k_asm) (by k_mem) (by k_asm) (strKind_is _ _ _ _) (by rfl) ?_))) | ((with_reducible show wpAny _ _ (subscriptTail _ _ (Value.ref _) (Value.int _ _)) _ _ _); k_dflt (refine kdt_tail (knd := PySem.intKind _ _) (by k_asm) (by k_mem) (by k_asm) (kdt_getItem (knd := PySem.intKind _ _) (by k_asm) (by k_mem) (by k_asm) (intKind_is _ _ _ _) (by rfl) ?_))))
  k_with "compareOp In str ref" => (k_here; k_dflt (first | (refine kda_in (knd := PySem.strKind _ _) (by k_asm) (by k_mem) (by k_asm) (by k_asm) (strKind_is _ _ _ _) true (by rfl) ?_) | (refine kda_in (knd := PySem.strKind _ _) (by k_asm) (by k_mem) (by k_asm) (by k_asm) (strKind_is _ _ _ _) false (by rfl) ?_)))
  k_with "setItem ref str" => (k_here; k_dflt (refine kda_set (knd := PySem.strKind _ _) (by k_asm) (by k_asm) (by k_updF) (by k_asm) (strKind_is _ _ _ _) (by (rw [sizeLine_eq]; exact Nat.le_of_ble_eq_true (by with_unfolding_all rfl))) ?_); intro h'_k o'_k F'_k N'_k hd'_k; (try dsimp only at N'_k))
  k_with "call builtin:isinstance" => (k_here; (with_reducible show wpAny _ _ (call _ [Value.ref _, Value.type "tuple"]) _ _ _); k_dflt (refine isi_tuple (by k_asm) (by k_mem) ?_; k_whole))
  k_with "call type:zip" => (k_here; k_dflt (refine zip_news (by k_asm) (by k_asm) (by k_mem) (by k_mem) ?_); intro b5_k h5_k hb5_k Z5_k F5_k N5_k lt5_k l5_k)
  k_with "call type:tuple" => (k_here; k_dflt (refine tuple_gen (by k_asm) (by k_asm) (by assumption) (by assumption) (by assumption) (by assumption) (by exact Nat.le_of_ble_eq_true rfl) ?_); intro D5_k vals5_k h5_k tk5_k gn5_k hl5_k hv5_k F5_k N5_k lt5_k G5_k; (try k_lt lt5_k))
  k_with "exec Assign cons ListComp" => (k_here; k_dflt (refine compA (by with_unfolding_all rfl) (by with_unfolding_all rfl) (by rfl) (by decide) ?_ (by exact fun _ => rfl); k_whole))
  k_with "eval ListComp" => (k_here; k_dflt (refine compE (by with_unfolding_all rfl) (by rfl) (by decide) ?_ (by exact fun _ => rfl); k_whole))
  k_with "compareOp In int ref" => (k_here; k_dflt (refine in_ints_M (by k_asm) (by k_mem) (by assumption) ?_; k_whole))
  k_with "compareOp NotIn int ref" => (k_here; k_dflt (refine notin_ints_M (by k_asm) (by k_mem) (by assumption) ?_; k_whole))
  k_with "call ref" => (k_here; (with_reducible show wpAny _ _ (call (Value.ref 70) _) _ _ _); (refine Ct.use (by k_asm) (by k_asm) (by k_asm) (by k_asm) (by k_asm) (law_row_ct (by (refine EntryIn.mono (by with_reducible assumption) (by (intro p_k hp_k; (repeat (first | exact hp_k | refine Grow.mem (by with_reducible assumption) ?_ | refine List.Mem.tail _ ?_))))))) (by rfl) (by ktr_room) (by ktr_room) ?_); intro r7_k n7_k h7_k tk7_k F7_k N7_k g7_k o7_k)
  k_with "exec For" => (k_here; (with_reducible rename Fr _ _ _ _ => lF'_k); k_dflt (refine' For_turnsX lF'_k ?_); k_whole)
  k_with "exec Assign cons ListComp" => (k_here; k_dflt (refine wpAny_Assign_Name ?_ (by with_unfolding_all rfl); k_whole))
  k_with "subscriptTail Name Slice ref ref" => (k_here; (with_reducible show wpAny _ _ (subscriptTail _ (PySem.Expr.Slice none (some _) none _) (Value.ref _) (Value.ref _)) _ _ _); k_dflt (refine slice_uptoK (by k_asm) (by k_asm) (by k_mem) (by kmk_part) (by kmk_part) (by assumption) (by assumption) ?_ (by with_unfolding_all rfl) (by kmk_pure)); intro D'_k h'_k F'_k N'_k l1_k; (try k_lt l1_k))
  k_with "eval Name" => (k_here; (with_reducible show wpAny _ _ (eval (PySem.Expr.Name _ _) (compEnvC _ _ _ _)) _ _ _); k_dflt (first | (name_kind "local"; refine own_M (by with_reducible assumption) (by with_reducible assumption) (by with_reducible assumption) (by (first | exact mem_of (List.Mem.head _) | k_mem)) ?_ (by rfl) (by rfl) (by decide); k_whole) | (name_kind "free"; refine free_M (by with_reducible assumption) (by rfl) (by with_reducible assumption) (by k_mem) ?_ (by rfl) (by rfl); k_whole) | (name_kind "cell"; refine cell_M (by with_reducible assumption) (by rfl) (by with_reducible assumption) (by k_mem) ?_ (by rfl) (by rfl); k_whole)))
  trivial
/-- any parameters: the defs' texts do not hang on them -/
def par0 : PySem.Params := { strHash := fun _ => 0, shareClass := fun _ => 0, mergeTok := fun t => t, idOf := fun _ => 0, idOfShared := fun _ _ => 0, followText := fun _ => false, idOfImm := fun _ => 0 }
noncomputable def fnAt (a : Addr) : FuncData := match (hd.heap_39 par0).lookup a with
  | some ⟨_, _, .func fd, _⟩ => fd
  | _ => default
noncomputable def bodyAt (a : Addr) : List Stmt := match (fnAt a).body with
  | .stmts b => b
  | _ => []
def nthS : List Stmt → Nat → Stmt
  | [], _ => .Pass ⟨0, 0, 0, 0⟩
  | x :: _, 0 => x
  | _ :: r, n + 1 => nthS r n
def inFor : Stmt → List Stmt
  | .For _ _ b _ _ => b
  | _ => []
def inIf : Stmt → List Stmt
  | .If _ b _ _ => b
  | _ => []
noncomputable def runScope : Scope := (fnAt 85).scope
noncomputable def runB : List Stmt := bodyAt 85
noncomputable def turnB : List Stmt := inFor (nthS runB 5)
noncomputable def stepB : List Stmt := inFor (nthS turnB 1)
noncomputable def readyB : List Stmt := inFor (nthS stepB 1)
noncomputable def checkB : List Stmt := inFor (nthS turnB 4)
abbrev runCl (LL : Nat) : List (Str × Addr) := [(Str.ofString "done", LL + 5), (Str.ofString "table", LL + 4), (Str.ofString "rows", LL + 3), (Str.ofString "places", LL + 2), (Str.ofString "cells", LL + 1)]
abbrev NoE : Value → Shared → Prop := fun _ _ => False
/-- past profiles -/
def RTab (prog : Program) (w : World) (n : Led) (v : Value) (bs : List Int) (f : Int → Row) : Prop :=
  ∃ (e : Addr) (o : Obj) (kvs : List (Int × Value)), v = .ref e ∧ (e, o) ∈ n ∧ (e == sysModules) = false ∧ o.IsDictOf (PySem.intKind prog w) kvs ∧ ∀ c ∈ bs, ∃ x, valueAt kvs c = some x ∧ RowIn n x (f c)
structure Past (prog : Program) (w : World) (n : Led) (d pp : Addr) (bs : List Int) (g : Nat → Int → Row) (i : Nat) (pvs : List Value) : Prop where
  len : pvs.length = i + 1
  at' : ∀ j v, pvs[j]? = some v → RTab prog w n v bs (g j) ∧ v ≠ .ref d
structure Core (prog : Program) (w : World) (P d pp : Nat) (n0 : Led) (bs : List Int) (g : Nat → Int → Row) (i : Nat) (f : Int → Row) (n : Led) : Prop where
  tab : ∃ ps, (P, tabObj ps) ∈ n ∧ TriplesOk ps.toList
  low : ∀ p ∈ n, P ≤ p.1
  sub : ∀ p ∈ n0, p ∈ n
  t : TabIn prog w n (.ref d) (0 :: 99 :: bs) f
  past : ∃ pvs np, (pp, listO pvs np) ∈ n ∧ Past prog w n d pp bs g i pvs
section
variable {prog : Program} {w : World}
theorem RTab.mono {n n' : Led} {v : Value} {bs : List Int} {f : Int → Row} (h : RTab prog w n v bs f) (k : ∀ p ∈ n, p ∈ n') : RTab prog w n' v bs f := by
  obtain ⟨e, o, kvs, a, b, c, d, x⟩ := h
  exact ⟨e, o, kvs, a, k _ b, c, d, fun c hc => let ⟨x, p, q⟩ := x c hc; ⟨x, p, q.mono k⟩⟩
theorem IntL.mono {n n' : Led} {v : Value} {is : List Int} (h : IntL n v is) (k : ∀ p ∈ n, p ∈ n') : IntL n' v is := by
  cases h with | mk a b => exact .mk (k _ a) b
theorem Past.mono {n n' : Led} {d pp : Addr} {bs : List Int} {g : Nat → Int → Row} {i : Nat} {pvs : List Value} (h : Past prog w n d pp bs g i pvs) (k : ∀ p ∈ n, p ∈ n') : Past prog w n' d pp bs g i pvs :=
  ⟨h.len, fun j v e => ⟨(h.at' j v e).1.mono k, (h.at' j v e).2⟩⟩
variable {P d pp : Nat} {n0 n n' : Led} {bs : List Int} {g : Nat → Int → Row} {i : Nat} {f : Int → Row}
theorem Core.mono (K : Core prog w P d pp n0 bs g i f n) (k : ∀ p ∈ n, p ∈ n') (hl : ∀ p ∈ n', P ≤ p.1) : Core prog w P d pp n0 bs g i f n' where
  tab := let ⟨ps, a, b⟩ := K.tab; ⟨ps, k _ a, b⟩
  low := hl
  sub := fun p hp => k p (K.sub p hp)
  t := K.t.mono k
  past := let ⟨pvs, np, a, b⟩ := K.past; ⟨pvs, np, k _ a, b.mono k⟩
theorem Core.grow (K : Core prog w P d pp n0 bs g i f n) (k : Grow n n') : Core prog w P d pp n0 bs g i f n' :=
  K.mono k.sub fun p hp => (k.new p hp).elim (K.low p) fun h => let ⟨_, a, _⟩ := K.tab; Nat.le_of_lt (h _ a)
theorem sub_mem {a b : Led} {p : Addr × Obj} (h : ∀ p ∈ a, p ∈ b) (hp : p ∈ a) : p ∈ b := h p hp
theorem RowL.mono {n n' : Led} {v : Value} {r : Row} (h : RowL n v r) (g : ∀ p ∈ n, p ∈ n') : RowL n' v r := by
  cases h with | mk a => exact .mk (g _ a)
theorem Board.near {bs : List Int} {tp : Int} (hb : Board bs tp) : ∀ c ∈ bs, (nearL bs c 1 ≠ [] ∧ (nearL bs c 1).length ≤ 2 ∧ ∀ x ∈ nearL bs c 1, x ∈ 0 :: 99 :: bs) ∧ (nearL bs c (-1) ≠ [] ∧ (nearL bs c (-1)).length ≤ 2 ∧ ∀ x ∈ nearL bs c (-1), x ∈ 0 :: 99 :: bs) := by
  rcases hb with ⟨rfl, rfl⟩ | ⟨rfl, rfl⟩ | ⟨rfl, rfl⟩ <;> decide
theorem fr_know {h₀ h : Heap} {L : Addr} {m : Str → Option Value} (F : Fr h₀ L h m) {l : List (Str × Value)} (k : Knows m l) : Fr h₀ L h (cf l m) := by
  have := cf_of k
  rw [← this]
  exact F
/-- what of the ledger never turns in the run -/
structure Fix (P d pp LL : Nat) (n0 : Led) (lc lb lr : Addr) (vk : Value) (cis : List Int) (ks : List Key) (bs : List Int) (tp : Int) (r0 r1 : Row) : Prop where
  off : ∀ p ∈ n0, p.1 ≠ P ∧ p.1 ≠ d ∧ p.1 ≠ pp ∧ p.1 ≠ LL + 5
  c1 : ∃ o, (LL + 1, o) ∈ n0 ∧ o.data = .cell (some (.ref lc))
  c3 : ∃ o, (LL + 3, o) ∈ n0 ∧ o.data = .cell (some (.ref lr))
  c4 : ∃ o, (LL + 4, o) ∈ n0 ∧ o.data = .cell (some (.ref d))
  cells : ∃ vs n, (lc, listO vs n) ∈ n0 ∧ IntsAre vs cis
  keys : KeyL n0 vk ks
  board : IntL n0 (.ref lb) bs
  rows : ∃ v0 v1 rest n, (lr, listO (v0 :: v1 :: rest) n) ∈ n0 ∧ RowL n0 v0 r0 ∧ RowL n0 v1 r1
  hb : Board bs tp
  hk : KeysOk ks
  hk8 : ks.length ≤ 8
theorem cell_name {A : Around} {E : Value → Shared → Prop} {s : Shared} {env : Env} {h₀ : Heap} {L c : Addr} {news : Led} {o : Obj} {v : Value} {x : Str} {pos : Pos} {Q : Value → Shared → Prop} (N : News h₀ L s.heap news) (hc : env.cells.lookup x = some c) (hm : (c, o) ∈ news) (hd : o.data = .cell (some v)) (h : Q v s)
    (hk : env.scope.kind = .function) (hx : env.kindOf x = some .cell) (hb : (x == ("__debug__" : Str)) = false) : wpAny (model prog w) A (eval (.Name x pos) env) Q E s :=
  wpAny_Name (wpAny_loadName_cell hk hx hc ⟨o, N.get hm, hd⟩ h) hb
structure Amb (prog : Program) (w : World) (mg mb : Str → Option Value) (P : Nat) (dp un : Nat) (outer : List Env) (A₀ : Around) (base h₀ : Heap) : Prop where
  B : Below A₀ base outer h₀
  X : (hd.heap_39 w.params).In h₀
  T : TR mg mb h₀
  C : CH h₀ 55 P
  M : BM mg h₀
  hdp : dp + 30 < recursionLimit
  hun : un + 240 < cLine
noncomputable abbrev RunA (dp un : Nat) (gd : Option (List Code)) (LL : Nat) (outer : List Env) : Around := ktrTop dp un gd (Str.ofString "_law_run") runScope LL 85 (.ref 84) (runCl LL) outer
noncomputable abbrev RunE (LL : Nat) : Env := envX (Str.ofString "_law_run") runScope LL 85 (.ref 84) (runCl LL)
abbrev kv (x : String) (v : Value) : Str × Value := (Str.ofString x, v)
theorem append_M {A : Around} {E : Value → Shared → Prop} {s : Shared} {h₀ : Heap} {L rd : Addr} {m : Str → Option Value} {led : Led} {rvs : List Value} {nr : Nat} {v : Value} {Q : Value → Shared → Prop} (F : Fr h₀ L s.heap m) (N : News h₀ L s.heap led) (hm : (rd, listO rvs nr) ∈ led) (hz : rvs.length ≤ sizeLine)
    (h : ∀ h', Fr h₀ L h' m → News h₀ L h' ((rd, listO (rvs ++ [v]) (nr + 1)) :: carve rd led) → Q .none { s with heap := h' }) : wpAny (model prog w) A (call (.builtin "list.append") [.ref rd, v]) Q E s := by
  have ho := N _ hm
  refine append_at (hsz := by show rvs.toArray.size ≤ sizeLine; rw [List.size_toArray]; exact hz) ho.1 fun h' hs hD => ?_
  refine h h' (F.change hs ho.2.1 ho.2.2) fun p hp => ?_
  rcases List.mem_cons.mp hp with rfl | hp
  · exact ⟨hD.trans (by simp [listO]), ho.2⟩
  · have z := N _ (carve_sub p hp)
    exact ⟨hs.extBut _ _ (carve_off p hp) z.1, z.2⟩
theorem grow_carve {n n1 n7 : Led} {I : Addr} {it : Obj} (g : Grow n n1) (g7 : Grow ((I, it) :: n1) n7) (hI : ∀ p ∈ n, p.1 < I) : Grow n (carve I n7) :=
  ⟨fun p hp => carve_mem.mpr ⟨g7.sub p (.tail _ (g.sub p hp)), Nat.ne_of_lt (hI p hp)⟩, fun p hp => by
    obtain ⟨hp, hne⟩ := carve_mem.mp hp
    rcases g7.new p hp with h | h
    · rcases List.mem_cons.mp h with rfl | h
      · exact absurd rfl hne
      · exact g.new p h
    · exact .inr fun q hq => h q (.tail _ (g.sub q hq))⟩
theorem news_carve {h₀ h : Heap} {L I : Addr} {it : Obj} {n : Led} (N : News h₀ L h n) (hI : (I, it) ∈ n) : News h₀ L h ((I, it) :: carve I n) := carve_news N hI
theorem filter_snoc {is : List Int} {p : Int → Bool} {j : Nat} {o : Int} (h : is[j]? = some o) : (is.take (j + 1)).filter p = (is.take j).filter p ++ (if p o = true then [o] else []) := take_filter_succ h
theorem rdy_no1 {bs dl : List Int} {c : Int} (h : (dl.any fun x => x == c) = true) : isRdy bs dl c = false := by
  have hm : c ∈ dl := by
    obtain ⟨x, hx, e⟩ := List.any_eq_true.mp h
    rw [beq_iff_eq] at e
    exact e ▸ hx
  unfold isRdy
  rw [decide_eq_false (by simpa using hm), Bool.false_and]
theorem nin_dec {dl : List Int} (o : Int) : (!(dl.any fun x => x == o)) = decide (o ∉ dl) := by
  by_cases h : o ∈ dl
  · rw [decide_eq_false (by simpa using h), List.any_eq_true.mpr ⟨o, h, by simp⟩]; rfl
  · rw [decide_eq_true h]
    cases e : dl.any fun x => x == o with
    | false => rfl
    | true =>
      obtain ⟨x, hx, e'⟩ := List.any_eq_true.mp e
      rw [beq_iff_eq] at e'
      exact absurd (e' ▸ hx) h
theorem rdy_is {bs dl : List Int} {c : Int} (h : (dl.any fun x => x == c) = false) : isRdy bs dl c = decide ((nearL bs c 1).filter (fun o => !(dl.any fun x => x == o)) = []) := by
  have hm := nin_dec (dl := dl) c
  rw [h] at hm
  unfold isRdy
  rw [← hm, Bool.not_false, Bool.true_and, show (fun o => !(dl.any fun x => x == o)) = fun o => decide (o ∉ dl) from funext fun o => nin_dec o]
theorem near_len {bs : List Int} {c way : Int} : (nearL bs c way).length ≤ 2 := by
  unfold nearL nearC
  split
  · split <;> exact Nat.le_of_ble_eq_true rfl
  · exact List.length_filter_le _ _
theorem grow_put {n a : Led} {rd : Addr} {o : Obj} (g : Grow n a) (hl : ∀ p ∈ n, p.1 < rd) : Grow n ((rd, o) :: carve rd a) :=
  ⟨fun p hp => .tail _ (carve_mem.mpr ⟨g.sub p hp, Nat.ne_of_lt (hl p hp)⟩), fun p hp => by
    rcases List.mem_cons.mp hp with rfl | hp
    · exact .inr hl
    · exact g.new p (carve_sub p hp)⟩
theorem carve_in {a : Led} {c : Addr} {p : Addr × Obj} (h : p ∈ a) (hne : p.1 ≠ c) : p ∈ carve c a := carve_mem.mpr ⟨h, hne⟩
theorem len_M {A : Around} {E : Value → Shared → Prop} {s : Shared} {h₀ : Heap} {L l : Addr} {led : Led} {vs : List Value} {is : List Int} {n : Nat} {Q : Value → Shared → Prop} (N : News h₀ L s.heap led) (hm : (l, listO vs n) ∈ led) (hi : IntsAre vs is) (hz : is.length ≤ 99)
    (h : ∀ t tk, Q (.int (is.length : Int) t) { s with toks := tk }) : wpAny (model prog w) A (call (.builtin "len") [.ref l]) Q E s := by
  have e : vs.toArray.size = is.length := by rw [List.size_toArray, hi.length]
  refine Calls.call_len_list (N.isList hm) (by rw [e]; omega) ?_
  rw [e]
  exact h _ _
theorem item_intM {A : Around} {E : Value → Shared → Prop} {s : Shared} {h₀ : Heap} {L l : Addr} {led : Led} {vs : List Value} {is : List Int} {n : Nat} {k : Int} {u : Tok} {value slice : Expr} {Q : Value → Shared → Prop} (N : News h₀ L s.heap led) (hm : (l, listO vs n) ∈ led) (hi : IntsAre vs is) (h0 : 0 ≤ k) (hk : k < is.length) (hz : is.length ≤ 99)
    (h : ∀ c t, is[k.toNat]? = some c → Q (.int c t) s) (hs : subscripted slice false (.ref l) (.int k u) = operate [.ref l, .int k u] (getItem (.ref l) (.int k u)) := by with_unfolding_all rfl) : wpAny (model prog w) A (subscriptTail value slice (.ref l) (.int k u)) Q E s := by
  have hlt : k.toNat < is.length := by omega
  obtain ⟨t, e⟩ := hi.get k.toNat is[k.toNat] (List.getElem?_eq_getElem hlt)
  exact item_lstM N hm h0 (by omega) e (h _ t (List.getElem?_eq_getElem hlt)) hs
end
open LCg (NsObj ns_obj lst lst_snoc)
section
variable {prog : Program} {w : World} {A : Around} {E : Value → Shared → Prop} {s : Shared} {h₀ : Heap} {L : Addr} {m : Str → Option Value} {env : Env}
variable {scope : Scope} {cl : List (Str × Addr)} {pos : Pos} {RR : Value → Addr → Result → Shared → Prop} {news : Led}
theorem comp_neg {ax : Addr} {vs : List Value} {is : List Int} {kn : Nat} {x : Str} {px p1 p2 : Pos} {iter : Expr} (hh : A.handled = none) (hcell : ∀ y ∈ scope.names, y.2 ≠ .cell) (hkind : scope.kind = .function) (hx : scope.names.lookup x = some .local) (hdx : (x == ("__debug__" : Str)) = false)
    (F : Fr h₀ L s.heap m) (N : News h₀ L s.heap news) (hm : (ax, ({ cls := .type "tuple", data := .seq vs.toArray kn } : Obj)) ∈ news) (hi : IntsAre vs is) (hsz : vs.length ≤ sizeLine)
    (hRR : ∀ D C h tk m' ys, Fr h₀ L h m → News h₀ L h ((D, lst ys) :: news) → (∀ p ∈ news, p.1 < D) → h.Ns C m' → h₀.get? C = none → C ≠ L → (∀ p ∈ (D, lst ys) :: news, p.1 ≠ C) → IntsAre ys (is.map fun x => -x) →
      RR (.ref D) C (.ok .next) { s with heap := h, toks := tk }) :
    wpAny (model prog w) A (pyIter (.ref ax)) (fun it s₂ => CBlk prog w A env (.Name x px) (.UnaryOp .USub (.Name x p1) p2) iter [] scope pos cl RR E it s₂) E s := by
  refine comp_tuple (V := fun i m₂ => ∃ o t, is[i]? = some o ∧ m₂ x = some (.int o t)) (fun i ys n => IntsAre ys ((is.take i).map fun x => -x) ∧ n = news) hh hcell hkind F N hm hsz ⟨by rw [List.take_zero]; exact .nil, rfl⟩
    (fun C i v ys news₁ s m₂ Q E hv hI N₁ hn k => ?_)
    (fun i ys news₁ h tk own C D oC m₂ wr E' hj hV hI hoC F₁ N₁ off _ => ?_)
    (fun D C h tk m' ys news' F₁ N₁ _ hlt hn hC hCL off hI => ?_)
  · obtain ⟨o, t, rfl, ho⟩ := hi.at i v hv
    exact asg_name hkind hx hn fun h' tk m₃ a b c => k h' tk m₃ a ⟨o, t, ho, b⟩ c
  · obtain ⟨o, t, ho, ex⟩ := hV
    obtain ⟨hI, rfl⟩ := hI
    have hC : (C, oC) ∈ (own ++ [(C, oC), (D, lst ys)]) ++ news₁ := List.mem_append_left _ (List.mem_append_right _ (.head _))
    have kf : (compEnvC scope cl C env).scope.kind = .function := by simp [compEnvC, relabel, hkind]
    refine compTests_nil ?_
    simp only [if_true]
    refine wpAny_UnaryOp (LCgL.ld_own N₁ hC hoC ex (neg_int ?_) kf (lookup_relabel_local hx) hdx)
    refine ⟨h, _, _, rfl, F₁, N₁, off, ?_, rfl⟩
    rw [List.take_add_one, ho, Option.toList_some, List.map_append]
    exact hI.append (.cons _ _ .nil)
  · obtain ⟨hI, rfl⟩ := hI
    rw [hi.length, List.take_length] at hI
    exact hRR D C h tk m' ys F₁ N₁ hlt hn hC hCL off hI
theorem rowL_of {n : Led} {D : Addr} {ys : List Value} {k : Nat} {r : Row} (hm : (D, ({ cls := .type "list", data := .seq ys.toArray k } : Obj)) ∈ n) (hi : IntsAre ys r.list) : RowL n (.ref D) r := by
  obtain ⟨t0, ys0, rfl, h0⟩ := hi.cons_inv
  obtain ⟨t1, ys1, rfl, h1⟩ := h0.cons_inv
  obtain ⟨t2, ys2, rfl, h2⟩ := h1.cons_inv
  obtain ⟨t3, ys3, rfl, h3⟩ := h2.cons_inv
  obtain ⟨t4, ys4, rfl, h4⟩ := h3.cons_inv
  obtain ⟨t5, ys5, rfl, h5⟩ := h4.cons_inv
  obtain rfl := h5.nil_inv
  exact .mk hm
theorem ld_globalR {K : Frag} {C : Addr} {x : Str} {px : Pos} {v : Value} {mg mb : Str → Option Value} {Q : Value → Shared → Prop} (F : Fr h₀ L s.heap m) (X : K.In h₀) (T : TR mg mb h₀) (e : nsIn K mainGlobals x = some (some v)) (h : Q v s) (hg : env.globals = mainGlobals)
    (hk : (compEnvC scope cl C env).scope.kind = .function) (hx : (compEnvC scope cl C env).kindOf x = some .globalImplicit) (hd : (x == ("__debug__" : Str)) = false) :
    wpAny (model prog w) A (eval (.Name x px) (compEnvC scope cl C env)) Q E s :=
  Name_function_global hk hx (loadGlobal_global (env := compEnvC scope cl C env) (show s.heap.Ns env.globals mg from hg ▸ (T.keeps F.keep).g) (mg_of X T.g e) h) hd
theorem ld_builtR {K : Frag} {C : Addr} {x : Str} {px : Pos} {v : Value} {mg mb : Str → Option Value} {Q : Value → Shared → Prop} (F : Fr h₀ L s.heap m) (X : K.In h₀) (T : TR mg mb h₀) (e : nsIn K mainGlobals x = some none) (hv : bootBuiltins x = some v) (hn : x ≠ "__name__") (h : Q v s) (hg : env.globals = mainGlobals) (hb : env.builtins = builtinsNs)
    (hk : (compEnvC scope cl C env).scope.kind = .function) (hx : (compEnvC scope cl C env).kindOf x = some .globalImplicit) (hd : (x == ("__debug__" : Str)) = false) :
    wpAny (model prog w) A (eval (.Name x px) (compEnvC scope cl C env)) Q E s :=
  Name_function_global hk hx (loadGlobal_builtin (env := compEnvC scope cl C env) (show s.heap.Ns env.globals mg from hg ▸ (T.keeps F.keep).g) (mg_none_of X T.g e) (show s.heap.Ns env.builtins mb from hb ▸ (T.keeps F.keep).b) ((T.builtins x hn).trans hv) h) hd
end
theorem rng0 : ∀ n : Nat, n < 16 → Builtin.Range.small 0 (n : Int) 1 = true ∧ Builtin.Range.rangeSize 0 (n : Int) 1 = ((n : Nat) : Int) := by decide +kernel
theorem rng1 : ∀ n : Nat, n < 16 → Builtin.Range.small 1 ((n : Int) + 1) 1 = true ∧ Builtin.Range.rangeSize 1 ((n : Int) + 1) 1 = ((n : Nat) : Int) := by decide +kernel
theorem valueAt_cons {k : Int} {v : Value} {r : List (Int × Value)} {c : Int} : valueAt ((k, v) :: r) c = if k = c then some v else valueAt r c := by
  unfold valueAt
  rw [List.find?_cons]
  by_cases h : k = c
  · simp [h]
  · simp [h]
theorem valueAt_map {c : Int} {v : Value} : ∀ {kvs : List (Int × Value)} {x : Int}, (∃ u, valueAt kvs c = some u) → valueAt (kvs.map fun kv => if kv.1 = c then (kv.1, v) else kv) x = if x = c then some v else valueAt kvs x
  | [], x, h => by obtain ⟨u, h⟩ := h; simp [valueAt] at h
  | (k, w) :: r, x, h => by
    rw [List.map_cons]
    by_cases hk : k = c
    · subst hk
      simp only [if_true]
      rw [valueAt_cons, valueAt_cons]
      by_cases hx : k = x
      · subst hx; simp
      · rw [if_neg hx, if_neg (Ne.symm hx), if_neg hx]
        -- the rest: no other entry matters for x
        have : ∀ (r : List (Int × Value)), valueAt (r.map fun kv => if kv.1 = k then (kv.1, v) else kv) x = valueAt r x := by
          intro r
          induction r with
          | nil => rfl
          | cons q r ih =>
            obtain ⟨q1, q2⟩ := q
            rw [List.map_cons]
            by_cases hq : q1 = k
            · subst hq
              simp only [if_true]
              rw [valueAt_cons, valueAt_cons, if_neg hx, if_neg hx, ih]
            · simp only [hq, if_false]
              rw [valueAt_cons, valueAt_cons, ih]
        exact this r
    · simp only [hk, if_false]
      rw [valueAt_cons, valueAt_cons]
      have h' : ∃ u, valueAt r c = some u := by
        obtain ⟨u, h⟩ := h
        rw [valueAt_cons, if_neg hk] at h
        exact ⟨u, h⟩
      rw [valueAt_map h']
      by_cases hx : k = x
      · subst hx; rw [if_pos rfl, if_neg hk, if_pos rfl]
      · rw [if_neg hx, if_neg hx]
theorem has_any {kvs : List (Int × Value)} {c : Int} {u : Value} (h : valueAt kvs c = some u) : (kvs.any fun kv => kv.1 = c) = true := by
  unfold valueAt at h
  rw [Option.map_eq_some_iff] at h
  obtain ⟨a, ha, -⟩ := h
  have := List.find?_some ha
  exact List.any_eq_true.mpr ⟨a, List.mem_of_find?_eq_some ha, this⟩
theorem stored_at {kvs : List (Int × Value)} {c x : Int} {u v : Value} (h : valueAt kvs c = some u) : valueAt (stored kvs c v) x = if x = c then some v else valueAt kvs x := by
  unfold stored
  rw [if_pos (has_any h)]
  exact valueAt_map ⟨u, h⟩
theorem stored_len {kvs : List (Int × Value)} {c : Int} {u v : Value} (h : valueAt kvs c = some u) : (stored kvs c v).length = kvs.length := by
  unfold stored
  rw [if_pos (has_any h), List.length_map]
section
variable {prog : Program} {w : World}
/-- an object that may be written: no tuple, no dict -/
structure CellN (prog : Program) (w : World) (o : Obj) : Prop extends CellO prog w o where
  i : ∀ kvs, ¬ o.IsDictOf (PySem.intKind prog w) kvs
theorem NoDat.cellN {o : Obj} (h : NoDat o) : CellN prog w o := ⟨h.cell, fun kvs hd => by
  obtain ⟨es, ep, he, _⟩ := hd
  exact h.d he.1⟩
theorem celln_list {vs : List Value} {n : Nat} : CellN prog w (listO vs n) := ⟨cell_list, fun kvs hd => by
  obtain ⟨es, ep, he, _⟩ := hd
  exact absurd (show Value.type "list" = Value.type "dict" from he.1) (by decide)⟩
theorem celln_tab {ps : Array Value} : CellN prog w (tabObj ps) := ⟨cell_tab, fun kvs hd => by
  obtain ⟨es, ep, he, _⟩ := hd
  exact absurd (show Value.none = Value.type "dict" from he.1) (by decide)⟩
theorem celln_cell {o : Obj} {v : Option Value} (h : o.data = .cell v) : CellN prog w o := ⟨cell_cell h, fun kvs hd => by
  obtain ⟨es, ep, -, e, -⟩ := hd
  rw [e] at h; cases h⟩
variable {P d pp LL : Nat} {n0 n n' : Led} {bs : List Int} {g : Nat → Int → Row} {i : Nat} {f : Int → Row} {h₀ h : Heap} {L c : Addr} {oc oc' : Obj}
theorem RTab.carve {v : Value} (N : News h₀ L h n) (hc : (c, oc) ∈ n) (hk : CellO prog w oc) (hv : v ≠ .ref c) (x : RTab prog w n v bs f) : RTab prog w (carve c n) v bs f := by
  obtain ⟨e, o, kvs, rfl, he, lo, hd, hr⟩ := x
  exact ⟨e, o, kvs, rfl, carve_in he fun q => hv (by rw [← q]), lo, hd, fun c' hc' => let ⟨x, a, b⟩ := hr c' hc'; ⟨x, a, b.carve N hc hk⟩⟩
theorem RTab.ne {v : Value} (N : News h₀ L h n) (hc : (c, oc) ∈ n) (hk : CellN prog w oc) (x : RTab prog w n v bs f) : v ≠ .ref c := fun q => by
  obtain ⟨e, o, kvs, rfl, he, lo, hd, hr⟩ := x
  cases q
  rw [same_obj N he hc] at hd
  exact hk.i _ hd
theorem Past.carve {pvs : List Value} (N : News h₀ L h n) (hc : (c, oc) ∈ n) (hk : CellN prog w oc) (x : Past prog w n d pp bs g i pvs) : Past prog w (carve c n) d pp bs g i pvs :=
  ⟨x.len, fun j v e => ⟨(x.at' j v e).1.carve N hc hk.toCellO ((x.at' j v e).1.ne N hc hk), (x.at' j v e).2⟩⟩
theorem TabIn.carve {cs : List Int} {v : Value} (N : News h₀ L h n) (hc : (c, oc) ∈ n) (hk : CellN prog w oc) (x : TabIn prog w n v cs f) : TabIn prog w (carve c n) v cs f := by
  cases x with | @mk d o kvs _ _ hd lo hD hl he =>
  refine .mk (carve_in hd fun q => ?_) lo hD hl fun y hy => let ⟨v, a, b⟩ := he y hy; ⟨v, a, b.carve N hc hk.toCellO⟩
  have q : d = c := q
  subst q
  rw [same_obj N hd hc] at hD
  exact hk.i _ hD
theorem core_carve (N : News h₀ L h n) (K : Core prog w P d pp n0 bs g i f n) (hc : (c, oc) ∈ n) (hk : CellN prog w oc) (hpp : c ≠ pp) (hn0 : ∀ p ∈ n0, p.1 ≠ c) :
    (∀ p ∈ n0, p ∈ carve c n) ∧ TabIn prog w (carve c n) (.ref d) (0 :: 99 :: bs) f ∧ ∃ pvs np, (pp, listO pvs np) ∈ carve c n ∧ Past prog w (carve c n) d pp bs g i pvs :=
  ⟨fun p hp => carve_in (K.sub p hp) (hn0 p hp), K.t.carve N hc hk, let ⟨pvs, np, a, b⟩ := K.past; ⟨pvs, np, carve_in a hpp.symm, b.carve N hc hk⟩⟩
theorem Core.carve (N : News h₀ L h n) (K : Core prog w P d pp n0 bs g i f n) (hc : (c, oc) ∈ n) (hk : CellN prog w oc) (hP : c ≠ P) (hpp : c ≠ pp) (hn0 : ∀ p ∈ n0, p.1 ≠ c) : Core prog w P d pp n0 bs g i f (Mine.carve c n) :=
  have z := core_carve N K hc hk hpp hn0
  ⟨let ⟨ps, a, b⟩ := K.tab; ⟨ps, carve_in a hP.symm, b⟩, fun p hp => K.low p (carve_sub p hp), z.1, z.2.1, z.2.2⟩
theorem Core.put (N : News h₀ L h n) (K : Core prog w P d pp n0 bs g i f n) (hc : (c, oc) ∈ n) (hk : CellN prog w oc) (hP : c ≠ P) (hpp : c ≠ pp) (hn0 : ∀ p ∈ n0, p.1 ≠ c) : Core prog w P d pp n0 bs g i f ((c, oc') :: Mine.carve c n) :=
  (K.carve N hc hk hP hpp hn0).mono (fun p hp => .tail _ hp) fun p hp => by
    rcases List.mem_cons.mp hp with rfl | hp
    · exact K.low (c, oc) hc
    · exact K.low p (carve_sub p hp)
theorem pp_ne_P (N : News h₀ L h n) (K : Core prog w P d pp n0 bs g i f n) : P ≠ pp := fun e => by
  obtain ⟨ps, a, -⟩ := K.tab
  obtain ⟨pvs, np, b, -⟩ := K.past
  subst e
  have := congrArg Obj.cls (same_obj N a b)
  exact absurd (show Value.none = Value.type "list" from this) (by decide)
/-- the code table has grown -/
theorem Core.setP {ps ps' : Array Value} (N : News h₀ L h n) (K : Core prog w P d pp n0 bs g i f n) (hP : (P, tabObj ps) ∈ n) (hn0 : ∀ p ∈ n0, p.1 ≠ P) (ht : TriplesOk ps'.toList) (gr : Grow (Mine.carve P n) n') (hl : ∀ p ∈ n', P < p.1) : Core prog w P d pp n0 bs g i f ((P, tabObj ps') :: n') := by
  have z := core_carve N K hP celln_tab (pp_ne_P N K) hn0
  have k : ∀ p ∈ Mine.carve P n, p ∈ (P, tabObj ps') :: n' := fun p hp => .tail _ (gr.sub p hp)
  refine ⟨⟨ps', .head _, ht⟩, fun p hp => ?_, fun p hp => k p (z.1 p hp), z.2.1.mono k, let ⟨pvs, np, a, b⟩ := z.2.2; ⟨pvs, np, k _ a, b.mono k⟩⟩
  rcases List.mem_cons.mp hp with rfl | hp
  · exact Nat.le_refl _
  · exact Nat.le_of_lt (hl p hp)
/-- the table has a new entry -/
theorem Core.store {o o' : Obj} {kvs : List (Int × Value)} {x : Int} {v : Value} {r : Row} (N : News h₀ L h n) (K : Core prog w P d pp n0 bs g i f n) (hd : (d, o) ∈ n) (lo : (d == sysModules) = false) (hD : o.IsDictOf (PySem.intKind prog w) kvs) (hlen : kvs.length ≤ 8) (he : ∀ c ∈ 0 :: 99 :: bs, ∃ v, valueAt kvs c = some v ∧ EntryIn prog w n v (f c))
    (hn0 : ∀ p ∈ n0, p.1 ≠ d) (hx : x ∈ 0 :: 99 :: bs) (hv : EntryIn prog w n v r) (hD' : o'.IsDictOf (PySem.intKind prog w) (stored kvs x v)) : Core prog w P d pp n0 bs g i (updF f x r) ((d, o') :: Mine.carve d n) := by
  have hk : CellO prog w o := cell_dict hD
  obtain ⟨u, hu, -⟩ := he x hx
  have t : ∀ p ∈ Mine.carve d n, p ∈ (d, o') :: Mine.carve d n := fun p hp => .tail _ hp
  refine ⟨?_, fun p hp => ?_, fun p hp => t _ (carve_in (K.sub p hp) (hn0 p hp)), ?_, ?_⟩
  · obtain ⟨ps, a, b⟩ := K.tab
    refine ⟨ps, t _ (carve_in a fun e => ?_), b⟩
    have e : P = d := e
    subst e
    rw [← same_obj N a hd] at hD
    exact celln_tab.i _ hD
  · rcases List.mem_cons.mp hp with rfl | hp
    · exact K.low (d, o) hd
    · exact K.low p (carve_sub p hp)
  · refine .mk (.head _) lo hD' (by rw [stored_len hu]; exact hlen) fun y hy => ?_
    rw [stored_at hu]
    unfold updF
    by_cases e : y = x
    · rw [if_pos e, if_pos e]
      exact ⟨v, rfl, (hv.carve N hd hk).mono t⟩
    · rw [if_neg e, if_neg e]
      obtain ⟨z, a, b⟩ := he y hy
      exact ⟨z, a, (b.carve N hd hk).mono t⟩
  · obtain ⟨pvs, np, a, b⟩ := K.past
    refine ⟨pvs, np, t _ (carve_in a fun e => ?_), b.len, fun j v e => ⟨((b.at' j v e).1.carve N hd hk (b.at' j v e).2).mono t, (b.at' j v e).2⟩⟩
    have e : pp = d := e
    subst e
    rw [← same_obj N a hd] at hD
    exact celln_list.i _ hD
end
/-- the ledger has grown, and a cell has turned -/
structure Ext (c : Addr) (n n' : Led) : Prop where
  sub : ∀ p ∈ n, p.1 ≠ c → p ∈ n'
  low : ∀ p ∈ n', ∃ q ∈ n, q.1 ≤ p.1
theorem Ext.put {c : Addr} {oc o' : Obj} {n a : Led} (g : Grow n a) (hc : (c, oc) ∈ n) : Ext c n ((c, o') :: carve c a) :=
  ⟨fun p hp hne => .tail _ (carve_in (g.sub p hp) hne), fun p hp => by
    rcases List.mem_cons.mp hp with rfl | hp
    · exact ⟨_, hc, Nat.le_refl _⟩
    · rcases g.new p (carve_sub p hp) with h | h
      · exact ⟨p, h, Nat.le_refl _⟩
      · exact ⟨_, hc, Nat.le_of_lt (h _ hc)⟩⟩
section
variable {prog : Program} {w : World} {A : Around} {E : Value → Shared → Prop} {s : Shared} {h₀ : Heap} {LL : Nat} {m : Str → Option Value} {n : Led}
theorem cell_store {c : Addr} {oc : Obj} {vo : Option Value} {x : Str} {v : Value} {Q : Unit → Shared → Prop} (F : Fr h₀ LL s.heap m) (N : News h₀ LL s.heap n) (hk : (envX (Str.ofString "_law_run") runScope LL 85 (.ref 84) (runCl LL)).kindOf x = some .cell) (hl : (runCl LL).lookup x = some c) (d : oc.data = .cell vo) (hc : (c, oc) ∈ n)
    (h : ∀ h' o', Fr h₀ LL h' m → News h₀ LL h' ((c, o') :: carve c n) → o'.data = .cell (some v) → Q () { s with heap := h' }) : wpAny (model prog w) A (storeName (envX (Str.ofString "_law_run") runScope LL 85 (.ref 84) (runCl LL)) x v) Q E s :=
  storeX_C F (carve_news N hc) hl carve_upd d h (by rfl) hk
theorem slice_both (vs : List Value) {x y : Int} (h : 0 ≤ x) (hxy : x ≤ y) (hy : y ≤ vs.length) : (slicePick vs.toArray (some x) (some y) none).toList = (vs.drop x.toNat).take (y.toNat - x.toNat) := by
  have h2 := Int.le_trans h hxy
  have e : sliceBounds (some x) (some y) none vs.toArray.size = (((x.toNat : Nat) : Int), ((y.toNat : Nat) : Int), 1) := by
    simp only [sliceBounds, Option.getD_none, show (1 : Int) > 0 by decide, if_true, if_neg (Int.not_lt.mpr h2), if_neg (Int.not_lt.mpr h), List.size_toArray]
    rw [Int.min_eq_left (Int.le_trans hxy hy), Int.min_eq_left hy, Int.max_eq_right h, Int.max_eq_right h2, Int.toNat_of_nonneg h, Int.toNat_of_nonneg h2]
  rw [kmk_pick_nat _ e]
def rowAt (cis : List Int) (k : Nat) : Row := ⟨cis.getD k 0, cis.getD (k + 1) 0, cis.getD (k + 2) 0, cis.getD (k + 3) 0, cis.getD (k + 4) 0, cis.getD (k + 5) 0⟩
theorem drop_six {cis : List Int} {k : Nat} (h : k + 6 ≤ cis.length) : (cis.drop k).take 6 = (rowAt cis k).list := by
  rw [List.drop_eq_getElem_cons (show k < cis.length by omega), List.drop_eq_getElem_cons (show k + 1 < cis.length by omega), List.drop_eq_getElem_cons (show k + 1 + 1 < cis.length by omega), List.drop_eq_getElem_cons (show k + 1 + 1 + 1 < cis.length by omega), List.drop_eq_getElem_cons (show k + 1 + 1 + 1 + 1 < cis.length by omega), List.drop_eq_getElem_cons (show k + 1 + 1 + 1 + 1 + 1 < cis.length by omega)]
  simp only [List.take_succ_cons, List.take_zero, rowAt, Row.list]
  simp only [List.getD_eq_getElem?_getD, List.getElem?_eq_getElem (show k < cis.length by omega), List.getElem?_eq_getElem (show k + 1 < cis.length by omega), List.getElem?_eq_getElem (show k + 2 < cis.length by omega), List.getElem?_eq_getElem (show k + 3 < cis.length by omega), List.getElem?_eq_getElem (show k + 4 < cis.length by omega), List.getElem?_eq_getElem (show k + 5 < cis.length by omega), Option.getD_some]
theorem IntsAre.dropI {vs : List Value} {is : List Int} (h : IntsAre vs is) : ∀ k : Nat, IntsAre (vs.drop k) (is.drop k)
  | 0 => by rw [List.drop_zero, List.drop_zero]; exact h
  | k + 1 => by
    cases h with
    | nil => exact .nil
    | cons i t h => exact IntsAre.dropI h k
theorem IntsAre.takeI {vs : List Value} {is : List Int} (h : IntsAre vs is) : ∀ k : Nat, IntsAre (vs.take k) (is.take k)
  | 0 => by rw [List.take_zero, List.take_zero]; exact .nil
  | k + 1 => by
    cases h with
    | nil => exact .nil
    | cons i t h => exact .cons i t (IntsAre.takeI h k)
theorem list_carve {L c : Addr} {h : Heap} {oc : Obj} (N : News h₀ L h n) (hc : (c, oc) ∈ n) (hne : ∀ vs k, oc ≠ listO vs k) {l : Addr} {vs : List Value} {k : Nat} (hl : (l, listO vs k) ∈ n) : (l, listO vs k) ∈ carve c n :=
  carve_in hl fun e => by
    have e : l = c := e
    subst e
    exact hne vs k (same_obj N hc hl)
theorem RowL.carveX {L c : Addr} {h : Heap} {oc : Obj} (N : News h₀ L h n) (hc : (c, oc) ∈ n) (hne : ∀ vs k, oc ≠ listO vs k) {v : Value} {r : Row} (x : RowL n v r) : RowL (carve c n) v r := by
  cases x with | mk m => exact .mk (list_carve N hc hne m)
theorem IntL.carveX {L c : Addr} {h : Heap} {oc : Obj} (N : News h₀ L h n) (hc : (c, oc) ∈ n) (hne : ∀ vs k, oc ≠ listO vs k) {v : Value} {is : List Int} (x : IntL n v is) : IntL (carve c n) v is := by
  cases x with | mk m i => exact .mk (list_carve N hc hne m) i
theorem KeysIn.carveX {L c : Addr} {h : Heap} {oc : Obj} (N : News h₀ L h n) (hc : (c, oc) ∈ n) (hk : CellO prog w oc) {vs : List Value} {ks : List Key} (x : KeysIn n vs ks) : KeysIn (carve c n) vs ks := by
  induction x with
  | nil => exact .nil
  | cons m a b _ ih => exact .cons (tup_carve N hc hk m) a b ih
theorem KeyL.carveX {L c : Addr} {h : Heap} {oc : Obj} (N : News h₀ L h n) (hc : (c, oc) ∈ n) (hk : CellO prog w oc) (hne : ∀ vs k, oc ≠ listO vs k) {v : Value} {ks : List Key} (x : KeyL n v ks) : KeyL (carve c n) v ks := by
  cases x with | mk m i => exact .mk (list_carve N hc hne m) (i.carveX N hc hk)
end
noncomputable def lawScope : Scope := (fnAt 90).scope
noncomputable def lawB : List Stmt := bodyAt 90
@[irreducible] noncomputable def lawI : List Stmt := lawB
theorem lawI_eq : lawI = lawB := by unfold lawI; rfl
@[irreducible] noncomputable def lawS (k : Nat) : Stmt := nthS lawB k
theorem lawS_eq (k : Nat) : lawS k = nthS lawB k := by unfold lawS; rfl
theorem lawB_eq : lawB = [lawS 0, lawS 1, lawS 2, lawS 3, lawS 4] := by
  rw [lawS_eq, lawS_eq, lawS_eq, lawS_eq, lawS_eq]; rfl
abbrev lawCl (LL : Nat) : List (Str × Addr) := [(Str.ofString "step", LL + 4), (Str.ofString "cells", LL + 3), (Str.ofString "own", LL + 2), (Str.ofString "script", LL + 1)]
noncomputable abbrev LawA (dp un : Nat) (gd : Option (List Code)) (LL fa : Nat) (cd : Value) (outer : List Env) : Around := ktrTop dp un gd (Str.ofString "law") lawScope LL fa cd (lawCl LL) outer
noncomputable abbrev LawE (LL fa : Nat) (cd : Value) : Env := envX (Str.ofString "law") lawScope LL fa cd (lawCl LL)
section
variable {prog : Program} {w : World} {A : Around} {E : Value → Shared → Prop} {s : Shared} {h₀ : Heap} {LL fa : Nat} {cd : Value} {m : Str → Option Value} {n : Led}
theorem cell_storeL {c : Addr} {oc : Obj} {vo : Option Value} {x : Str} {v : Value} {Q : Unit → Shared → Prop} (F : Fr h₀ LL s.heap m) (N : News h₀ LL s.heap n) (hk : (envX (Str.ofString "law") lawScope LL fa cd (lawCl LL)).kindOf x = some .cell) (hl : (lawCl LL).lookup x = some c) (d : oc.data = .cell vo) (hc : (c, oc) ∈ n)
    (h : ∀ h' o', Fr h₀ LL h' m → News h₀ LL h' ((c, o') :: carve c n) → o'.data = .cell (some v) → Q () { s with heap := h' }) : wpAny (model prog w) A (storeName (envX (Str.ofString "law") lawScope LL fa cd (lawCl LL)) x v) Q E s :=
  storeX_C F (carve_news N hc) hl carve_upd d h (by rfl) hk
end
theorem lay_15 : True := by
  k_with "call ref" => (k_here; (with_reducible show wpAny _ _ (call (Value.ref 75) _) _ _ _); (refine Ct.use (by k_asm) (by k_asm) (by k_asm) (by k_asm) (by k_asm) (law_near_ct (by (refine IntL.mono (by with_reducible assumption) (by (intro p_k hp_k; (repeat (first | exact hp_k | exact fresh_sub _ hp_k | refine Grow.mem (by with_reducible assumption) ?_ | refine List.Mem.tail _ ?_ | (refine sub_mem (by with_reducible assumption) ?_)))))))) (by rfl) (by ktr_room) (by ktr_room) ?_); intro r7_k n7_k h7_k tk7_k F7_k N7_k g7_k o7_k)
  k_with "call ref" => (k_here; (with_reducible show wpAny _ _ (call (Value.ref 63) _) _ _ _); (refine Ct.use (by k_asm) (by k_asm) (by k_asm) (by k_asm) (by k_asm) (law_entry_ct (by (refine RowL.mono (by with_reducible assumption) (by (intro p_k hp_k; (repeat (first | exact hp_k | exact fresh_sub _ hp_k | refine Grow.mem (by with_reducible assumption) ?_ | refine List.Mem.tail _ ?_ | (refine sub_mem (by with_reducible assumption) ?_)))))))) (by rfl) (by ktr_room) (by ktr_room) ?_); intro r7_k n7_k h7_k tk7_k F7_k N7_k g7_k o7_k)
  k_with "call ref" => (k_here; (with_reducible show wpAny _ _ (call (Value.ref 80) _) _ _ _); (refine Ct.use (by k_asm) (by k_asm) (by k_asm) (by k_asm) (by k_asm) (law_pick_ct (by (refine TabIn.mono (by with_reducible assumption) (by (intro p_k hp_k; (repeat (first | exact hp_k | exact fresh_sub _ hp_k | refine Grow.mem (by with_reducible assumption) ?_ | refine List.Mem.tail _ ?_ | (refine sub_mem (by with_reducible assumption) ?_))))))) (by (refine IntL.mono (by with_reducible assumption) (by (intro p_k hp_k; (repeat (first | exact hp_k | exact fresh_sub _ hp_k | refine Grow.mem (by with_reducible assumption) ?_ | refine List.Mem.tail _ ?_ | (refine sub_mem (by with_reducible assumption) ?_))))))) (by with_reducible assumption) (by with_reducible assumption) (by with_reducible assumption) (by (refine KeyL.mono (by with_reducible assumption) (by (intro p_k hp_k; (repeat (first | exact hp_k | exact fresh_sub _ hp_k | refine Grow.mem (by with_reducible assumption) ?_ | refine List.Mem.tail _ ?_ | (refine sub_mem (by with_reducible assumption) ?_))))))) (by exact Int.fmod_nonneg_of_pos _ (by decide)) (by with_reducible assumption) (by (first | exact Or.inl rfl | exact Or.inr rfl))) (by rfl) (by ktr_room) (by ktr_room) ?_); intro r7_k n7_k h7_k tk7_k F7_k N7_k g7_k o7_k)
  k_with "eval Name" => (k_here; name_kind "cell"; (with_reducible show wpAny _ _ (eval (PySem.Expr.Name _ _) (envX _ _ _ _ _ (runCl _))) _ _ _); (refine cell_name (by k_asm) (by rfl) (by (first | with_reducible assumption | k_mem)) (by with_reducible assumption) ?_ (by rfl) (by rfl) (by decide); k_whole))
  k_with "exec For Name Name cons nil" => (k_here; (with_reducible rename Fr _ _ _ _ => lF'_k); k_dflt (refine' For_turnsX lF'_k ?_); k_whole)
  k_with "exec For Name Call cons nil" => (k_here; (with_reducible rename Fr _ _ _ _ => lF'_k); k_dflt (refine' For_turnsX lF'_k ?_); k_whole)
  k_with "call builtin:list.append" => (k_here; (with_reducible show wpAny _ _ (call (Value.builtin "list.append") [Value.ref _, _]) _ _ _); (refine append_M (by k_asm) (by k_asm) (by (first | with_reducible assumption | k_mem)) (by with_reducible assumption) ?_); intro h'_k F'_k N'_k)
  k_with "getMethod ref" => (k_here; (with_reducible show wpAny _ _ (getMethod (Value.ref _) (PySem.Str.ofString "append") _) _ _ _); (refine listMethod_K (by k_asm) (by (first | with_reducible assumption | k_mem)) PySem.F.slot_list_append PySem.F.type_list_append ?_))
  k_with "subscriptTail Name Name ref int" => (k_here; (with_reducible show wpAny _ _ (subscriptTail (PySem.Expr.Name (Str.ofString "table") _) _ (Value.ref _) (Value.int _ _)) _ _ _); k_dflt (refine tab_item (by k_asm) (by with_reducible assumption) (by with_reducible assumption) (by (intro p_k hp_k; (repeat (first | exact hp_k | exact fresh_sub _ hp_k | refine Grow.mem (by with_reducible assumption) ?_ | refine List.Mem.tail _ ?_ | (refine sub_mem (by with_reducible assumption) ?_))))) ?_; k_whole); intro v8_k hv8_k)
  k_with "eval Name" => (k_here; (with_reducible show wpAny _ _ (eval (PySem.Expr.Name _ _) (compEnvC _ _ _ _)) _ _ _); name_kind "globalImplicit"; k_dflt (first | (refine ld_globalR (by k_asm) (by k_asm) (by k_asm) (by k_is) ?_ (by rfl) (by rfl) (by rfl) (by decide); k_whole) | (refine ld_builtR (by k_asm) (by k_asm) (by k_asm) (by k_is) (by boot_by_name) (by decide) ?_ (by rfl) (by rfl) (by rfl) (by rfl) (by decide); k_whole)))
  k_with "call type:dict" => (k_here; (with_reducible show wpAny _ _ (call (Value.type "dict") [Value.ref _]) _ _ _); k_dflt (refine dict_copy (by k_asm) (by k_asm) (by exact TopRead.nolimit (by k_asm)) (by with_reducible assumption) (by (first | with_reducible assumption | k_mem)) (by with_reducible assumption) (by exact Nat.le_of_ble_eq_true rfl) ?_); intro D9_k h9_k o9_k F9_k N9_k lt9_k lo9_k hd9_k)
  k_with "call ref" => (k_here; (with_reducible show wpAny _ _ (call (Value.ref 49) _) _ _ _); (refine CtG.use (by with_reducible assumption) (by k_asm) (by k_asm) (by k_asm) (by k_asm) (by with_reducible assumption) (by with_reducible assumption) (by with_reducible assumption) (by with_reducible assumption) (by with_reducible assumption) (add_stats_ct (by (refine EntryIn.mono (by with_reducible assumption) (by (intro p_k hp_k; (repeat (first | exact hp_k | exact fresh_sub _ hp_k | refine Grow.mem (by with_reducible assumption) ?_ | refine List.Mem.tail _ ?_ | (refine sub_mem (by with_reducible assumption) ?_))))))) (by (refine EntryIn.mono (by with_reducible assumption) (by (intro p_k hp_k; (repeat (first | exact hp_k | exact fresh_sub _ hp_k | refine Grow.mem (by with_reducible assumption) ?_ | refine List.Mem.tail _ ?_ | (refine sub_mem (by with_reducible assumption) ?_)))))))) (by rfl) (by ktr_room) (by ktr_room) ?_); intro r7_k n7_k h7_k tk7_k gn7_k ps7_k F7_k N7_k HP7_k HG7_k HQ7_k g7_k o7_k)
  k_with "setItem ref int" => (k_here; k_dflt (refine kda_set (knd := PySem.intKind _ _) (by k_asm) (by k_asm) carve_upd (by with_reducible assumption) (intKind_is _ _ _ _) (by with_reducible assumption) ?_); intro h'_k o'_k F'_k N'_k hd'_k; (try dsimp only at N'_k))
  k_with "call ref" => (k_here; (with_reducible show wpAny _ _ (call (Value.ref 49) _) _ _ _); (refine Ct.use (by k_asm) (by k_asm) (by k_asm) (by k_asm) (by k_asm) (add_stats_nil_l (by refine NilE.mkM (by k_mem) (by with_reducible assumption) (by k_mem) (by with_reducible assumption)) (by (refine EntryIn.mono (by with_reducible assumption) (by (intro p_k hp_k; (repeat (first | exact hp_k | exact fresh_sub _ hp_k | refine Grow.mem (by with_reducible assumption) ?_ | refine List.Mem.tail _ ?_ | (refine sub_mem (by with_reducible assumption) ?_)))))))) (by rfl) (by ktr_room) (by ktr_room) ?_); intro r7_k n7_k h7_k tk7_k F7_k N7_k g7_k o7_k)
  k_with "call ref" => (k_here; (with_reducible show wpAny _ _ (call (Value.ref 49) _) _ _ _); (refine Ct.use (by k_asm) (by k_asm) (by k_asm) (by k_asm) (by k_asm) (add_stats_nil_r (by (refine EntryIn.mono (by with_reducible assumption) (by (intro p_k hp_k; (repeat (first | exact hp_k | exact fresh_sub _ hp_k | refine Grow.mem (by with_reducible assumption) ?_ | refine List.Mem.tail _ ?_ | (refine sub_mem (by with_reducible assumption) ?_))))))) (by refine NilE.mkM (by k_mem) (by with_reducible assumption) (by k_mem) (by with_reducible assumption))) (by rfl) (by ktr_room) (by ktr_room) ?_); intro r7_k n7_k h7_k tk7_k F7_k N7_k g7_k o7_k)
  k_with "call type:zip" => (k_here; (with_reducible show wpAny _ _ (call (Value.type "zip") [Value.ref _, Value.ref _, Value.ref _]) _ _ _); k_dflt (refine zip3_list (by k_asm) (by k_asm) (by (first | with_reducible assumption | k_mem)) (by (first | with_reducible assumption | k_mem)) (by (first | with_reducible assumption | k_mem)) ?_); intro b5_k h5_k hb5_k Z5_k F5_k N5_k lt5_k l5_k)
  k_with "storeName" => (k_here; (with_reducible show wpAny _ _ (storeName (envX _ _ _ _ _ (runCl _)) _ _) _ _ _); (refine cell_store (by k_asm) (by k_asm) (by rfl) (by rfl) (by with_reducible assumption) (by (first | with_reducible assumption | k_mem)) ?_); intro h'_k o'_k F'_k N'_k d'_k; (try dsimp only))
  trivial
section
variable {prog : Program} {w : World} {mg mb : Str → Option Value} {dp un : Nat} {gd : Option (List Code)} {outer : List Env} {A₀ : Around} {base h₀ : Heap} {LL P d pp dn rd : Nat} {n0 n : Led} {lc lb lr : Addr} {vk vl : Value} {cis dl : List Int} {ks : List Key} {bs : List Int} {tp : Int} {r0 r1 : Row} {g : Nat → Int → Row} {i : Nat} {f : Int → Row} {s : Shared} {Q : Flow → Shared → Prop} {tn sn c : Int} {t1 t2 t3 : Tok} {u : Str → Option Value}
set_option maxHeartbeats 1000000 in
theorem st_ready (V : Amb prog w mg mb P dp un outer A₀ base h₀) (Z : Fix P d pp LL n0 lc lb lr vk cis ks bs tp r0 r1) (K : Core prog w P d pp n0 bs g i f n)
    (F : Fr h₀ LL s.heap (cf [kv "keys" vk, kv "board" (.ref lb), kv "past" (.ref pp), kv "turn" (.int tn t1), kv "step" (.int sn t2), kv "last" vl, kv "ready" (.ref rd)] u)) (N : News h₀ LL s.heap ((rd, listO [] 0) :: n)) (hlow : ∀ p ∈ n, p.1 < rd) {o5 dvs nd} (hc5 : (LL + 5, o5) ∈ n) (d5 : o5.data = .cell (some (.ref dn))) (hdn : (dn, listO dvs nd) ∈ n) (hdl : IntsAre dvs dl)
    (hQ : ∀ h1 tk1 n' u', Fr h₀ LL h1 (cf [kv "keys" vk, kv "board" (.ref lb), kv "past" (.ref pp), kv "turn" (.int tn t1), kv "step" (.int sn t2), kv "last" vl, kv "ready" (.ref rd)] u') → News h₀ LL h1 n' → Grow n n' → IntL n' (.ref rd) (bs.filter (isRdy bs dl)) → Q .next { s with heap := h1, toks := tk1 }) :
    wpAny (model prog w) (RunA dp un gd LL outer) (exec (nthS stepB 1) (RunE LL)) Q NoE s := by
  dsimp only [RunA, RunE]
  conv in (occs := *) nthS stepB 1 => all_goals whnf
  conv in (occs := *) runScope => all_goals whnf
  obtain ⟨B, X, T, C, M, hdp, hun⟩ := V
  have hs := K.sub
  have hbd := Z.board
  cases hbd with | @mk _ nb bvs _ hlb hbs =>
  have hlb' := List.mem_cons_of_mem (rd, listO [] 0) (hs _ hlb)
  have hs9 := hs
  clear hs
  k_steps
  rename Fr _ _ _ _ => F1; rename News _ _ _ _ => N1
  have gl : bs.length ≤ 6 := by rcases Z.hb with ⟨rfl, _⟩ | ⟨rfl, _⟩ | ⟨rfl, _⟩ <;> decide
  clear Z K
  refine' list_loopY (fun j m n' => ∃ u rvs nr, m = cf [kv "keys" vk, kv "board" (.ref lb), kv "past" (.ref pp), kv "turn" (.int tn t1), kv "step" (.int sn t2), kv "last" vl, kv "ready" (.ref rd)] u ∧ (rd, listO rvs nr) ∈ n' ∧ rvs.length ≤ 6 ∧ IntsAre rvs ((bs.take j).filter (isRdy bs dl)) ∧ Grow n n') ?hh ?F ?N hlb' ?h0 ?step ?done
  case hh => rfl
  case F => exact F1
  case N => exact N1
  case h0 => exact ⟨u, [], 0, rfl, .head _, Nat.zero_le _, .nil, Grow.cons (allLt_of hlow) .refl⟩
  case step =>
    rintro I j v m1 n1 h1 tk1 it hit hI hv ⟨u1, rvs, nr, e1, hr1, hrl, hri, hg⟩ hlb1 hoff F2 N2
    subst e1
    obtain ⟨c, t, rfl, hcj⟩ := hbs.at j v hv
    have hdn1 := hg.sub _ hdn
    have hc51 := hg.sub _ hc5
    have hbd1 : IntL n1 (.ref lb) bs := .mk hlb1 hbs
    have hsn := filter_snoc (p := isRdy bs dl) hcj
    have hrI : rd ≠ I := hoff _ hr1
    have hrz : rvs.length ≤ sizeLine := Nat.le_trans hrl (by rw [sizeLine_eq]; exact Nat.le_of_ble_eq_true rfl)
    have hIn : ∀ p ∈ n, p.1 < I := fun p hp => hI p (.tail _ hp)
    clear hI
    refine gen2q fun Q9 hQ9 => ?_
    k_steps
    · rename Fr h₀ LL _ _ => F3; rename News h₀ LL _ _ => N3
      rename (List.any dl _) = true => ha
      refine hQ9 _ _ (TPost.fin F3 N3 (fun p hp q hq => by rw [List.mem_singleton.mp hq]; exact hoff p hp) ⟨hlb1, _, rvs, nr, cf_of ⟨rfl, rfl, rfl, rfl, rfl, rfl, rfl, trivial⟩, hr1, hrl, ?_, hg⟩)
      rw [hsn, rdy_no1 ha, if_neg (by decide), List.append_nil]
      exact hri
    · rename (List.any dl _) = false => ha
      rename IntL _ _ _ => ho7
      rename Fr h₀ LL _ _ => F3; rename News h₀ LL _ _ => N3
      rename Grow ((I, it) :: n1) _ => g7; rename Led => n7
      cases ho7 with | @mk l7 n7' vs7 _ hl7 hvs7 =>
      have hc57 := g7.mem (List.mem_cons_of_mem _ hc51)
      have hdn7 := g7.mem (List.mem_cons_of_mem _ hdn1)
      have hr7 := g7.mem (List.mem_cons_of_mem _ hr1)
      refine filter_list (p := fun o => !(dl.any fun x => x == o)) rfl (by decide) rfl rfl (by decide) F3 N3 (fresh_sub _ hl7) hvs7 (by rw [sizeLine_eq, hvs7.length]; exact Nat.le_trans near_len (Nat.le_of_ble_eq_true rfl)) ?_ ?_
      · intro o t C D oC m₂ own ys h tk Q E' hx hoC F2 N2 hQ
        replace N2 := comp_part N2
        k_steps
        exact hQ _
      · intro D C h tk m' ys F2 N2 hlt hn hC₀ hCL off hys
        refine postE F2 N2 hn hC₀ hCL off fun h6 F6 N6 => ?_
        have gc := grow_carve hg g7 hIn
        have hI7 : (I, it) ∈ n7 := g7.mem (.head _)
        have hlbn := hs9 _ hlb
        k_steps
        · rename Fr h₀ LL _ _ => F8; rename News h₀ LL _ _ => N8
          rename decide _ = true => hd
          rw [rdy_is ha, hd, if_pos rfl] at hsn
          have hri' : IntsAre (rvs ++ [Value.int c t]) ((bs.take (j + 1)).filter (isRdy bs dl)) := by rw [hsn]; exact hri.append (.cons _ _ .nil)
          refine hQ9 _ _ (TPost.fin (news' := (rd, listO (rvs ++ [Value.int c t]) (nr + 1)) :: carve rd (carve I n7)) F8 (news_part N8 fun p hp => ?_) (fun p hp q hq => ?_) ⟨.tail _ (carve_in (gc.sub _ hlbn) (Nat.ne_of_lt (hlow _ hlbn))), _, _, _, cf_of ⟨rfl, rfl, rfl, rfl, rfl, rfl, rfl, trivial⟩, .head _, ?_, hri', grow_put gc hlow⟩)
          · rcases List.mem_cons.mp hp with rfl | hp
            · exact .tail _ (carve_in (.tail _ (.tail _ hI7)) hrI.symm)
            rcases List.mem_cons.mp hp with rfl | hp
            · exact .head _
            · obtain ⟨hp, ho⟩ := carve_mem.mp hp
              exact .tail _ (carve_in (.tail _ (.tail _ (carve_sub p hp))) ho)
          · rw [List.mem_singleton.mp hq]
            rcases List.mem_cons.mp hp with rfl | hp
            · exact hrI
            · exact carve_off p (carve_sub p hp)
          · rw [hri'.length]
            exact Nat.le_trans (List.length_filter_le _ _) (Nat.le_trans (by rw [List.length_take]; exact Nat.min_le_right _ _) gl)
        · rename Fr h₀ LL _ _ => F8; rename News h₀ LL _ _ => N8
          rename decide _ = false => hd
          rw [rdy_is ha, hd, if_neg (by decide), List.append_nil] at hsn
          refine hQ9 _ _ (TPost.fin (news' := carve I n7) F8 (news_part N8 fun p hp => ?_) (fun p hp q hq => ?_) ⟨gc.sub _ hlbn, _, _, _, cf_of ⟨rfl, rfl, rfl, rfl, rfl, rfl, rfl, trivial⟩, carve_in hr7 hrI, hrl, by rw [hsn]; exact hri, gc⟩)
          · rcases List.mem_cons.mp hp with rfl | hp
            · exact .tail _ (.tail _ hI7)
            · exact .tail _ (.tail _ (carve_sub p hp))
          · rw [List.mem_singleton.mp hq]
            exact carve_off p hp
  case done =>
    rintro m1 n1 h1 tk1 ⟨u1, rvs, nr, e1, hr1, hrl, hri, hg⟩ F2 N2
    subst e1
    rw [hbs.length, List.take_length] at hri
    exact hQ _ _ _ _ F2 N2 hg (.mk hr1 hri)
end
section
variable {prog : Program} {w : World} {mg mb : Str → Option Value} {dp un : Nat} {gd : Option (List Code)} {outer : List Env} {A₀ : Around} {base h₀ : Heap} {LL P d pp dn rd : Nat} {n0 n : Led} {lc lb lr : Addr} {vk vl : Value} {cis dl : List Int} {ks : List Key} {bs : List Int} {tp : Int} {r0 r1 : Row} {g : Nat → Int → Row} {i : Nat} {f : Int → Row} {s : Shared} {Q : Flow → Shared → Prop} {tn sn c : Int} {t1 t2 t3 : Tok} {u : Str → Option Value}
set_option maxHeartbeats 1000000 in
theorem st_ready0 (V : Amb prog w mg mb P dp un outer A₀ base h₀)
    (F : Fr h₀ LL s.heap (cf [kv "keys" vk, kv "board" (.ref lb), kv "past" (.ref pp), kv "turn" (.int tn t1), kv "step" (.int sn t2), kv "last" vl] u)) (N : News h₀ LL s.heap n)
    (hQ : ∀ h1 tk1 u' rd, Fr h₀ LL h1 (cf [kv "keys" vk, kv "board" (.ref lb), kv "past" (.ref pp), kv "turn" (.int tn t1), kv "step" (.int sn t2), kv "last" vl, kv "ready" (.ref rd)] u') → News h₀ LL h1 ((rd, listO [] 0) :: n) → (∀ p ∈ n, p.1 < rd) → Q .next { s with heap := h1, toks := tk1 }) :
    wpAny (model prog w) (RunA dp un gd LL outer) (exec (nthS stepB 0) (RunE LL)) Q NoE s := by
  dsimp only [RunA, RunE]
  conv in (occs := *) nthS stepB 0 => all_goals whnf
  conv in (occs := *) runScope => all_goals whnf
  obtain ⟨B, X, T, C, M, hdp, hun⟩ := V
  k_steps
  rename Fr h₀ LL _ _ => F3; rename News h₀ LL _ _ => N3
  rename ∀ p ∈ n, _ => l3
  exact hQ _ _ _ _ (fr_know F3 ⟨rfl, rfl, rfl, rfl, rfl, rfl, rfl, trivial⟩) N3 l3
set_option maxHeartbeats 1000000 in
theorem st_chosen (V : Amb prog w mg mb P dp un outer A₀ base h₀) (Z : Fix P d pp LL n0 lc lb lr vk cis ks bs tp r0 r1) (K : Core prog w P d pp n0 bs g i f n) (hlen : cis.length = 51) (ht0 : 1 ≤ tn) (ht6 : tn ≤ 6) (hs0 : 0 ≤ sn) (hs6 : sn ≤ 6) {rl : List Int} (hrl : 0 < rl.length) (hrl6 : rl.length ≤ 6)
    (F : Fr h₀ LL s.heap (cf [kv "keys" vk, kv "board" (.ref lb), kv "past" (.ref pp), kv "turn" (.int tn t1), kv "step" (.int sn t2), kv "last" vl, kv "ready" (.ref rd)] u)) (N : News h₀ LL s.heap n) (hrd : IntL n (.ref rd) rl)
    (hQ : ∀ h1 tk1 u' c t3, Fr h₀ LL h1 (cf [kv "keys" vk, kv "board" (.ref lb), kv "past" (.ref pp), kv "turn" (.int tn t1), kv "step" (.int sn t2), kv "last" vl, kv "chosen" (.int c t3)] u') → News h₀ LL h1 n → c ∈ rl → Q .next { s with heap := h1, toks := tk1 }) :
    wpAny (model prog w) (RunA dp un gd LL outer) (exec (nthS stepB 2) (RunE LL)) Q NoE s := by
  dsimp only [RunA, RunE]
  conv in (occs := *) nthS stepB 2 => all_goals whnf
  conv in (occs := *) runScope => all_goals whnf
  obtain ⟨B, X, T, C, M, hdp, hun⟩ := V
  have hs := K.sub
  obtain ⟨o1, hc1, d1⟩ := Z.c1
  replace hc1 := hs _ hc1
  obtain ⟨cvs, nc, hcl, hci⟩ := Z.cells
  replace hcl := hs _ hcl
  clear hs Z K
  cases hrd with | @mk _ nr rvs _ hrd hri =>
  k_steps
  refine len_M (by k_asm) hrd hri (Nat.le_trans hrl6 (by decide)) fun t tk => ?_
  refine mod_int' (by omega) ?_
  generalize hx : Int.fmod _ _ = x
  have hx0 : 0 ≤ x := by rw [← hx]; exact Int.fmod_nonneg_of_pos _ (by omega)
  have hx1 : x < rl.length := by rw [← hx]; exact Int.fmod_lt_of_pos _ (by omega)
  refine item_intM (by k_asm) hrd hri hx0 hx1 (Nat.le_trans hrl6 (by decide)) fun c t hc => ?_
  k_steps
  rename Fr h₀ LL _ _ => F3; rename News h₀ LL _ _ => N3
  exact hQ _ _ _ _ _ (fr_know F3 ⟨rfl, rfl, rfl, rfl, rfl, rfl, rfl, trivial⟩) N3 (List.mem_of_getElem? hc)
set_option maxHeartbeats 1000000 in
theorem st_least (V : Amb prog w mg mb P dp un outer A₀ base h₀) (Z : Fix P d pp LL n0 lc lb lr vk cis ks bs tp r0 r1) (K : Core prog w P d pp n0 bs g i f n) (hc : c ∈ bs)
    (F : Fr h₀ LL s.heap (cf [kv "keys" vk, kv "board" (.ref lb), kv "past" (.ref pp), kv "turn" (.int tn t1), kv "step" (.int sn t2), kv "chosen" (.int c t3)] u)) (N : News h₀ LL s.heap n)
    (hQ : ∀ h1 tk1 n' v u', Fr h₀ LL h1 (cf [kv "keys" vk, kv "board" (.ref lb), kv "past" (.ref pp), kv "turn" (.int tn t1), kv "step" (.int sn t2), kv "chosen" (.int c t3), kv "least" v] u') → News h₀ LL h1 n' → Grow n n' → EntryIn prog w n' v (pickL ks 1 f (nearL bs c 1)) → Q .next { s with heap := h1, toks := tk1 }) :
    wpAny (model prog w) (RunA dp un gd LL outer) (exec (nthS stepB 3) (RunE LL)) Q NoE s := by
  dsimp only [RunA, RunE]
  conv in (occs := *) nthS stepB 3 => all_goals whnf
  conv in (occs := *) runScope => all_goals whnf
  obtain ⟨B, X, T, C, M, hdp, hun⟩ := V
  have hT := K.t
  have hs := K.sub
  obtain ⟨o4, hc4, d4⟩ := Z.c4
  have hk := Z.keys
  have hbd := Z.board
  have hk8 := Z.hk8
  obtain ⟨⟨hn1, hn2, hn3⟩, -⟩ := Z.hb.near c hc
  replace hc4 := hs _ hc4
  clear Z K
  k_steps
  rename Fr h₀ LL _ _ => kF; rename News h₀ LL _ _ => kN; rename EntryIn _ _ _ _ _ => kE
  rename Grow _ _ => kg2
  rename Grow n _ => kg1
  exact hQ _ _ _ _ _ (fr_know kF ⟨rfl, rfl, rfl, rfl, rfl, rfl, rfl, trivial⟩) kN (kg1.trans kg2) kE
set_option maxHeartbeats 1000000 in
theorem st_greatest (V : Amb prog w mg mb P dp un outer A₀ base h₀) (Z : Fix P d pp LL n0 lc lb lr vk cis ks bs tp r0 r1) (K : Core prog w P d pp n0 bs g i f n) (hc : c ∈ bs)
    (F : Fr h₀ LL s.heap (cf [kv "keys" vk, kv "board" (.ref lb), kv "past" (.ref pp), kv "turn" (.int tn t1), kv "step" (.int sn t2), kv "chosen" (.int c t3), kv "least" vl] u)) (N : News h₀ LL s.heap n)
    (hQ : ∀ h1 tk1 n' v u', Fr h₀ LL h1 (cf [kv "keys" vk, kv "board" (.ref lb), kv "past" (.ref pp), kv "turn" (.int tn t1), kv "step" (.int sn t2), kv "chosen" (.int c t3), kv "least" vl, kv "greatest" v] u') → News h₀ LL h1 n' → Grow n n' → EntryIn prog w n' v (pickL ks (-1) f (nearL bs c (-1))) → Q .next { s with heap := h1, toks := tk1 }) :
    wpAny (model prog w) (RunA dp un gd LL outer) (exec (nthS stepB 4) (RunE LL)) Q NoE s := by
  dsimp only [RunA, RunE]
  conv in (occs := *) nthS stepB 4 => all_goals whnf
  conv in (occs := *) runScope => all_goals whnf
  obtain ⟨B, X, T, C, M, hdp, hun⟩ := V
  have hT := K.t
  have hs := K.sub
  obtain ⟨o4, hc4, d4⟩ := Z.c4
  have hk := Z.keys
  have hbd := Z.board
  have hk8 := Z.hk8
  obtain ⟨-, hn1, hn2, hn3⟩ := Z.hb.near c hc
  replace hc4 := hs _ hc4
  clear Z K
  k_steps
  rename Fr h₀ LL _ _ => kF; rename News h₀ LL _ _ => kN; rename EntryIn _ _ _ _ _ => kE
  rename Grow _ _ => kg2
  rename Grow n _ => kg1
  exact hQ _ _ _ _ _ (fr_know kF ⟨rfl, rfl, rfl, rfl, rfl, rfl, rfl, rfl, trivial⟩) kN (kg1.trans kg2) kE
set_option maxHeartbeats 1000000 in
theorem st_none (V : Amb prog w mg mb P dp un outer A₀ base h₀) {a1 a2 : Addr}
    (F : Fr h₀ LL s.heap (cf [kv "keys" vk, kv "board" (.ref lb), kv "past" (.ref pp), kv "turn" (.int tn t1), kv "step" (.int sn t2), kv "chosen" (.int c t3), kv "least" (.ref a1), kv "greatest" (.ref a2)] u)) (N : News h₀ LL s.heap n)
    (hQ : ∀ h1 tk1 u', Fr h₀ LL h1 (cf [kv "keys" vk, kv "board" (.ref lb), kv "past" (.ref pp), kv "turn" (.int tn t1), kv "step" (.int sn t2), kv "chosen" (.int c t3), kv "least" (.ref a1), kv "greatest" (.ref a2)] u') → News h₀ LL h1 n → Q .next { s with heap := h1, toks := tk1 }) :
    wpAny (model prog w) (RunA dp un gd LL outer) (exec (nthS stepB 5) (RunE LL)) Q NoE s := by
  dsimp only [RunA, RunE]
  conv in (occs := *) nthS stepB 5 => all_goals whnf
  conv in (occs := *) runScope => all_goals whnf
  obtain ⟨B, X, T, C, M, hdp, hun⟩ := V
  k_steps
  rename Fr h₀ LL _ _ => kF; rename News h₀ LL _ _ => kN
  exact hQ _ _ _ kF kN
end
section
variable {prog : Program} {w : World} {mg mb : Str → Option Value} {dp un : Nat} {gd : Option (List Code)} {outer : List Env} {A₀ : Around} {base h₀ : Heap} {LL P d pp dn rd : Nat} {n0 n : Led} {lc lb lr : Addr} {vk vl : Value} {cis dl : List Int} {ks : List Key} {bs : List Int} {tp : Int} {r0 r1 : Row} {g : Nat → Int → Row} {i : Nat} {f : Int → Row} {s : Shared} {Q : Flow → Shared → Prop} {tn sn c : Int} {t1 t2 t3 : Tok} {u : Str → Option Value}
set_option maxHeartbeats 1000000 in
theorem st_turned (V : Amb prog w mg mb P dp un outer A₀ base h₀) (Z : Fix P d pp LL n0 lc lb lr vk cis ks bs tp r0 r1) (K : Core prog w P d pp n0 bs g i f n) (hc : c ∈ bs) {v1 v2 : Value}
    (F : Fr h₀ LL s.heap (cf [kv "keys" vk, kv "board" (.ref lb), kv "past" (.ref pp), kv "turn" (.int tn t1), kv "step" (.int sn t2), kv "chosen" (.int c t3), kv "least" v1, kv "greatest" v2] u)) (N : News h₀ LL s.heap n)
    (hQ : ∀ h1 tk1 n' v u', Fr h₀ LL h1 (cf [kv "keys" vk, kv "board" (.ref lb), kv "past" (.ref pp), kv "turn" (.int tn t1), kv "step" (.int sn t2), kv "chosen" (.int c t3), kv "least" v1, kv "greatest" v2, kv "turned" v] u') → News h₀ LL h1 n' → Grow n n' → EntryIn prog w n' v (f c).neg → Q .next { s with heap := h1, toks := tk1 }) :
    wpAny (model prog w) (RunA dp un gd LL outer) (exec (nthS stepB 6) (RunE LL)) Q NoE s := by
  dsimp only [RunA, RunE]
  conv in (occs := *) nthS stepB 6 => all_goals whnf
  conv in (occs := *) runScope => all_goals whnf
  obtain ⟨B, X, T, C, M, hdp, hun⟩ := V
  have hT := K.t
  have hs := K.sub
  obtain ⟨o4, hc4, d4⟩ := Z.c4
  replace hc4 := hs _ hc4
  have hc9 : c ∈ 0 :: 99 :: bs := .tail _ (.tail _ hc)
  clear Z K
  k_steps
  rename RowIn _ _ _ => hr7
  rename Grow n _ => g7; rename Led => n7
  rename Fr _ _ _ _ => F7; rename News _ _ _ _ => N7
  cases hr7 with | @mk p1 a0 a1 a2 a3 a4 a5 _ m1 =>
  refine comp_neg (is := (f c).list) rfl (by decide) rfl rfl (by decide) F7 N7 (fresh_sub _ m1) (.cons _ _ (.cons _ _ (.cons _ _ (.cons _ _ (.cons _ _ (.cons _ _ .nil)))))) (Nat.le_of_ble_eq_true rfl) fun D C h tk m' ys F5 N5 hlt hn hC₀ hCL off hys => ?_
  refine postE F5 N5 hn hC₀ hCL off fun h6 F6 N6 => ?_
  have hrl : RowL ((D, LCg.lst ys) :: n7) (.ref D) (f c).neg := rowL_of (.head _) hys
  have g8 : Grow n ((D, LCg.lst ys) :: n7) := Grow.cons (allLt_of hlt) g7
  clear g7
  k_steps
  rename Fr h₀ LL _ _ => kF; rename News h₀ LL _ _ => kN; rename EntryIn _ _ _ _ (Row.neg _) => kE
  rename Grow (_ :: _) _ => kg2
  exact hQ _ _ _ _ _ (fr_know kF ⟨rfl, rfl, rfl, rfl, rfl, rfl, rfl, rfl, rfl, trivial⟩) kN (g8.trans kg2) (kE.mono fresh_sub)
end
section
variable {prog : Program} {w : World} {mg mb : Str → Option Value} {dp un : Nat} {gd : Option (List Code)} {outer : List Env} {A₀ : Around} {base h₀ : Heap} {LL P d pp dn rd : Nat} {n0 n : Led} {lc lb lr : Addr} {vk vl : Value} {cis dl : List Int} {ks : List Key} {bs : List Int} {tp : Int} {r0 r1 : Row} {g : Nat → Int → Row} {i : Nat} {f : Int → Row} {s : Shared} {Q : Flow → Shared → Prop} {tn sn c : Int} {t1 t2 t3 : Tok} {u : Str → Option Value}
def three (a b c : Row) : Nat → Row
  | 0 => a
  | 1 => b
  | _ => c
theorem grow_top {n n' : Led} {D : Addr} {o : Obj} (g : Grow n n') (h : ∀ p ∈ n, p.1 < D) : Grow n ((D, o) :: n') :=
  ⟨fun p hp => .tail _ (g.sub p hp), fun p hp => (List.mem_cons.mp hp).elim (fun e => .inr (e ▸ h)) (g.new p)⟩
theorem CalIn.mono {n n' : Led} {v : Value} {r : Row} (h : CalIn prog w n v r) (g : ∀ p ∈ n, p ∈ n') : CalIn prog w n' v r := by
  cases h with | mk a b c e => exact .mk (g _ a) b c (g _ e)
set_option maxHeartbeats 1000000 in
theorem st_kept (V : Amb prog w mg mb P dp un outer A₀ base h₀) {v1 v2 v3 : Value} {u1 u2 u3 : Row}
    (F : Fr h₀ LL s.heap (cf [kv "keys" vk, kv "board" (.ref lb), kv "past" (.ref pp), kv "turn" (.int tn t1), kv "step" (.int sn t2), kv "chosen" (.int c t3), kv "least" v1, kv "greatest" v2, kv "turned" v3] u)) (N : News h₀ LL s.heap n) (h1 : EntryIn prog w n v1 u1) (h2 : EntryIn prog w n v2 u2) (h3 : EntryIn prog w n v3 u3)
    (hQ : ∀ h1 tk1 n' kd ys u', Fr h₀ LL h1 (cf [kv "keys" vk, kv "board" (.ref lb), kv "past" (.ref pp), kv "turn" (.int tn t1), kv "step" (.int sn t2), kv "chosen" (.int c t3), kv "least" v1, kv "greatest" v2, kv "turned" v3, kv "kept" (.ref kd)] u') → News h₀ LL h1 n' → Grow n n' → (kd, LCg.lst ys) ∈ n' → ys.length = 3 → (∀ j v, ys[j]? = some v → CalIn prog w n' v (three u1 u2 u3 j)) → Q .next { s with heap := h1, toks := tk1 }) :
    wpAny (model prog w) (RunA dp un gd LL outer) (exec (nthS stepB 7) (RunE LL)) Q NoE s := by
  dsimp only [RunA, RunE]
  conv in (occs := *) nthS stepB 7 => all_goals whnf
  conv in (occs := *) runScope => all_goals whnf
  obtain ⟨B, X, T, C, M, hdp, hun⟩ := V
  k_steps
  rename Fr _ _ _ _ => F7; rename News _ _ _ _ => N7
  rename ∀ p ∈ n, _ => hq7
  refine grow_tuple (El := fun n i y => CalIn prog w n y (three u1 u2 u3 i)) (fun n n' i y k h => h.mono k) (vs := [v1, v2, v3]) rfl (by decide) rfl rfl F7 N7 (.head _) (Nat.le_of_ble_eq_true rfl) ?_ ?_
  · rintro i v C D oC m₂ own ys news₁ h tk Q E' hv hx hoC F2 N2 g2 hQ
    have hv' : EntryIn prog w news₁ v (three u1 u2 u3 i) := by
      refine EntryIn.mono (n := n) ?_ fun p hp => g2.sub p (.tail _ hp)
      match i, hv with
      | 0, hv => cases hv; exact h1
      | 1, hv => cases hv; exact h2
      | 2, hv => cases hv; exact h3
      | _ + 3, hv => simp at hv
    clear hv
    obtain ⟨Mm, hM, N2⟩ : ∃ Mm, Mm = (own ++ [(C, oC), (D, LCg.lst ys)]) ++ news₁ ∧ News h₀ LL h Mm := ⟨_, rfl, N2⟩
    rw [← hM] at hQ
    have hCM : (C, oC) ∈ Mm := by rw [hM]; exact List.mem_append_left _ (List.mem_append_right _ (.head _))
    have hnM : ∀ p ∈ news₁, p ∈ Mm := by rw [hM]; exact fun p hp => List.mem_append_right _ hp
    clear hM
    cases hv' with | @mk p1 d1 q1 o1 a0 a1 a2 a3 a4 a5 a6 a7 ah _ hp1 hd1 lo1 hD1 hq1 =>
    have hp1' := hnM _ hp1
    have hd1' := hnM _ hd1
    k_steps
    rename (_ == sysModules) = false => lo9; rename Obj.IsDictOf (PySem.strKind prog w) _ _ => hd9; rename Fr _ _ _ _ => F9; rename News _ _ _ _ => N9
    rename ∀ p ∈ Mm, _ => lt9
    exact hQ _ _ _ _ F9 N9 (Grow.cons (allLt_of lt9) .refl) (CalIn.mk (List.mem_append_right _ (fresh_mem.mpr ⟨.head _, lt9⟩)) lo9 hd9 (List.mem_append_left _ hq1))
  · intro D C h tk m' ys news' F5 N5 off5 hlt hn hC₀ hCL off hl hel hg
    refine postA ?pa F5 N5 hn hC₀ hCL off ?pb ?pc fun h6 tk6 F9 N9 => ?_
    case pa => rfl
    case pb => rfl
    case pc => rfl
    exact hQ _ _ _ _ _ _ (fr_know F9 ⟨rfl, rfl, rfl, rfl, rfl, rfl, rfl, rfl, rfl, rfl, trivial⟩) N9 (grow_top ((grow_top (o := tupO [v1, v2, v3]) .refl hq7).trans hg) fun p hp => hlt p (.tail _ hp)) (.head _) hl fun j v e => (hel j v e).mono fun p hp => .tail _ hp
set_option maxHeartbeats 1000000 in
theorem st_last (V : Amb prog w mg mb P dp un outer A₀ base h₀) {v1 v2 v3 : Value} {u1 u2 u3 : Row} {kd : Addr} {ps : Array Value}
    (F : Fr h₀ LL s.heap (cf [kv "keys" vk, kv "board" (.ref lb), kv "past" (.ref pp), kv "turn" (.int tn t1), kv "step" (.int sn t2), kv "chosen" (.int c t3), kv "least" v1, kv "greatest" v2, kv "turned" v3, kv "kept" (.ref kd)] u)) (N : News h₀ LL s.heap ((P, tabObj ps) :: n)) (HP : TriplesOk ps.toList) (HG : AllBare s.gens) (HQ : ∀ p ∈ n, P < p.1) (h1 : EntryIn prog w n v1 u1) (h2 : EntryIn prog w n v2 u2) (h3 : EntryIn prog w n v3 u3)
    (hQ : ∀ h1 tk1 gn1 ps' n' v u', Fr h₀ LL h1 (cf [kv "keys" vk, kv "board" (.ref lb), kv "past" (.ref pp), kv "turn" (.int tn t1), kv "step" (.int sn t2), kv "chosen" (.int c t3), kv "least" v1, kv "greatest" v2, kv "turned" v3, kv "kept" (.ref kd), kv "last" v] u') → News h₀ LL h1 ((P, tabObj ps') :: n') → TriplesOk ps'.toList → AllBare gn1 → (∀ p ∈ n', P < p.1) → Grow n n' → EntryIn prog w n' v ((u1.add u2).add u3) → Q .next { s with heap := h1, toks := tk1, gens := gn1 }) :
    wpAny (model prog w) (RunA dp un gd LL outer) (exec (nthS stepB 8) (RunE LL)) Q NoE s := by
  dsimp only [RunA, RunE]
  conv in (occs := *) nthS stepB 8 => all_goals whnf
  conv in (occs := *) runScope => all_goals whnf
  obtain ⟨B, X, T, C, M, hdp, hun⟩ := V
  k_steps
  rename EntryIn _ _ _ _ (Row.add (Row.add u1 u2) u3) => kE
  rename Fr h₀ LL _ _ => kF; rename News h₀ LL _ _ => kN
  rename Grow n _ => g1
  rename Grow _ _ => g2
  exact hQ _ _ _ _ _ _ _ (fr_know kF ⟨rfl, rfl, rfl, rfl, rfl, rfl, rfl, rfl, rfl, rfl, rfl, trivial⟩) kN (by assumption) (by assumption) (by assumption) (g1.trans g2) kE
set_option maxHeartbeats 1000000 in
theorem st_same (V : Amb prog w mg mb P dp un outer A₀ base h₀) {v1 v2 v3 : Value} {u1 u2 u3 : Row} {kd : Addr} {ys : List Value}
    (F : Fr h₀ LL s.heap (cf [kv "keys" vk, kv "board" (.ref lb), kv "past" (.ref pp), kv "turn" (.int tn t1), kv "step" (.int sn t2), kv "chosen" (.int c t3), kv "least" v1, kv "greatest" v2, kv "turned" v3, kv "kept" (.ref kd), kv "last" vl] u)) (N : News h₀ LL s.heap n) (h1 : EntryIn prog w n v1 u1) (h2 : EntryIn prog w n v2 u2) (h3 : EntryIn prog w n v3 u3)
    (hkd : (kd, LCg.lst ys) ∈ n) (hyl : ys.length = 3) (hys : ∀ j v, ys[j]? = some v → CalIn prog w n v (three u1 u2 u3 j))
    (hQ : ∀ h1 tk1 n' u', Fr h₀ LL h1 (cf [kv "keys" vk, kv "board" (.ref lb), kv "past" (.ref pp), kv "turn" (.int tn t1), kv "step" (.int sn t2), kv "chosen" (.int c t3), kv "least" v1, kv "greatest" v2, kv "turned" v3, kv "kept" (.ref kd), kv "last" vl] u') → News h₀ LL h1 n' → Grow n n' → Q .next { s with heap := h1, toks := tk1 }) :
    wpAny (model prog w) (RunA dp un gd LL outer) (exec (nthS stepB 9) (RunE LL)) Q NoE s := by
  dsimp only [RunA, RunE]
  conv in (occs := *) nthS stepB 9 => all_goals whnf
  conv in (occs := *) runScope => all_goals whnf
  obtain ⟨B, X, T, C, M, hdp, hun⟩ := V
  k_steps
  rename Fr _ _ _ _ => F7; rename News _ _ _ _ => N7
  rename ∀ p ∈ n, _ => hq7
  refine grow_tuple (El := fun n i y => CalIn prog w n y (three u1 u2 u3 i)) (fun n n' i y k h => h.mono k) (vs := [v1, v2, v3]) rfl (by decide) rfl rfl F7 N7 (.head _) (Nat.le_of_ble_eq_true rfl) ?_ ?_
  · rintro i v C D oC m₂ own ys news₁ h tk Q E' hv hx hoC F2 N2 g2 hQ
    have hv' : EntryIn prog w news₁ v (three u1 u2 u3 i) := by
      refine EntryIn.mono (n := n) ?_ fun p hp => g2.sub p (.tail _ hp)
      match i, hv with
      | 0, hv => cases hv; exact h1
      | 1, hv => cases hv; exact h2
      | 2, hv => cases hv; exact h3
      | _ + 3, hv => simp at hv
    clear hv
    obtain ⟨Mm, hM, N2⟩ : ∃ Mm, Mm = (own ++ [(C, oC), (D, LCg.lst ys)]) ++ news₁ ∧ News h₀ LL h Mm := ⟨_, rfl, N2⟩
    rw [← hM] at hQ
    have hCM : (C, oC) ∈ Mm := by rw [hM]; exact List.mem_append_left _ (List.mem_append_right _ (.head _))
    have hnM : ∀ p ∈ news₁, p ∈ Mm := by rw [hM]; exact fun p hp => List.mem_append_right _ hp
    clear hM
    cases hv' with | @mk p1 d1 q1 o1 a0 a1 a2 a3 a4 a5 a6 a7 ah _ hp1 hd1 lo1 hD1 hq1 =>
    have hp1' := hnM _ hp1
    have hd1' := hnM _ hd1
    k_steps
    rename Fr _ _ _ _ => F9; rename News _ _ _ _ => N9
    exact hQ _ _ _ _ F9 N9 .refl (CalIn.mk (List.mem_append_left _ hd1) lo1 hD1 (List.mem_append_left _ hq1))
  · intro D C h tk m' zs news' F5 N5 off5 hlt hn hC₀ hCL off hl hel hg
    refine postE F5 N5 hn hC₀ hCL off fun h6 F6 N6 => ?_
    walk1
    (try dsimp only)
    have gg : Grow n news' := (grow_top (o := tupO [v1, v2, v3]) .refl hq7).trans hg
    refine list_ne (A := ktrTop dp un gd _ _ LL 85 (.ref 84) (runCl LL) outer) N6 (.head _) (.tail _ (gg.sub _ hkd)) (by rw [hyl]; exact hl) (by show un < _; omega) (fun j h1 h2 => ?_) ?_
    · refine cal_eqW N6 ((hel j _ (List.getElem?_eq_getElem h1)).mono fun p hp => .tail _ hp) ((hys j _ (List.getElem?_eq_getElem h2)).mono fun p hp => .tail _ (gg.sub p hp)) ?_ ?_
      · show un + 1 + 4 < _; omega
      · show un + 1 + 1 + 4 < _; omega
    k_steps
    exact hQ _ _ _ _ F6 N6 (grow_top gg fun p hp => hlt p (.tail _ hp))
end
section
variable {prog : Program} {w : World} {mg mb : Str → Option Value} {dp un : Nat} {gd : Option (List Code)} {outer : List Env} {A₀ : Around} {base h₀ : Heap} {LL P d pp dn rd : Nat} {n0 n : Led} {lc lb lr : Addr} {vk vl : Value} {cis dl : List Int} {ks : List Key} {bs : List Int} {tp : Int} {r0 r1 : Row} {g : Nat → Int → Row} {i : Nat} {f : Int → Row} {s : Shared} {Q : Flow → Shared → Prop} {tn sn c : Int} {t1 t2 t3 : Tok} {u : Str → Option Value}
set_option maxHeartbeats 1000000 in
theorem st_store (V : Amb prog w mg mb P dp un outer A₀ base h₀) (Z : Fix P d pp LL n0 lc lb lr vk cis ks bs tp r0 r1) (K : Core prog w P d pp n0 bs g i f n) (hc : c ∈ bs) {v1 v2 v3 : Value} {r : Row} {kd : Addr}
    (F : Fr h₀ LL s.heap (cf [kv "keys" vk, kv "board" (.ref lb), kv "past" (.ref pp), kv "turn" (.int tn t1), kv "step" (.int sn t2), kv "chosen" (.int c t3), kv "least" v1, kv "greatest" v2, kv "turned" v3, kv "kept" (.ref kd), kv "last" vl] u)) (N : News h₀ LL s.heap n) (hv : EntryIn prog w n vl r)
    (hQ : ∀ h1 tk1 o' u', Fr h₀ LL h1 (cf [kv "keys" vk, kv "board" (.ref lb), kv "past" (.ref pp), kv "turn" (.int tn t1), kv "step" (.int sn t2), kv "chosen" (.int c t3), kv "last" vl] u') → News h₀ LL h1 ((d, o') :: carve d n) → (∃ o kvs, (d, o) ∈ n ∧ o.IsDictOf (PySem.intKind prog w) kvs) → Core prog w P d pp n0 bs g i (updF f c r) ((d, o') :: carve d n) → Q .next { s with heap := h1, toks := tk1 }) :
    wpAny (model prog w) (RunA dp un gd LL outer) (exec (nthS stepB 10) (RunE LL)) Q NoE s := by
  dsimp only [RunA, RunE]
  conv in (occs := *) nthS stepB 10 => all_goals whnf
  conv in (occs := *) runScope => all_goals whnf
  obtain ⟨B, X, T, C, M, hdp, hun⟩ := V
  obtain ⟨o4, hc4, d4⟩ := Z.c4
  have hc4' : (LL + 4, o4) ∈ carve d n := carve_in (K.sub _ hc4) (Z.off _ hc4).2.1
  have hT := K.t
  generalize hcs : 0 :: 99 :: bs = cs at hT
  generalize hvd : Value.ref d = vd at hT
  cases hT with | @mk d9 o kvs _ _ hd lo hD hl he =>
  cases hvd
  subst hcs
  have hkz : kvs.length ≤ sizeLine := Nat.le_trans hl (by rw [sizeLine_eq]; exact Nat.le_of_ble_eq_true rfl)
  have N1 := carve_news N hd
  have hz := fun o' hd' => Core.store (o' := o') N K hd lo hD hl he (fun p hp => (Z.off p hp).2.1) (x := c) (.tail _ (.tail _ hc)) hv hd'
  clear K Z N he
  k_steps
  rename Fr _ _ _ _ => F9; rename News _ _ _ _ => N9; rename Obj.IsDictOf _ _ (stored _ _ _) => hd9
  exact hQ _ _ _ _ (fr_know F9 ⟨rfl, rfl, rfl, rfl, rfl, rfl, rfl, trivial⟩) N9 ⟨o, kvs, hd, hD⟩ (hz _ hd9)
set_option maxHeartbeats 1000000 in
theorem st_done (V : Amb prog w mg mb P dp un outer A₀ base h₀) {o5 dvs nd} (hc5 : (LL + 5, o5) ∈ n) (d5 : o5.data = .cell (some (.ref dn))) (hdn : (dn, listO dvs nd) ∈ n) (hz : dvs.length ≤ 7)
    (F : Fr h₀ LL s.heap (cf [kv "keys" vk, kv "board" (.ref lb), kv "past" (.ref pp), kv "turn" (.int tn t1), kv "step" (.int sn t2), kv "chosen" (.int c t3), kv "last" vl] u)) (N : News h₀ LL s.heap n)
    (hQ : ∀ h1 tk1 u', Fr h₀ LL h1 (cf [kv "keys" vk, kv "board" (.ref lb), kv "past" (.ref pp), kv "turn" (.int tn t1), kv "step" (.int sn t2), kv "chosen" (.int c t3), kv "last" vl] u') → News h₀ LL h1 ((dn, listO (dvs ++ [.int c t3]) (nd + 1)) :: carve dn n) → Q .next { s with heap := h1, toks := tk1 }) :
    wpAny (model prog w) (RunA dp un gd LL outer) (exec (nthS stepB 11) (RunE LL)) Q NoE s := by
  dsimp only [RunA, RunE]
  conv in (occs := *) nthS stepB 11 => all_goals whnf
  conv in (occs := *) runScope => all_goals whnf
  obtain ⟨B, X, T, C, M, hdp, hun⟩ := V
  have hz' : dvs.length ≤ sizeLine := Nat.le_trans hz (by rw [sizeLine_eq]; exact Nat.le_of_ble_eq_true rfl)
  k_steps
  rename Fr _ _ _ _ => F9; rename News _ _ _ _ => N9
  exact hQ _ _ _ F9 N9
end
section
variable {prog : Program} {w : World} {mg mb : Str → Option Value} {dp un : Nat} {gd : Option (List Code)} {outer : List Env} {A₀ : Around} {base h₀ : Heap} {LL P d pp : Nat} {n0 n : Led} {lc lb lr : Addr} {vk : Value} {cis : List Int} {ks : List Key} {bs : List Int} {tp : Int} {r0 r1 : Row} {g : Nat → Int → Row} {i : Nat} {f : Int → Row} {s : Shared} {Q : Flow → Shared → Prop} {tn : Int} {t1 t2 : Tok} {u : Str → Option Value}
theorem seq_cons {A : Around} {E : Value → Shared → Prop} {env : Env} {st : Stmt} {rest : List Stmt} (h : wpAny (model prog w) A (exec st env) (fun f s' => f = .next ∧ wpAny (model prog w) A (execs rest env) Q E s') E s) : wpAny (model prog w) A (execs (st :: rest) env) Q E s :=
  wpAny_execs_cons (wpAny_mono h (fun f s' h => by obtain ⟨rfl, h⟩ := h; exact h) fun _ _ h => h)
theorem seq_nil {A : Around} {E : Value → Shared → Prop} {env : Env} (h : Q .next s) : wpAny (model prog w) A (execs [] env) Q E s := wpAny_execs_nil h
theorem asg_run {A : Around} {E : Value → Shared → Prop} {m : Str → Option Value} {x : Str} {px : Pos} {v : Value} {Q : Unit → Shared → Prop} (F : Fr h₀ LL s.heap m) (N : News h₀ LL s.heap n) (hy : (RunE LL).kindOf x = some .local)
    (h : ∀ h', Fr h₀ LL h' (fun z => if z = x then some v else m z) → News h₀ LL h' n → Q () { s with heap := h', toks := s.toks + 1 }) : wpAny (model prog w) A (assign (.Name x px) (RunE LL) v) Q E s := by
  refine wpAny_assign_Name (wpAny_storeName_local hy F.ns (fun h₂ hn₂ hs₂ => ?_) (by rfl))
  have hL₀ : h₀.get? LL = none := Heap.get?_none_of_le F.above
  exact h h₂ ⟨hn₂, fun b o e => hs₂.extBut b o (fun q => by rw [q] at e; exact absurd (e.symm.trans hL₀) (by simp)) (F.keep b o e), F.above⟩ fun p hp => ⟨hs₂.extBut _ _ (N p hp).2.1 (N p hp).1, (N p hp).2⟩
theorem stepB_eq : stepB = [nthS stepB 0, nthS stepB 1, nthS stepB 2, nthS stepB 3, nthS stepB 4, nthS stepB 5, nthS stepB 6, nthS stepB 7, nthS stepB 8, nthS stepB 9, nthS stepB 10, nthS stepB 11] := rfl
theorem ne_obj {L a b : Addr} {h : Heap} {x y : Obj} (N : News h₀ L h n) (ha : (a, x) ∈ n) (hb : (b, y) ∈ n) (hne : x ≠ y) : a ≠ b := fun e => by
  subst e
  exact hne (same_obj N ha hb)
theorem list_ne_tab {vs : List Value} {k : Nat} {ps : Array Value} : listO vs k ≠ tabObj ps := fun e => absurd (show Value.type "list" = Value.none from congrArg Obj.cls e) (by decide)
theorem cell_ne_tab {o : Obj} {v : Option Value} {ps : Array Value} (h : o.data = .cell v) : o ≠ tabObj ps := fun e => by rw [e] at h; cases h
theorem cell_ne_list {o : Obj} {v : Option Value} {vs : List Value} {k : Nat} (h : o.data = .cell v) : o ≠ listO vs k := fun e => by rw [e] at h; cases h
theorem nodat_ne_list {o : Obj} {vs : List Value} {k : Nat} (h : NoDat o) : o ≠ listO vs k := fun e => h.l (by rw [e])
theorem CellN.ne_dict {o o' : Obj} {kvs : List (Int × Value)} (h : CellN prog w o) (hd : o'.IsDictOf (PySem.intKind prog w) kvs) : o ≠ o' := fun e => h.i kvs (e ▸ hd)
/-- in the midst of a turn -/
inductive J2 (prog : Program) (w : World) (P d pp LL : Nat) (n0 : Led) (lb : Addr) (vk : Value) (ks : List Key) (bs : List Int) (g : Nat → Int → Row) (i : Nat) (tn : Int) (t1 : Tok) (I1 : Addr) (it1 : Obj) (s0 : Nat) (m : Str → Option Value) (n : Led) (gn : Array GenState) : Prop
  | mk (u : Str → Option Value) (vl : Value) (f : Int → Row) (dl : List Int) (dvs : List Value) (nd : Nat) (o5 : Obj) (dn : Addr) : m = cf [kv "keys" vk, kv "board" (.ref lb), kv "past" (.ref pp), kv "turn" (.int tn t1), kv "last" vl] u → AllBare gn → Core prog w P d pp n0 bs g i f n → (LL + 5, o5) ∈ n → o5.data = .cell (some (.ref dn)) → (dn, listO dvs nd) ∈ n → IntsAre dvs dl → (∀ p ∈ n0, p.1 ≠ dn) → dn ≠ pp →
    TurnInv bs ks (g i) f dl → cnt bs dl = s0 → dl.length = s0 + 1 → (s0 = 0 ∨ ∃ r, EntryIn prog w n vl r) → (I1, it1) ∈ n → J2 prog w P d pp LL n0 lb vk ks bs g i tn t1 I1 it1 s0 m n gn
theorem Core.toP {P d pp : Nat} {h : Heap} (N : News h₀ LL h n) (K : Core prog w P d pp n0 bs g i f n) : ∃ ps, (P, tabObj ps) ∈ n ∧ TriplesOk ps.toList ∧ News h₀ LL h ((P, tabObj ps) :: Mine.carve P n) ∧ ∀ p ∈ Mine.carve P n, P < p.1 := by
  refine hide fun G' hG' => ?_
  obtain ⟨ps, a, b⟩ := K.tab
  refine hG' ?_
  clear hG' G'
  exact ⟨ps, a, b, carve_news N a, fun p hp => Nat.lt_of_le_of_ne (K.low p (carve_sub p hp)) (Ne.symm (carve_off p hp))⟩
set_option maxHeartbeats 2000000 in
theorem step_turn (V : Amb prog w mg mb P dp un outer A₀ base h₀) (Z : Fix P d pp LL n0 lc lb lr vk cis ks bs tp r0 r1) (hlen : cis.length = 51) (ht0 : 1 ≤ tn) (ht6 : tn ≤ 6) {s0 : Nat} (hs0 : s0 < bs.length) {I I1 : Addr} {it it1 : Obj} (hit : NoDat it) (hit1 : NoDat it1) (hPI : P < I) (hPI1 : P ≠ I1) {n1 : Led} {m : Str → Option Value} {px : Pos}
    (J : J2 prog w P d pp LL n0 lb vk ks bs g i tn t1 I1 it1 s0 m n1 s.gens) (hoff : ∀ p ∈ n1, p.1 ≠ I) (F : Fr h₀ LL s.heap m) (N : News h₀ LL s.heap ((I, it) :: n1)) :
    wpAny (model prog w) (RunA dp un gd LL outer) (assign (.Name (Str.ofString "step") px) (RunE LL) (.int (0 + (s0 : Int)) t2)) (fun _ s₃ => wpAny (model prog w) (RunA dp un gd LL outer) (execs stepB (RunE LL)) (GPost h₀ LL s I it (J2 prog w P d pp LL n0 lb vk ks bs g i tn t1 I1 it1 (s0 + 1)) Q) NoE s₃) NoE s := by
  refine hide fun G' hG' => ?_
  obtain ⟨u, vl, f, dl, dvs, nd, o5, dn, rfl, HG, K, hc5, d5, hdn, hdl, hdn0, hdnp, TI, hcnt, hdll, hlast, hI1⟩ := J
  refine hG' ?_
  clear hG' G'
  have hsi : (0 : Int) + (s0 : Int) = (s0 : Int) := by omega
  have hb6 : bs.length ≤ 6 := by rcases Z.hb with ⟨rfl, _⟩ | ⟨rfl, _⟩ | ⟨rfl, _⟩ <;> decide
  refine asg_run F N rfl fun h1 F1 N1 => ?_
  have K1 : Core prog w P d pp n0 bs g i f ((I, it) :: n1) := K.mono (fun p hp => .tail _ hp) fun p hp => by
    rcases List.mem_cons.mp hp with rfl | hp
    · exact Nat.le_of_lt hPI
    · exact K.low p hp
  rw [hsi] at F1
  have F1' := fr_know F1 (l := [kv "keys" vk, kv "board" (.ref lb), kv "past" (.ref pp), kv "turn" (.int tn t1), kv "step" (.int s0 t2), kv "last" vl]) ⟨rfl, rfl, rfl, rfl, rfl, rfl, trivial⟩
  rw [stepB_eq]
  -- ready = []
  refine seq_cons (st_ready0 V F1' N1 fun h2 tk2 u2 rd F2 N2 hrd => ⟨rfl, ?_⟩)
  refine seq_cons (st_ready V Z K1 F2 N2 hrd (.tail _ hc5) d5 (.tail _ hdn) hdl fun h3 tk3 n3 u3 F3 N3 g3 hrl => ⟨rfl, ?_⟩)
  have K3 := K1.grow g3
  have hrp := rdy_pos Z.hb TI.top (by rw [hcnt]; exact hs0)
  refine seq_cons (st_chosen V Z K3 hlen ht0 ht6 (by omega) (by omega) hrp (Nat.le_trans (List.length_filter_le _ _) hb6) F3 N3 hrl fun h4 tk4 u4 c t3 F4 N4 hc => ⟨rfl, ?_⟩)
  obtain ⟨hcb, hcr⟩ := List.mem_filter.mp hc
  rw [isRdy_iff] at hcr
  refine seq_cons (st_least V Z K3 hcb (fr_know F4 ⟨rfl, rfl, rfl, rfl, rfl, rfl, trivial⟩) N4 fun h5 tk5 n5 v1 u5 F5 N5 g5 e1 => ⟨rfl, ?_⟩)
  have K5 := K3.grow g5
  refine seq_cons (st_greatest V Z K5 hcb F5 N5 fun h6 tk6 n6 v2 u6 F6 N6 g6 e2 => ⟨rfl, ?_⟩)
  have K6 := K5.grow g6
  replace e1 := e1.mono g6.sub
  have a1 : ∃ a, v1 = .ref a := by cases e1 with | @mk p => exact ⟨p, rfl⟩
  have a2 : ∃ a, v2 = .ref a := by cases e2 with | @mk p => exact ⟨p, rfl⟩
  obtain ⟨a1, rfl⟩ := a1
  obtain ⟨a2, rfl⟩ := a2
  refine seq_cons (st_none V F6 N6 fun h7 tk7 u7 F7 N7 => ⟨rfl, ?_⟩)
  refine seq_cons (st_turned V Z K6 hcb F7 N7 fun h8 tk8 n8 v3 u8 F8 N8 g8 e3 => ⟨rfl, ?_⟩)
  have K8 := K6.grow g8
  replace e1 := e1.mono g8.sub
  replace e2 := e2.mono g8.sub
  refine seq_cons (st_kept V F8 N8 e1 e2 e3 fun h9 tk9 n9 kd ys u9 F9 N9 g9 hkd hyl hys => ⟨rfl, ?_⟩)
  have K9 := K8.grow g9
  replace e1 := e1.mono g9.sub
  replace e2 := e2.mono g9.sub
  replace e3 := e3.mono g9.sub
  refine hide fun G' hG' => ?_
  obtain ⟨ps, hP9, HP9, NP9, hQ9⟩ := K9.toP N9
  refine hG' ?_
  clear hG' G'
  refine seq_cons (st_last V F9 NP9 HP9 HG hQ9 (e1.carve N9 hP9 cell_tab) (e2.carve N9 hP9 cell_tab) (e3.carve N9 hP9 cell_tab) fun h10 tk10 gn10 ps10 n10 v4 u10 F10 N10 HP10 HG10 HQ10 g10 e4 => ⟨rfl, ?_⟩)
  have K10 := K9.setP N9 hP9 (fun p hp => (Z.off p hp).1) HP10 g10 HQ10
  have up10 : ∀ p ∈ n9, p.1 ≠ P → p ∈ (P, tabObj ps10) :: n10 := fun p hp hne => .tail _ (g10.sub p (carve_in hp hne))
  have hkd10 := up10 _ hkd (ne_obj N9 hkd hP9 list_ne_tab)
  replace e1 := ((e1.carve N9 hP9 cell_tab).mono g10.sub).mono fun p hp => List.mem_cons_of_mem (P, tabObj ps10) hp
  replace e2 := ((e2.carve N9 hP9 cell_tab).mono g10.sub).mono fun p hp => List.mem_cons_of_mem (P, tabObj ps10) hp
  replace e3 := ((e3.carve N9 hP9 cell_tab).mono g10.sub).mono fun p hp => List.mem_cons_of_mem (P, tabObj ps10) hp
  replace e4 := e4.mono fun p hp => List.mem_cons_of_mem (P, tabObj ps10) hp
  refine seq_cons (st_same V F10 N10 e1 e2 e3 hkd10 hyl (fun j v e => (((hys j v e).carve N9 hP9 cell_tab).mono g10.sub).mono fun p hp => List.mem_cons_of_mem (P, tabObj ps10) hp) fun h11 tk11 n11 u11 F11 N11 g11 => ⟨rfl, ?_⟩)
  have K11 := K10.grow g11
  replace e4 := e4.mono g11.sub
  have up9 : ∀ p ∈ (I, it) :: n1, p ∈ n9 := fun p hp => g9.sub p (g8.sub p (g6.sub p (g5.sub p (g3.sub p hp))))
  have up11 : ∀ p ∈ n9, p.1 ≠ P → p ∈ n11 := fun p hp hne => g11.sub p (up10 p hp hne)
  have hc5P := ne_obj N9 (up9 _ (.tail _ hc5)) hP9 (cell_ne_tab d5)
  have hdnP := ne_obj N9 (up9 _ (.tail _ hdn)) hP9 list_ne_tab
  have hc5b := up11 _ (up9 _ (.tail _ hc5)) hc5P
  have hdnb := up11 _ (up9 _ (.tail _ hdn)) hdnP
  have hI1b := up11 _ (up9 _ (.tail _ hI1)) hPI1.symm
  have hIb := up11 _ (up9 _ (.head _)) (Nat.ne_of_gt hPI)
  refine seq_cons (st_store V Z K11 hcb F11 N11 e4 fun h12 tk12 o12 u12 F12 N12 hdo K12 => ⟨rfl, ?_⟩)
  refine hide fun G' hG' => ?_
  obtain ⟨od, kvs, hod, hDo⟩ := hdo
  refine hG' ?_
  clear hG' G'
  have hkd : CellO prog w od := cell_dict hDo
  have c5d := ne_obj N11 hc5b hod ((celln_cell d5).ne_dict hDo)
  have dnd := ne_obj N11 hdnb hod (celln_list.ne_dict hDo)
  have i1d := ne_obj N11 hI1b hod (hit1.cellN.ne_dict hDo)
  have iid := ne_obj N11 hIb hod (hit.cellN.ne_dict hDo)
  have up12 : ∀ p ∈ n11, p.1 ≠ d → p ∈ (d, o12) :: carve d n11 := fun p hp hne => .tail _ (carve_in hp hne)
  replace e4 := (e4.carve N11 hod hkd).mono fun p hp => List.mem_cons_of_mem (d, o12) hp
  refine seq_cons (st_done V (up12 _ hc5b c5d) d5 (up12 _ hdnb dnd) (by rw [hdl.length]; omega) F12 N12 fun h13 tk13 u13 F13 N13 => ⟨rfl, ?_⟩)
  have dn5 := ne_obj N12 (up12 _ hc5b c5d) (up12 _ hdnb dnd) (cell_ne_list d5)
  have dni1 := ne_obj N12 (up12 _ hI1b i1d) (up12 _ hdnb dnd) (nodat_ne_list hit1)
  have dnii := ne_obj N12 (up12 _ hIb iid) (up12 _ hdnb dnd) (nodat_ne_list hit)
  have K13 := K12.put (oc' := listO (dvs ++ [.int c t3]) (nd + 1)) N12 (up12 _ hdnb dnd) celln_list hdnP hdnp hdn0
  have K13' : Core prog w P d pp n0 bs g i (updF f c (newR ks bs f f f c)) ((dn, listO (dvs ++ [.int c t3]) (nd + 1)) :: carve dn ((d, o12) :: carve d n11)) := K13
  have up13 : ∀ p ∈ (d, o12) :: carve d n11, p.1 ≠ dn → p ∈ (dn, listO (dvs ++ [.int c t3]) (nd + 1)) :: carve dn ((d, o12) :: carve d n11) := fun p hp hne => .tail _ (carve_in hp hne)
  replace e4 := (e4.carve N12 (up12 _ hdnb dnd) cell_list).mono fun p hp => List.mem_cons_of_mem (dn, listO (dvs ++ [.int c t3]) (nd + 1)) hp
  have hI13 := up13 _ (up12 _ hIb iid) dnii
  have hppI : I ≠ pp := fun e => by
    refine hide fun G' hG' => ?_
    obtain ⟨pvs, np, a, -⟩ := K.past
    refine hG' ?_
    clear hG' G'
    exact hoff _ a e.symm
  refine seq_nil (GPost.fin F13 (carve_news N13 hI13) carve_off ⟨
    _, v4, updF f c (newR ks bs f f f c), dl ++ [c], dvs ++ [.int c t3], nd + 1, o5, dn, cf_of ⟨rfl, rfl, rfl, rfl, rfl, trivial⟩, HG10, K13'.carve N13 hI13 hit.cellN (Nat.ne_of_gt hPI) hppI (fun p hp => hoff p (K.sub p hp)),
    carve_in (up13 _ (up12 _ hc5b c5d) dn5) (hoff _ hc5), d5, carve_in (.head _) (hoff (dn, listO dvs nd) hdn), hdl.append (.cons _ _ .nil), hdn0, hdnp, TI.step Z.hb hcb hcr.1 hcr.2, by rw [cnt_step Z.hb.nodup hcb hcr.1, hcnt], by rw [List.length_append, hdll]; rfl, .inr ⟨_, e4.carve N13 hI13 hit.cell⟩, carve_in (up13 _ (up12 _ hI1b i1d) dni1) (hoff _ hI1)⟩)
end
section
variable {prog : Program} {w : World} {mg mb : Str → Option Value} {dp un : Nat} {gd : Option (List Code)} {outer : List Env} {A₀ : Around} {base h₀ : Heap} {LL P d pp dn rd : Nat} {n0 n : Led} {lc lb lr : Addr} {vk vl : Value} {cis dl : List Int} {ks : List Key} {bs : List Int} {tp : Int} {r0 r1 : Row} {g : Nat → Int → Row} {i : Nat} {f : Int → Row} {s : Shared} {Q : Flow → Shared → Prop} {tn sn c : Int} {t1 t2 t3 : Tok} {u : Str → Option Value}
set_option maxHeartbeats 1000000 in
theorem st_t0 (V : Amb prog w mg mb P dp un outer A₀ base h₀) (Z : Fix P d pp LL n0 lc lb lr vk cis ks bs tp r0 r1) (K : Core prog w P d pp n0 bs g i f n) {o5 : Obj} {vo : Option Value} (hc5 : (LL + 5, o5) ∈ n) (d5 : o5.data = .cell vo)
    (F : Fr h₀ LL s.heap (cf [kv "keys" vk, kv "board" (.ref lb), kv "past" (.ref pp), kv "turn" (.int tn t1)] u)) (N : News h₀ LL s.heap n)
    (hQ : ∀ h1 tk1 n' u' dn o5' t9, Fr h₀ LL h1 (cf [kv "keys" vk, kv "board" (.ref lb), kv "past" (.ref pp), kv "turn" (.int tn t1), kv "last" .none] u') → News h₀ LL h1 n' → Core prog w P d pp n0 bs g i f n' → (LL + 5, o5') ∈ n' → o5'.data = .cell (some (.ref dn)) → (dn, listO [.int 99 t9] 0) ∈ n' → (∀ p ∈ n, p.1 < dn) → (∀ p ∈ n, p.1 ≠ LL + 5 → p ∈ n') → Q .next { s with heap := h1, toks := tk1 }) :
    wpAny (model prog w) (RunA dp un gd LL outer) (exec (nthS turnB 0) (RunE LL)) Q NoE s := by
  dsimp only [RunA, RunE]
  conv in (occs := *) nthS turnB 0 => all_goals whnf
  conv in (occs := *) runScope => all_goals whnf
  obtain ⟨B, X, T, C, M, hdp, hun⟩ := V
  have hc5P : LL + 5 ≠ P := fun e => by obtain ⟨ps, a, -⟩ := K.tab; exact ne_obj N hc5 a (cell_ne_tab d5) e
  have hc5p : LL + 5 ≠ pp := fun e => by obtain ⟨pvs, np, a, -⟩ := K.past; exact ne_obj N hc5 a (cell_ne_list d5) e
  have K2' := fun o' => K.put (oc' := o') N hc5 (celln_cell d5) hc5P hc5p (fun p hp => (Z.off p hp).2.2.2)
  have hP5 : P ≤ LL + 5 := K.low _ hc5
  k_steps
  rename Fr _ _ _ _ => F9; rename News _ _ _ _ => N9; rename Obj.data _ = Data.cell (some (Value.ref _)) => d9
  rename _ ∧ AllLt _ _ => l2; rename Obj => o9
  rename ∀ p ∈ n, Prod.fst p < _ => l1
  have h5 := l1 _ hc5
  have h52 := allLt_mem l2.2 _ hc5
  refine hQ _ _ _ _ _ _ _ (fr_know F9 ⟨rfl, rfl, rfl, rfl, rfl, trivial⟩) N9 ((K2' o9).mono (fun p hp => ?_) fun p hp => ?_) (.head _) d9 (.tail _ (carve_in (.tail _ (.head _)) (Nat.ne_of_gt h5))) l1 fun p hp hne => .tail _ (carve_in (.tail _ (.tail _ hp)) hne)
  · rcases List.mem_cons.mp hp with rfl | hp
    · exact .head _
    · exact .tail _ (carve_in (.tail _ (.tail _ (carve_sub p hp))) (carve_off p hp))
  · rcases List.mem_cons.mp hp with rfl | hp
    · exact hP5
    · have hp := carve_sub p hp
      rcases List.mem_cons.mp hp with rfl | hp
      · exact Nat.le_trans hP5 (Nat.le_of_lt h52)
      rcases List.mem_cons.mp hp with rfl | hp
      · exact Nat.le_trans hP5 (Nat.le_of_lt h5)
      · exact K.low p hp
set_option maxHeartbeats 1000000 in
theorem st_t1 (V : Amb prog w mg mb P dp un outer A₀ base h₀) (Z : Fix P d pp LL n0 lc lb lr vk cis ks bs tp r0 r1) (hlen : cis.length = 51) (ht0 : 1 ≤ tn) (ht6 : tn ≤ 6) {I1 : Addr} {it1 : Obj} (hit1 : NoDat it1) (hPI1 : P ≠ I1) {m : Str → Option Value}
    (J : J2 prog w P d pp LL n0 lb vk ks bs g i tn t1 I1 it1 0 m n s.gens) (F : Fr h₀ LL s.heap m) (N : News h₀ LL s.heap n)
    (hQ : ∀ h1 tk1 gn1 m' n', Fr h₀ LL h1 m' → News h₀ LL h1 n' → J2 prog w P d pp LL n0 lb vk ks bs g i tn t1 I1 it1 bs.length m' n' gn1 → Q .next { s with heap := h1, toks := tk1, gens := gn1 }) :
    wpAny (model prog w) (RunA dp un gd LL outer) (exec (nthS turnB 1) (RunE LL)) Q NoE s := by
  have J' := J
  obtain ⟨u, vl, f, dl, dvs, nd, o5, dn, rfl, HG, K, hc5, d5, hdn, hdl, hdn0, hdnp, TI, hcnt, hdll, hlast, hI1⟩ := J
  have hb6 : bs.length ≤ 6 := by rcases Z.hb with ⟨rfl, _⟩ | ⟨rfl, _⟩ | ⟨rfl, _⟩ <;> decide
  have hstep := fun (I : Addr) it hit hPI s0 (hs0 : s0 < bs.length) n1 m px (s' : Shared) t2 (hg : J2 prog w P d pp LL n0 lb vk ks bs g i tn t1 I1 it1 s0 m n1 s'.gens) hoff F N => step_turn (I := I) (it := it) (s0 := s0) (n1 := n1) (m := m) (px := px) (t2 := t2) (Q := Q) (gd := gd) (s := s') V Z hlen ht0 ht6 hs0 hit hit1 hPI hPI1 hg hoff F N
  dsimp only [RunA, RunE]
  conv in (occs := *) nthS turnB 1 => all_goals whnf
  conv in (occs := *) runScope => all_goals whnf
  obtain ⟨B, X, T, C, M, hdp, hun⟩ := V
  have hbd := Z.hb
  cases Z.board with | @mk _ nb bvs _ hlb hbs =>
  have hlb' := K.sub _ hlb
  obtain ⟨ps, hP, -⟩ := K.tab
  clear K Z
  k_steps
  refine len_M (by k_asm) hlb' hbs (Nat.le_trans hb6 (by decide)) fun t tk => ?_
  k_steps
  rename IsRange _ _ _ _ _ _ _ _ => hr
  rename Fr h₀ LL _ _ => F2; rename News h₀ LL _ _ => N2
  refine' range_gensY ?hh ?F ?N hr ?hsm ?hn (J2 prog w P d pp LL n0 lb vk ks bs g i tn t1 I1 it1) ?h0 ?step ?done
  case hh => rfl
  case F => exact F2
  case N => exact N2
  case hsm => exact (rng0 _ (by omega)).1
  case hn => exact (rng0 _ (by omega)).2
  case h0 => exact J'
  case step =>
    intro s0 t' m₁ news₁ I h₁ tk₁ gn it hI hs0 hJ hoff hit F N
    exact hstep I it hit (hI _ hP) s0 hs0 news₁ m₁ _ _ t' hJ hoff F N
  case done =>
    intro h' tk gn m' news' F N hJ
    exact hQ _ _ _ _ _ F N hJ
end
section
variable {prog : Program} {w : World} {mg mb : Str → Option Value} {dp un : Nat} {gd : Option (List Code)} {outer : List Env} {A₀ : Around} {base h₀ : Heap} {LL P d pp dn rd : Nat} {n0 n : Led} {lc lb lr : Addr} {vk vl : Value} {cis dl : List Int} {ks : List Key} {bs : List Int} {tp : Int} {r0 r1 : Row} {g : Nat → Int → Row} {i : Nat} {f : Int → Row} {s : Shared} {Q : Flow → Shared → Prop} {tn sn c : Int} {t1 t2 t3 : Tok} {u : Str → Option Value}
set_option maxHeartbeats 1000000 in
theorem st_t2 (V : Amb prog w mg mb P dp un outer A₀ base h₀) {r : Row} {av : Addr} (hv : EntryIn prog w n (.ref av) r)
    (F : Fr h₀ LL s.heap (cf [kv "keys" vk, kv "board" (.ref lb), kv "past" (.ref pp), kv "turn" (.int tn t1), kv "last" (.ref av)] u)) (N : News h₀ LL s.heap n)
    (hQ : ∀ h1 tk1 n' u', Fr h₀ LL h1 (cf [kv "keys" vk, kv "board" (.ref lb), kv "past" (.ref pp), kv "turn" (.int tn t1), kv "last" (.ref av)] u') → News h₀ LL h1 n' → Grow n n' → Q .next { s with heap := h1, toks := tk1 }) :
    wpAny (model prog w) (RunA dp un gd LL outer) (exec (nthS turnB 2) (RunE LL)) Q NoE s := by
  dsimp only [RunA, RunE]
  conv in (occs := *) nthS turnB 2 => all_goals whnf
  conv in (occs := *) runScope => all_goals whnf
  obtain ⟨B, X, T, C, M, hdp, hun⟩ := V
  k_steps
  rename Grow (_ :: _) _ => g1
  rename ∀ p ∈ n, _ => hq1
  rename _ ∧ AllLt _ n => hq2
  rename EntryIn _ _ _ _ r => e1
  rename Fr _ _ _ _ => F1; rename News _ _ _ _ => N1
  have up1 := g1.sub
  rename Led => n7
  have gg1 : Grow n n7 := by refine Grow.trans ?_ g1; exact Grow.cons hq2 (Grow.cons (allLt_of hq1) .refl)
  have hv1 := hv.mono gg1.sub
  refine entry_ne N1 e1 hv1 (by show un + 9 < _; omega) ?_
  clear g1 hq1 hq2 up1 hv
  k_steps
  rename Grow (_ :: _) _ => g2
  rename _ ∧ AllLt _ _ => hq2
  rename ∀ p ∈ _, Prod.fst p < _ => hq1
  rename EntryIn _ _ _ _ r => e2
  rename Fr _ _ _ _ => F2; rename News _ _ _ _ => N2
  rename Led => n8
  have gg2 : Grow n7 n8 := by refine Grow.trans ?_ g2; exact Grow.cons hq2 (Grow.cons (allLt_of hq1) .refl)
  refine entry_ne N2 e2 (hv1.mono gg2.sub) (by show un + 9 < _; omega) ?_
  k_steps
  exact hQ _ _ _ _ F2 N2 (gg1.trans gg2)
end
section
variable {prog : Program} {w : World} {mg mb : Str → Option Value} {dp un : Nat} {gd : Option (List Code)} {outer : List Env} {A₀ : Around} {base h₀ : Heap} {LL P d pp dn rd : Nat} {n0 n : Led} {lc lb lr : Addr} {vk vl : Value} {cis dl : List Int} {ks : List Key} {bs : List Int} {tp : Int} {r0 r1 : Row} {g : Nat → Int → Row} {i : Nat} {f : Int → Row} {s : Shared} {Q : Flow → Shared → Prop} {tn sn c : Int} {t1 t2 t3 : Tok} {u : Str → Option Value}
def PairEl (prog : Program) (w : World) (f : Int → Row) (n : Led) (c : Int) (y : Value) : Prop := ∃ q t x, y = Value.ref q ∧ (q, tupO [.int c t, x]) ∈ n ∧ RowIn n x (f c)
theorem PairEl.mono {n n' : Led} {f : Int → Row} {c : Int} {y : Value} (h : PairEl prog w f n c y) (g : ∀ p ∈ n, p ∈ n') : PairEl prog w f n' c y := by
  obtain ⟨q, t, x, a, b, e⟩ := h
  exact ⟨q, t, x, a, g _ b, e.mono g⟩
theorem TabIn.ref {n : Led} {d : Addr} {cs : List Int} {f : Int → Row} (h : TabIn prog w n (.ref d) cs f) : ∃ o, (d, o) ∈ n := by
  cases h with | mk a b c d e => exact ⟨_, a⟩
set_option maxHeartbeats 1000000 in
theorem st_t3 (V : Amb prog w mg mb P dp un outer A₀ base h₀) (Z : Fix P d pp LL n0 lc lb lr vk cis ks bs tp r0 r1) (K : Core prog w P d pp n0 bs g i f n) (hi6 : i ≤ 6)
    (F : Fr h₀ LL s.heap (cf [kv "keys" vk, kv "board" (.ref lb), kv "past" (.ref pp), kv "turn" (.int tn t1)] u)) (N : News h₀ LL s.heap n)
    (hQ : ∀ h1 tk1 n' u', Fr h₀ LL h1 (cf [kv "keys" vk, kv "board" (.ref lb), kv "past" (.ref pp), kv "turn" (.int tn t1)] u') → News h₀ LL h1 n' → Core prog w P d pp n0 bs (fun t => if t ≤ i then g t else f) (i + 1) f n' → (∀ p ∈ n, p.1 ≠ pp → p ∈ n') → Q .next { s with heap := h1, toks := tk1 }) :
    wpAny (model prog w) (RunA dp un gd LL outer) (exec (nthS turnB 3) (RunE LL)) Q NoE s := by
  dsimp only [RunA, RunE]
  conv in (occs := *) nthS turnB 3 => all_goals whnf
  conv in (occs := *) runScope => all_goals whnf
  obtain ⟨B, X, T, C, M, hdp, hun⟩ := V
  have hbd := Z.hb
  have hb6 : bs.length ≤ 6 := by rcases Z.hb with ⟨rfl, _⟩ | ⟨rfl, _⟩ | ⟨rfl, _⟩ <;> decide
  cases Z.board with | @mk _ nb bvs _ hlb hbs =>
  have hlb' := K.sub _ hlb
  obtain ⟨o4, hc4, d4⟩ := Z.c4
  replace hc4 := K.sub _ hc4
  obtain ⟨pvs, np, hpp, hpast⟩ := K.past
  have hT := K.t
  k_steps
  rename Fr _ _ _ _ => F1; rename News _ _ _ _ => N1
  refine grow_list (El := fun n j y => ∀ c, bs[j]? = some c → PairEl prog w f n c y) (fun n n' j y k h c hc => (h c hc).mono k) rfl (by decide) rfl rfl F1 N1 hlb' (by rw [sizeLine_eq, hbs.length]; exact Nat.le_trans hb6 (Nat.le_of_ble_eq_true rfl)) ?_ ?_
  · rintro j v C D oC m₂ own ys news₁ h tk Q E' hv hx hoC F2 N2 g2 hQ
    obtain ⟨c, t, rfl, hcj⟩ := hbs.at j v hv
    have hc9 : c ∈ 0 :: 99 :: bs := .tail _ (.tail _ (List.mem_of_getElem? hcj))
    obtain ⟨Mm, hM, N2⟩ : ∃ Mm, Mm = (own ++ [(C, oC), (D, LCg.lst ys)]) ++ news₁ ∧ News h₀ LL h Mm := ⟨_, rfl, N2⟩
    rw [← hM] at hQ
    have hCM : (C, oC) ∈ Mm := by rw [hM]; exact List.mem_append_left _ (List.mem_append_right _ (.head _))
    have hnM : ∀ p ∈ news₁, p ∈ Mm := by rw [hM]; exact fun p hp => List.mem_append_right _ hp
    clear hM
    have hc4' := hnM _ (g2.sub _ hc4)
    have hT' := hT.mono fun p hp => hnM _ (g2.sub p hp)
    clear hT K Z
    k_steps
    rename RowIn _ _ _ => o7; rename Grow Mm _ => g7; rename ∀ p ∈ _, Prod.fst p < _ => l1; rename Fr _ _ _ _ => F9; rename News _ _ _ _ => N9
    refine hQ _ _ _ _ F9 N9 (Grow.cons (allLt_of l1) g7) fun c' hc' => ?_
    cases hcj.symm.trans hc'
    exact ⟨_, _, _, rfl, List.mem_append_right _ (fresh_mem.mpr ⟨.head _, fun q hq => l1 q (g7.sub q hq)⟩), o7.mono fun p hp => List.mem_append_right _ (fresh_mono (fun _ h => h) (fun p hp => .tail _ hp) p hp)⟩
  · intro D C h tk m' ys news' F5 N5 off5 hlt hn hC₀ hCL off hl hel hg
    refine postE F5 N5 hn hC₀ hCL off fun h6 F6 N6 => ?_
    obtain ⟨ps, hps, hpv⟩ := build_pairs (P := fun j v c e => ∃ q t, v = Value.ref q ∧ (q, tupO [.int c t, e]) ∈ news' ∧ RowIn news' e (f c)) bs ys (hl.trans hbs.length) (fun j v c hv hc => by obtain ⟨q, t, x, a, b, e⟩ := hel j v hv c hc; exact ⟨x, q, t, a, b, e⟩)
    have hpl : ps.length = bs.length := by rw [← hps, List.length_map]
    have hnd : (ps.map (·.1)).Nodup := by rw [hps]; exact hbd.nodup
    k_steps
    refine dict_pairs rfl F6 N6 T.nolimit (.head _) (by rw [hpl]; exact hl.trans hbs.length) (fun j c e he => ?_) hnd (by rw [hpl, sizeLine_eq]; exact Nat.le_trans hb6 (Nat.le_of_ble_eq_true rfl)) fun D2 h7 tk7 o2 F7 N7 lt7 lo2 hD2 => ?_
    · obtain ⟨v, hv, q, t, rfl, hq, -⟩ := hpv j c e he
      exact ⟨q, t, hv, .tail _ hq⟩
    have gA : Grow n ((D2, o2) :: (D, LCg.lst ys) :: news') := grow_top (grow_top hg hlt) fun p hp => lt7 p (.tail _ (hg.sub p hp))
    have hppA := gA.sub _ hpp
    have hpz : pvs.length ≤ sizeLine := by rw [hpast.len, sizeLine_eq]; exact Nat.le_trans (Nat.succ_le_succ hi6) (Nat.le_of_ble_eq_true rfl)
    have KA := K.grow gA
    obtain ⟨od, hod⟩ := hT.ref
    have hdD : d < D2 := lt7 _ (.tail _ (hg.sub _ hod))
    have hppD : pp < D2 := lt7 _ (.tail _ (hg.sub _ hpp))
    have tA := KA.t.carve N7 hppA celln_list
    have pA := (hpast.mono gA.sub).carve N7 hppA celln_list
    have rA : ∀ c ∈ bs, ∃ x, valueAt ps c = some x ∧ RowIn (carve pp ((D2, o2) :: (D, LCg.lst ys) :: news')) x (f c) := fun c hc => by
      obtain ⟨j, hj, e⟩ := List.mem_iff_getElem.mp hc
      have hjp : j < ps.length := by rw [hpl]; exact hj
      have e1 : ps[j]? = some (c, ps[j].2) := by
        rw [List.getElem?_eq_getElem hjp]
        have : (ps.map (·.1))[j]? = some c := by rw [hps, List.getElem?_eq_getElem hj, e]
        rw [List.getElem?_map, List.getElem?_eq_getElem hjp] at this
        have := Option.some.inj this
        exact congrArg some (Prod.ext this rfl)
      obtain ⟨v, hv, q, t, rfl, hq, hr⟩ := hpv j c _ e1
      exact ⟨_, valueAt_mem hnd e1, (hr.mono fun p hp => .tail _ (.tail _ hp)).carve (prog := prog) (w := w) N7 hppA cell_list⟩
    have subA : ∀ p ∈ n0, p ∈ carve pp ((D2, o2) :: (D, LCg.lst ys) :: news') := fun p hp => carve_in (KA.sub p hp) (Z.off p hp).2.2.1
    have tabA : ∃ ps, (P, tabObj ps) ∈ carve pp ((D2, o2) :: (D, LCg.lst ys) :: news') ∧ TriplesOk ps.toList := by
      obtain ⟨ps, a, b⟩ := KA.tab
      exact ⟨ps, carve_in a (pp_ne_P N7 KA), b⟩
    have lowA := KA.low
    clear KA hpv hel hps Z hT N1 F1 N5 F5 N6 F6
    k_steps
    rename Fr _ _ _ _ => F9; rename News _ _ _ _ => N9
    refine hQ _ _ _ _ F9 N9 ⟨let ⟨ps, a, b⟩ := tabA; ⟨ps, .tail _ a, b⟩, fun p hp => ?_, fun p hp => .tail _ (subA p hp), tA.mono fun p hp => .tail _ hp, pvs ++ [.ref D2], np + 1, .head _, by rw [List.length_append, hpast.len]; rfl, fun j v hv => ?_⟩ fun p hp hne => .tail _ (carve_in (gA.sub p hp) hne)
    · rcases List.mem_cons.mp hp with rfl | hp
      · exact K.low (pp, listO pvs np) hpp
      · exact lowA p (carve_sub p hp)
    · rw [List.getElem?_append] at hv
      split at hv
      · rename_i hj
        have hj' : j ≤ i := by rw [hpast.len] at hj; omega
        rw [if_pos hj']
        exact ⟨(pA.at' j v hv).1.mono fun p hp => .tail _ hp, (pA.at' j v hv).2⟩
      · rename_i hj
        have hj' : j - pvs.length = 0 := by
          rcases Nat.eq_zero_or_pos (j - pvs.length) with e | e
          · exact e
          · rw [List.getElem?_eq_none (by simp; omega)] at hv; cases hv
        rw [hj'] at hv
        cases hv
        rw [if_neg (by rw [hpast.len] at hj; omega)]
        exact ⟨⟨D2, o2, ps, rfl, .tail _ (carve_in (.head _) (Nat.ne_of_gt hppD)), lo2, hD2, fun c hc => let ⟨x, a, b⟩ := rA c hc; ⟨x, a, b.mono fun p hp => .tail _ hp⟩⟩, fun e => by cases e; exact Nat.lt_irrefl _ hdD⟩
end
section
variable {prog : Program} {w : World} {mg mb : Str → Option Value} {dp un : Nat} {gd : Option (List Code)} {outer : List Env} {A₀ : Around} {base h₀ : Heap} {LL P d pp dn rd : Nat} {n0 n : Led} {lc lb lr : Addr} {vk vl : Value} {cis dl : List Int} {ks : List Key} {bs : List Int} {tp : Int} {r0 r1 : Row} {g : Nat → Int → Row} {i : Nat} {f : Int → Row} {s : Shared} {Q : Flow → Shared → Prop} {tn sn c : Int} {t1 t2 t3 : Tok} {u : Str → Option Value}
theorem Board.last {bs : List Int} {tp : Int} (hb : Board bs tp) : bs[bs.length - 1]? = some tp ∧ 0 < bs.length ∧ bs.length ≤ 6 := by
  rcases hb with ⟨rfl, rfl⟩ | ⟨rfl, rfl⟩ | ⟨rfl, rfl⟩ <;> exact ⟨rfl, by decide, by decide⟩
theorem last_item {A : Around} {E : Value → Shared → Prop} {L l : Addr} {led : Led} {vs : List Value} {k : Nat} {value slice : Expr} {t : Tok} {Q : Value → Shared → Prop} (hb : Board bs tp) (N : News h₀ L s.heap led) (hm : (l, listO vs k) ∈ led) (hi : IntsAre vs bs)
    (h : ∀ t, Q (.int tp t) s) (hs : subscripted slice false (.ref l) (.int (-1) t) = operate [.ref l, .int (-1) t] (getItem (.ref l) (.int (-1) t)) := by with_unfolding_all rfl) : wpAny (model prog w) A (subscriptTail value slice (.ref l) (.int (-1) t)) Q E s := by
  obtain ⟨h1, h2, h3⟩ := hb.last
  obtain ⟨t', e⟩ := hi.get _ _ h1
  exact kde_neg (N.isList hm) (by decide) (by decide) (seqIndex?_neg_one (by rw [hi.length]; exact h2)) (by rw [hi.length]; exact e) (h t') hs
theorem rtab_item {A : Around} {E : Value → Shared → Prop} {L : Addr} {led n : Led} {v : Value} {value slice : Expr} {x : Int} {t : Tok} {Q : Value → Shared → Prop} (N : News h₀ L s.heap led) (R : RTab prog w n v bs f) (hx : x ∈ bs) (g : ∀ p ∈ n, p ∈ led)
    (h : ∀ y, RowIn n y (f x) → Q y { s with toks := s.toks + 1 })
    (hs : ∀ d, subscripted slice false (.ref d) (.int x t) = operate [.ref d, .int x t] (getItem (.ref d) (.int x t)) := by intro _; with_unfolding_all rfl) :
    wpAny (model prog w) A (subscriptTail value slice v (.int x t)) Q E s := by
  obtain ⟨e, o, kvs, rfl, he, lo, hd, hr⟩ := R
  obtain ⟨y, hy, hyr⟩ := hr x hx
  exact kdt_tail (knd := PySem.intKind _ _) N (g _ he) hd (kdt_getItem (knd := PySem.intKind _ _) N (g _ he) hd (intKind_is _ _ _ _) hy (h y hyr)) (hs e)
theorem rk_py (c : Int) : c.fdiv 10 + c.fmod 10 - 1 = rk c := by
  unfold rk
  rw [Int.fdiv_eq_ediv_of_nonneg _ (by decide), Int.fmod_eq_emod_of_nonneg _ (by decide)]
theorem Board.rk {bs : List Int} {tp : Int} (hb : Board bs tp) : ∀ c ∈ bs, 1 ≤ rk c ∧ rk c ≤ 4 ∧ tp + 11 - c ∈ bs := by
  rcases hb with ⟨rfl, rfl⟩ | ⟨rfl, rfl⟩ | ⟨rfl, rfl⟩ <;> decide
theorem home_list (a b z : Row) : homeL a.list b.list z.list = (homeR a b z).list := by
  simp [homeL, homeR, Row.add, Row.neg, Row.list, Int.sub_eq_add_neg]
theorem recip_at (hb : Board bs tp) (hk : KeysOk ks) (h : Chain bs ks g i) (hi6 : i ≤ 6) {c : Int} (hc : c ∈ bs) (hle : rk c ≤ (i : Int)) : g i c = homeR (g 0 0) (g 0 99) (g ((i : Int) - rk c).toNat (tp + 11 - c)) := by
  obtain ⟨h1, h4, -⟩ := hb.rk c hc
  have e : i = (rk c).toNat + ((i : Int) - rk c).toNat := by omega
  have h' : Chain bs ks g ((rk c).toNat + ((i : Int) - rk c).toNat) := by rw [← e]; exact h
  have z := recip hb hk h' (by omega) hc (by omega)
  rw [← e] at z
  exact z
set_option maxHeartbeats 1000000 in
theorem st_rank (V : Amb prog w mg mb P dp un outer A₀ base h₀)
    (F : Fr h₀ LL s.heap (cf [kv "keys" vk, kv "board" (.ref lb), kv "past" (.ref pp), kv "turn" (.int tn t1), kv "code" (.int c t3)] u)) (N : News h₀ LL s.heap n)
    (hQ : ∀ h1 tk1 u' t4, Fr h₀ LL h1 (cf [kv "keys" vk, kv "board" (.ref lb), kv "past" (.ref pp), kv "turn" (.int tn t1), kv "code" (.int c t3), kv "rank" (.int (rk c) t4)] u') → News h₀ LL h1 n → Q .next { s with heap := h1, toks := tk1 }) :
    wpAny (model prog w) (RunA dp un gd LL outer) (exec (nthS checkB 0) (RunE LL)) Q NoE s := by
  dsimp only [RunA, RunE]
  conv in (occs := *) nthS checkB 0 => all_goals whnf
  conv in (occs := *) runScope => all_goals whnf
  obtain ⟨B, X, T, C, M, hdp, hun⟩ := V
  iterate 15 (first | (walk1; (try dsimp only)) | skip)
  rename Fr _ _ _ _ => F9; rename News _ _ _ _ => N9
  rw [rk_py] at F9
  exact hQ _ _ _ _ (fr_know F9 ⟨rfl, rfl, rfl, rfl, rfl, rfl, trivial⟩) N9
set_option maxHeartbeats 1000000 in
theorem st_check (V : Amb prog w mg mb P dp un outer A₀ base h₀) (Z : Fix P d pp LL n0 lc lb lr vk cis ks bs tp r0 r1) (K : Core prog w P d pp n0 bs g i f n) (hi6 : i ≤ 6) (hg0 : g 0 0 = r0) (hg1 : g 0 99 = r1) (hgi : f = g i) (hch : Chain bs ks g i) (htn : tn = i) (hcb : c ∈ bs)
    (F : Fr h₀ LL s.heap (cf [kv "keys" vk, kv "board" (.ref lb), kv "past" (.ref pp), kv "turn" (.int tn t1), kv "code" (.int c t3), kv "rank" (.int (rk c) t2)] u)) (N : News h₀ LL s.heap n)
    (hQ : ∀ h1 tk1 n' u', Fr h₀ LL h1 (cf [kv "keys" vk, kv "board" (.ref lb), kv "past" (.ref pp), kv "turn" (.int tn t1), kv "code" (.int c t3), kv "rank" (.int (rk c) t2)] u') → News h₀ LL h1 n' → Grow n n' → Q .next { s with heap := h1, toks := tk1 }) :
    wpAny (model prog w) (RunA dp un gd LL outer) (exec (nthS checkB 1) (RunE LL)) Q NoE s := by
  dsimp only [RunA, RunE]
  conv in (occs := *) nthS checkB 1 => all_goals whnf
  conv in (occs := *) runScope => all_goals whnf
  obtain ⟨B, X, T, C, M, hdp, hun⟩ := V
  have hbd := Z.hb
  cases Z.board with | @mk _ nb bvs _ hlb hbs =>
  have hlb' := K.sub _ hlb
  obtain ⟨o4, hc4, d4⟩ := Z.c4
  replace hc4 := K.sub _ hc4
  obtain ⟨o3, hc3, d3⟩ := Z.c3
  replace hc3 := K.sub _ hc3
  obtain ⟨pvs, np, hpp, hpast⟩ := K.past
  obtain ⟨w0, w1, wr, nr, hrows, hw0, hw1⟩ := Z.rows
  replace hrows := K.sub _ hrows
  replace hw0 := hw0.mono K.sub
  replace hw1 := hw1.mono K.sub
  have hT := K.t
  have hkk := Z.hk
  clear K Z
  iterate 16 (first | (walk1; (try dsimp only)) | skip)
  · rename rk c ≤ tn => hle
    obtain ⟨hr1, hr4, hdb⟩ := hbd.rk c hcb
    have hj : (tn - rk c).toNat < pvs.length := by rw [hpast.len]; omega
    refine item_lstM N hpp (by omega) (by omega) (List.getElem?_eq_getElem hj) ?_
    have hrt := (hpast.at' _ _ (List.getElem?_eq_getElem hj)).1
    generalize pvs[(tn - rk c).toNat] = v2 at hrt ⊢
    iterate 4 (walk1; (try dsimp only))
    iterate 3 (walk1; (try dsimp only))
    refine last_item hbd N hlb' hbs fun t9 => ?_
    try dsimp only
    iterate 5 (first | (walk1; (try dsimp only)) | skip)
    refine rtab_item N hrt hdb (fun p hp => hp) fun y hy => ?_
    try dsimp only
    have hcT : c ∈ 0 :: 99 :: bs := .tail _ (.tail _ hcb)
    cases hw0 with | @mk l0 k0 b0 b1 b2 b3 b4 b5 _ m0 =>
    cases hw1 with | @mk l1 k1 c0 c1 c2 c3 c4 c5 _ m1 =>
    generalize hz : g (tn - rk c).toNat (tp + 11 - c) = z at hy
    cases hy with | @mk l2 a0 a1 a2 a3 a4 a5 _ m2 =>
    clear hrt hpast hlb hlb' hbs
    k_steps
    rename Fr _ _ _ _ => F5; rename News _ _ _ _ => N5; rename ZipAt _ _ _ _ _ => Z5; rename ∀ p ∈ n, Prod.fst p < _ => lt5; rename EntryIn _ _ _ _ (f c) => hv8
    rename LL < _ => l5
    have hfc : f c = homeR r0 r1 z := by
      rw [hgi, ← hz, ← hg0, ← hg1, htn]
      exact recip_at hbd hkk hch hi6 hcb (by rw [← htn]; exact hle)
    have s6 : ∀ {r : Row} {t0 t1 t2 t3 t4 t5 : Tok}, IntsAre [Value.int r.a t0, .int r.b t1, .int r.c t2, .int r.d t3, .int r.e t4, .int r.f t5] r.list := fun {r} => .cons _ _ (.cons _ _ (.cons _ _ (.cons _ _ (.cons _ _ (.cons _ _ .nil)))))
    refine comp_home (is := r0.list) (js := r1.list) (ks := z.list) rfl (by decide) rfl rfl rfl rfl (by decide) (by decide) (by decide) (by decide) (by decide) (by decide) s6 s6 s6 rfl rfl (lt5 _ m0) (lt5 _ m1) (lt5 _ m2) Z5 (Nat.le_trans F5.above (Nat.le_of_lt l5)) l5 (N5 _ m0).2.1 (N5 _ m1).2.1 (N5 _ m2).2.1 lt5 F5 N5 (Nat.le_of_ble_eq_true rfl) ?_
    intro D C h tk m' ys F6 N6 hlt hn hC₀ hCL off hys
    refine postE F6 N6 hn hC₀ hCL off fun h7 F7 N7 => ?_
    rw [home_list] at hys
    have hrl : RowL ((D, LCg.lst ys) :: n) (.ref D) (homeR r0 r1 z) := rowL_of (.head _) hys
    have hg7 : Grow n ((D, LCg.lst ys) :: n) := Grow.cons (allLt_of hlt) .refl
    clear Z5 N6 F6 N5 F5 lt5
    k_steps
    rename Fr _ _ _ _ => F8; rename News _ _ _ _ => N8; rename EntryIn _ _ _ _ (homeR r0 r1 z) => he9
    rename Grow (_ :: n) _ => g8
    have gg := hg7.trans g8
    rw [hfc] at hv8
    refine entry_ne N8 (hv8.mono gg.sub) (he9.mono fresh_sub) (by show un + 9 < _; omega) ?_
    k_steps
    exact hQ _ _ _ _ (fr_know F8 ⟨rfl, rfl, rfl, rfl, rfl, rfl, trivial⟩) N8 gg
  · k_steps
    rename Fr _ _ _ _ => F8; rename News _ _ _ _ => N8
    exact hQ _ _ _ _ F8 N8 .refl
end
section
variable {prog : Program} {w : World} {mg mb : Str → Option Value} {dp un : Nat} {gd : Option (List Code)} {outer : List Env} {A₀ : Around} {base h₀ : Heap} {LL P d pp dn rd : Nat} {n0 n : Led} {lc lb lr : Addr} {vk vl : Value} {cis dl : List Int} {ks : List Key} {bs : List Int} {tp : Int} {r0 r1 : Row} {g : Nat → Int → Row} {i : Nat} {f : Int → Row} {s : Shared} {Q : Flow → Shared → Prop} {tn sn c : Int} {t1 t2 t3 : Tok} {u : Str → Option Value}
theorem checkB_eq : checkB = [nthS checkB 0, nthS checkB 1] := rfl
theorem check_turn (V : Amb prog w mg mb P dp un outer A₀ base h₀) (Z : Fix P d pp LL n0 lc lb lr vk cis ks bs tp r0 r1) (K : Core prog w P d pp n0 bs g i f n) (hi6 : i ≤ 6) (hg0 : g 0 0 = r0) (hg1 : g 0 99 = r1) (hgi : f = g i) (hch : Chain bs ks g i) (htn : tn = i) (hcb : c ∈ bs) {I : Addr} {it : Obj} {n1 : Led} {px : Pos} {bvs nb} {j : Nat} (hlb : (lb, listO bvs nb) ∈ n)
    (hg : Grow n n1) (hI : ∀ p ∈ n, p.1 < I) {m : Str → Option Value} (hm : ∃ u, m = cf [kv "keys" vk, kv "board" (.ref lb), kv "past" (.ref pp), kv "turn" (.int tn t1)] u)
    (F : Fr h₀ LL s.heap m) (N : News h₀ LL s.heap ((I, it) :: n1)) :
    wpAny (model prog w) (RunA dp un gd LL outer) (assign (.Name (Str.ofString "code") px) (RunE LL) (.int c t3)) (fun _ s₂ => wpAny (model prog w) (RunA dp un gd LL outer) (execs checkB (RunE LL)) (TPost h₀ LL s [(I, it)] (fun m' n' => (lb, listO bvs nb) ∈ n' ∧ (fun (_ : Nat) m n' => ∃ u, m = cf [kv "keys" vk, kv "board" (.ref lb), kv "past" (.ref pp), kv "turn" (.int tn t1)] u ∧ Grow n n') (j + 1) m' n') Q) NoE s₂) NoE s := by
  obtain ⟨u1, rfl⟩ := hm
  have K1 : Core prog w P d pp n0 bs g i f ((I, it) :: n1) := (K.grow hg).mono (fun p hp => .tail _ hp) fun p hp => by
    rcases List.mem_cons.mp hp with rfl | hp
    · obtain ⟨ps, a, -⟩ := K.tab
      exact Nat.le_of_lt (hI _ a)
    · exact (K.grow hg).low p hp
  refine asg_run F N rfl fun h1 F1 N1 => ?_
  rw [checkB_eq]
  refine seq_cons (st_rank V (fr_know F1 ⟨rfl, rfl, rfl, rfl, rfl, trivial⟩) N1 fun h2 tk2 u2 t4 F2 N2 => ⟨rfl, ?_⟩)
  refine seq_cons (st_check V Z K1 hi6 hg0 hg1 hgi hch htn hcb F2 N2 fun h3 tk3 n3 u3 F3 N3 g3 => ⟨rfl, ?_⟩)
  have gc := grow_carve hg g3 hI
  refine seq_nil ⟨h3, tk3, _, carve I n3, rfl, F3, carve_news N3 (g3.sub _ (.head _)), fun p hp q hq => by rw [List.mem_singleton.mp hq]; exact carve_off p hp, gc.sub _ hlb, _, cf_of ⟨rfl, rfl, rfl, rfl, trivial⟩, gc⟩
set_option maxHeartbeats 1000000 in
theorem st_t4 (V : Amb prog w mg mb P dp un outer A₀ base h₀) (Z : Fix P d pp LL n0 lc lb lr vk cis ks bs tp r0 r1) (K : Core prog w P d pp n0 bs g i f n) (hi6 : i ≤ 6) (hg0 : g 0 0 = r0) (hg1 : g 0 99 = r1) (hgi : f = g i) (hch : Chain bs ks g i) (htn : tn = i)
    (F : Fr h₀ LL s.heap (cf [kv "keys" vk, kv "board" (.ref lb), kv "past" (.ref pp), kv "turn" (.int tn t1)] u)) (N : News h₀ LL s.heap n)
    (hQ : ∀ h1 tk1 n' u', Fr h₀ LL h1 (cf [kv "keys" vk, kv "board" (.ref lb), kv "past" (.ref pp), kv "turn" (.int tn t1)] u') → News h₀ LL h1 n' → Grow n n' → Q .next { s with heap := h1, toks := tk1 }) :
    wpAny (model prog w) (RunA dp un gd LL outer) (exec (nthS turnB 4) (RunE LL)) Q NoE s := by
  have hbd := Z.board
  cases hbd with | @mk _ nb bvs _ hlb hbs =>
  have hlb' := K.sub _ hlb
  have hstep := fun c hcb I it n1 px j hg hI m hm (s' : Shared) t3 F N => check_turn (c := c) (Q := Q) (gd := gd) (s := s') (t3 := t3) (I := I) (it := it) (n1 := n1) (px := px) (j := j) (m := m) (t1 := t1) V Z K hi6 hg0 hg1 hgi hch htn hcb hlb' hg hI hm F N
  dsimp only [RunA, RunE]
  conv in (occs := *) nthS turnB 4 => all_goals whnf
  conv in (occs := *) runScope => all_goals whnf
  obtain ⟨B, X, T, C, M, hdp, hun⟩ := V
  clear K Z
  k_steps
  rename Fr _ _ _ _ => F1; rename News _ _ _ _ => N1
  refine' list_loopY (fun _ m n' => ∃ u, m = cf [kv "keys" vk, kv "board" (.ref lb), kv "past" (.ref pp), kv "turn" (.int tn t1)] u ∧ Grow n n') ?hh ?F ?N hlb' ?h0 ?step ?done
  case hh => rfl
  case F => exact F1
  case N => exact N1
  case h0 => exact ⟨u, rfl, .refl⟩
  case step =>
    rintro I j v m1 n1 h1 tk1 it hit hI hv ⟨u1, e1, hg⟩ hlb1 hoff F2 N2
    obtain ⟨c, t, rfl, hcj⟩ := hbs.at j v hv
    exact hstep c (List.mem_of_getElem? hcj) I it n1 _ j hg hI m1 ⟨u1, e1⟩ _ t F2 N2
  case done =>
    rintro m1 n1 h1 tk1 ⟨u1, rfl, hg⟩ F2 N2
    exact hQ _ _ _ _ F2 N2 hg
end
section
variable {prog : Program} {w : World} {mg mb : Str → Option Value} {dp un : Nat} {gd : Option (List Code)} {outer : List Env} {A₀ : Around} {base h₀ : Heap} {LL P d pp : Nat} {n0 n : Led} {lc lb lr : Addr} {vk : Value} {cis : List Int} {ks : List Key} {bs : List Int} {tp : Int} {r0 r1 : Row} {s : Shared} {Q : Flow → Shared → Prop} {t1 : Tok}
@[irreducible] noncomputable def runS (k : Nat) : Stmt := nthS runB k
theorem runS_eq (k : Nat) : runS k = nthS runB k := by unfold runS; rfl
theorem turnB_eq : turnB = [nthS turnB 0, nthS turnB 1, nthS turnB 2, nthS turnB 3, nthS turnB 4] := rfl
/-- between the turns -/
inductive J1 (prog : Program) (w : World) (P d pp LL : Nat) (n0 : Led) (lb : Addr) (vk : Value) (ks : List Key) (bs : List Int) (r0 r1 : Row) (i : Nat) (m : Str → Option Value) (n : Led) (gn : Array GenState) : Prop
  | mk (u : Str → Option Value) (g : Nat → Int → Row) (f : Int → Row) (o5 : Obj) (vo : Option Value) : m = cf [kv "keys" vk, kv "board" (.ref lb), kv "past" (.ref pp)] u → AllBare gn → Core prog w P d pp n0 bs g i f n → (LL + 5, o5) ∈ n → o5.data = .cell vo → Chain bs ks g i → g 0 0 = r0 → g 0 99 = r1 → f = g i → J1 prog w P d pp LL n0 lb vk ks bs r0 r1 i m n gn
set_option maxHeartbeats 2000000 in
theorem turn_turn (V : Amb prog w mg mb P dp un outer A₀ base h₀) (Z : Fix P d pp LL n0 lc lb lr vk cis ks bs tp r0 r1) (hlen : cis.length = 51) {i : Nat} (hi5 : i ≤ 5) {I : Addr} {it : Obj} (hit : NoDat it) (hPI : P < I) {n1 : Led} {m : Str → Option Value} {px : Pos}
    (J : J1 prog w P d pp LL n0 lb vk ks bs r0 r1 i m n1 s.gens) (hoff : ∀ p ∈ n1, p.1 ≠ I) (F : Fr h₀ LL s.heap m) (N : News h₀ LL s.heap ((I, it) :: n1)) :
    wpAny (model prog w) (RunA dp un gd LL outer) (assign (.Name (Str.ofString "turn") px) (RunE LL) (.int (1 + (i : Int)) t1)) (fun _ s₃ => wpAny (model prog w) (RunA dp un gd LL outer) (execs turnB (RunE LL)) (GPost h₀ LL s I it (J1 prog w P d pp LL n0 lb vk ks bs r0 r1 (i + 1)) Q) NoE s₃) NoE s := by
  refine hide fun G' hG' => ?_
  obtain ⟨u, g, f, o5, vo, rfl, HG, K, hc5, d5, hch, hg0, hg1, hgi⟩ := J
  refine hG' ?_
  clear hG' G'
  have K1 : Core prog w P d pp n0 bs g i f ((I, it) :: n1) := K.mono (fun p hp => .tail _ hp) fun p hp => by
    rcases List.mem_cons.mp hp with rfl | hp
    · exact Nat.le_of_lt hPI
    · exact K.low p hp
  have hppn : ∃ vs k, (pp, listO vs k) ∈ n1 := let ⟨pvs, np, a, _⟩ := K.past; ⟨pvs, np, a⟩
  refine hide fun G' hG' => ?_
  obtain ⟨ppv, ppk, hppn⟩ := hppn
  refine hG' ?_
  clear hG' G'
  have hppI : I ≠ pp := fun e => hoff _ hppn e.symm
  have h5I : LL + 5 ≠ I := hoff _ hc5
  refine asg_run F N rfl fun h1 F1 N1 => ?_
  rw [turnB_eq]
  refine seq_cons (st_t0 (tn := 1 + (i : Int)) (t1 := t1) V Z K1 (.tail _ hc5) d5 (fr_know F1 ⟨rfl, rfl, rfl, rfl, trivial⟩) N1 fun h2 tk2 n2 u2 dn o5' t9 F2 N2 K2 hc52 d52 hdn2 hdlow hsub2 => ⟨rfl, ?_⟩)
  have hI2 := hsub2 _ (.head _) h5I.symm
  refine seq_cons (st_t1 (Q := fun f s' => f = .next ∧ wpAny (model prog w) (RunA dp un gd LL outer) (execs [nthS turnB 2, nthS turnB 3, nthS turnB 4] (RunE LL)) (GPost h₀ LL s I it (J1 prog w P d pp LL n0 lb vk ks bs r0 r1 (i + 1)) Q) NoE s') V Z hlen (by omega) (by omega) hit (Nat.ne_of_lt hPI) (n := n2) (g := g) (i := i) (tn := 1 + (i : Int)) (t1 := t1) (m := cf [kv "keys" vk, kv "board" (.ref lb), kv "past" (.ref pp), kv "turn" (.int (1 + (i : Int)) t1), kv "last" .none] u2) ⟨u2, .none, f, [99], [.int 99 t9], 0, o5', dn, rfl, HG, K2, hc52, d52, hdn2, .cons _ _ .nil, fun p hp => Nat.ne_of_lt (hdlow p (K1.sub p hp)), Nat.ne_of_gt (hdlow _ (.tail _ hppn)), by rw [hgi]; exact TurnInv.start Z.hb (g i), cnt_start Z.hb, rfl, .inl rfl, hI2⟩ F2 N2 fun h3 tk3 gn3 m3 n3 F3 N3 J3 => ⟨rfl, ?_⟩)
  refine hide fun G' hG' => ?_
  obtain ⟨u3, vl, f', dl, dvs, nd, o53, dn3, rfl, HG3, K3, hc53, d53, hdn3, hdl3, -, -, TI, hcnt, -, hlast, hI3⟩ := J3
  refine hG' ?_
  clear hG' G'
  have hall := cnt_full hcnt
  have hturn := TI.fin hall
  have hpos := Z.hb.last.2.1
  have hlast' : ∃ r av, vl = .ref av ∧ EntryIn prog w n3 (.ref av) r := by
    rcases hlast with e | ⟨r, e⟩
    · omega
    · cases e with | @mk p => exact ⟨r, p, rfl, by constructor <;> assumption⟩
  refine hide fun G' hG' => ?_
  obtain ⟨r, av, rfl, elast⟩ := hlast'
  refine hG' ?_
  clear hG' G'
  refine seq_cons (st_t2 V elast F3 N3 fun h4 tk4 n4 u4 F4 N4 g4 => ⟨rfl, ?_⟩)
  have K4 := K3.grow g4
  refine seq_cons (st_t3 V Z K4 (by omega) (fr_know F4 ⟨rfl, rfl, rfl, rfl, trivial⟩) N4 fun h5 tk5 n5 u5 F5 N5 K5 hsub5 => ⟨rfl, ?_⟩)
  have hpp4 : ∃ vs k, (pp, listO vs k) ∈ n4 := let ⟨pvs, np, a, _⟩ := K4.past; ⟨pvs, np, a⟩
  refine hide fun G' hG' => ?_
  obtain ⟨ppv4, ppk4, hpp4⟩ := hpp4
  refine hG' ?_
  clear hG' G'
  have hI5 := hsub5 _ (g4.sub _ hI3) hppI
  have hc55 := hsub5 _ (g4.sub _ hc53) (ne_obj N4 (g4.sub _ hc53) hpp4 (cell_ne_list d53))
  have hg' : f' = (fun t => if t ≤ i then g t else f') (i + 1) := (if_neg (by omega)).symm
  have hch' : Chain bs ks (fun t => if t ≤ i then g t else f') (i + 1) := ⟨fun t ht => by
    by_cases e : t < i
    · show TurnR bs ks (if t ≤ i then g t else f') (if t + 1 ≤ i then g (t + 1) else f')
      rw [if_pos (by omega), if_pos (by omega)]
      exact hch.turn t e
    · have e : t = i := by omega
      subst e
      show TurnR bs ks (if t ≤ t then g t else f') (if t + 1 ≤ t then g (t + 1) else f')
      rw [if_pos (Nat.le_refl _), if_neg (by omega)]
      exact hturn⟩
  have hz0 : (if 0 ≤ i then g 0 else f') = g 0 := if_pos (Nat.zero_le _)
  refine seq_cons (st_t4 V Z K5 (by omega) (by rw [hz0]; exact hg0) (by rw [hz0]; exact hg1) hg' hch' (by push_cast; omega) F5 N5 fun h6 tk6 n6 u6 F6 N6 g6 => ⟨rfl, ?_⟩)
  have K6 := K5.grow g6
  have hI6 := g6.sub _ hI5
  refine seq_nil (GPost.fin F6 (carve_news N6 hI6) carve_off ⟨_, _, f', o53, _, cf_of ⟨rfl, rfl, rfl, trivial⟩, HG3, K6.carve N6 hI6 hit.cellN (Nat.ne_of_gt hPI) hppI (fun p hp => hoff p (K.sub p hp)), carve_in (g6.sub _ hc55) h5I, d53, hch', by show (if 0 ≤ i then g 0 else f') 0 = r0; rw [hz0]; exact hg0, by show (if 0 ≤ i then g 0 else f') 99 = r1; rw [hz0]; exact hg1, hg'⟩)
end
section
variable {prog : Program} {w : World} {mg mb : Str → Option Value} {dp un : Nat} {gd : Option (List Code)} {outer : List Env} {A₀ : Around} {base h₀ : Heap} {LL P d pp dn rd : Nat} {n0 n : Led} {lc lb lr : Addr} {vk vl : Value} {cis dl : List Int} {ks : List Key} {bs : List Int} {tp : Int} {r0 r1 : Row} {g : Nat → Int → Row} {i : Nat} {f : Int → Row} {s : Shared} {Q : Flow → Shared → Prop} {tn sn c : Int} {t1 t2 t3 : Tok} {u : Str → Option Value}
theorem menu3 {n : Led} {l0 l1 l2 : Addr} {t0 t1 t2 t3 t4 t5 t6 t7 t8 t9 t10 t11 t12 t13 t14 t15 : Tok} {k0 k1 k2 : Nat} {x : Int} (h0 : 0 ≤ x) (h3 : x < 3)
    (m0 : (l0, listO [.int 11 t0, .int 12 t1, .int 21 t2, .int 22 t3] k0) ∈ n)
    (m1 : (l1, listO [.int 11 t4, .int 12 t5, .int 13 t6, .int 21 t7, .int 22 t8, .int 23 t9] k1) ∈ n)
    (m2 : (l2, listO [.int 11 t10, .int 12 t11, .int 21 t12, .int 22 t13, .int 31 t14, .int 32 t15] k2) ∈ n) : ∃ lb bs tp, [Value.ref l0, .ref l1, .ref l2][x.toNat]? = some (.ref lb) ∧ Board bs tp ∧ IntL n (.ref lb) bs := by
  have : x = 0 ∨ x = 1 ∨ x = 2 := by omega
  rcases this with rfl | rfl | rfl
  · exact ⟨l0, bd0, 22, rfl, .inl ⟨rfl, rfl⟩, .mk m0 (.cons _ _ (.cons _ _ (.cons _ _ (.cons _ _ .nil))))⟩
  · exact ⟨l1, bd1, 23, rfl, .inr (.inl ⟨rfl, rfl⟩), .mk m1 (.cons _ _ (.cons _ _ (.cons _ _ (.cons _ _ (.cons _ _ (.cons _ _ .nil))))))⟩
  · exact ⟨l2, bd2, 32, rfl, .inr (.inr ⟨rfl, rfl⟩), .mk m2 (.cons _ _ (.cons _ _ (.cons _ _ (.cons _ _ (.cons _ _ (.cons _ _ .nil))))))⟩
set_option maxHeartbeats 1000000 in
theorem st_p0 (V : Amb prog w mg mb P dp un outer A₀ base h₀) {o1 : Obj} {cvs : List Value} {nc : Nat} (hc1 : (LL + 1, o1) ∈ n) (d1 : o1.data = .cell (some (.ref lc))) (hcl : (lc, listO cvs nc) ∈ n) (hci : IntsAre cvs cis) (hlen : cis.length = 51)
    (F : Fr h₀ LL s.heap (cf [kv "keys" vk] u)) (N : News h₀ LL s.heap n)
    (hQ : ∀ h1 tk1 n' u' lb bs tp, Fr h₀ LL h1 (cf [kv "keys" vk, kv "board" (.ref lb)] u') → News h₀ LL h1 n' → Grow n n' → Board bs tp → IntL n' (.ref lb) bs → Q .next { s with heap := h1, toks := tk1 }) :
    wpAny (model prog w) (RunA dp un gd LL outer) (exec (runS 0) (RunE LL)) Q NoE s := by
  rw [runS_eq]
  dsimp only [RunA, RunE]
  conv in (occs := *) nthS runB 0 => all_goals whnf
  conv in (occs := *) runScope => all_goals whnf
  obtain ⟨B, X, T, C, M, hdp, hun⟩ := V
  k_steps
  try dsimp only
  rename Fr _ _ _ _ => F1; rename News _ _ _ _ => N1
  rename _ ∧ _ ∧ _ ∧ AllLt _ n => q4
  rename _ ∧ _ ∧ AllLt _ n => q3
  rename _ ∧ AllLt _ n => q2
  rename ∀ p ∈ n, _ => q1
  generalize hx : Int.fmod _ 3 = x
  have hx0 : 0 ≤ x := by rw [← hx]; exact Int.fmod_nonneg_of_pos _ (by decide)
  have hx1 : x < 3 := by rw [← hx]; exact Int.fmod_lt_of_pos _ (by decide)
  obtain ⟨lb, bs, tp, hv, hb, hi⟩ := menu3 hx0 hx1 (.tail _ (.tail _ (.tail _ (.head _)))) (.tail _ (.tail _ (.head _))) (.tail _ (.head _))
  refine item_lstM N1 (.head _) hx0 (by omega) hv ?_
  k_steps
  rename Fr _ _ _ _ => F2; rename News _ _ _ _ => N2
  exact hQ _ _ _ _ _ _ _ (fr_know F2 ⟨rfl, rfl, trivial⟩) N2 (Grow.cons q4 (Grow.cons q3 (Grow.cons q2 (Grow.cons (allLt_of q1) .refl)))) hb hi
end
section
variable {prog : Program} {w : World} {mg mb : Str → Option Value} {dp un : Nat} {gd : Option (List Code)} {outer : List Env} {A₀ : Around} {base h₀ : Heap} {LL P d pp dn rd : Nat} {n0 n : Led} {lc lb lr : Addr} {vk vl : Value} {cis dl : List Int} {ks : List Key} {bs : List Int} {tp : Int} {r0 r1 : Row} {g : Nat → Int → Row} {i : Nat} {f : Int → Row} {s : Shared} {Q : Flow → Shared → Prop} {tn sn c : Int} {t1 t2 t3 : Tok} {u : Str → Option Value}
set_option maxHeartbeats 1000000 in
theorem st_p1 (V : Amb prog w mg mb P dp un outer A₀ base h₀) (hb : Board bs tp) {o2 : Obj} {vo : Option Value} (hc2 : (LL + 2, o2) ∈ n) (d2 : o2.data = .cell vo) (hlb : IntL n (.ref lb) bs)
    (F : Fr h₀ LL s.heap (cf [kv "keys" vk, kv "board" (.ref lb)] u)) (N : News h₀ LL s.heap n)
    (hQ : ∀ h1 tk1 n' u' lp o2', Fr h₀ LL h1 (cf [kv "keys" vk, kv "board" (.ref lb)] u') → News h₀ LL h1 n' → Ext (LL + 2) n n' → (LL + 2, o2') ∈ n' → o2'.data = .cell (some (.ref lp)) → IntL n' (.ref lp) (0 :: 99 :: bs) → Q .next { s with heap := h1, toks := tk1 }) :
    wpAny (model prog w) (RunA dp un gd LL outer) (exec (runS 1) (RunE LL)) Q NoE s := by
  rw [runS_eq]
  dsimp only [RunA, RunE]
  conv in (occs := *) nthS runB 1 => all_goals whnf
  conv in (occs := *) runScope => all_goals whnf
  obtain ⟨B, X, T, C, M, hdp, hun⟩ := V
  cases hlb with | @mk _ nb bvs _ hlb hbs =>
  k_steps
  rename Fr _ _ _ _ => F1; rename News _ _ _ _ => N1
  rename ∀ p ∈ n, _ => q1
  refine add_ints_M F1 N1 (.head _) (.tail _ hlb) (.cons _ _ (.cons _ _ .nil)) hbs (Nat.le_of_ble_eq_true rfl) (by rw [hbs.length]; exact Nat.le_trans hb.last.2.2 (by decide)) fun D us h' F2 N2 lt2 hus => ?_
  have gg := Grow.trans (Grow.cons (allLt_of q1) .refl) (Grow.cons (o := listO us 0) (allLt_of lt2) .refl)
  k_steps
  rename Fr _ _ _ _ => F3; rename News _ _ _ _ => N3; rename Obj.data _ = Data.cell (some (Value.ref D)) => d3
  exact hQ _ _ _ _ _ _ F3 N3 (Ext.put gg hc2) (.head _) d3 (.mk (.tail _ (carve_in (.head _) (Nat.ne_of_gt (lt2 _ (.tail _ hc2))))) hus)
theorem six_slice (cvs : List Value) {j : Nat} (hj : j < 8) (hl : cvs.length = 51) : (slicePick cvs.toArray (some (6 * (j : Int) + 3)) (some (6 * (j : Int) + 9)) none).toList = (cvs.drop (6 * j + 3)).take 6 := by
  rw [slice_both cvs (by omega) (by omega) (by rw [hl]; omega), show (6 * (j : Int) + 3).toNat = 6 * j + 3 by omega, show (6 * (j : Int) + 9).toNat - (6 * j + 3) = 6 by omega]
set_option maxHeartbeats 1000000 in
theorem st_p2 (V : Amb prog w mg mb P dp un outer A₀ base h₀) (hb : Board bs tp) {o1 o2 o3 : Obj} {vo : Option Value} {lp : Addr} {cvs : List Value} {nc : Nat} (hc1 : (LL + 1, o1) ∈ n) (d1 : o1.data = .cell (some (.ref lc))) (hc2 : (LL + 2, o2) ∈ n) (d2 : o2.data = .cell (some (.ref lp))) (hc3 : (LL + 3, o3) ∈ n) (d3 : o3.data = .cell vo) (hlp : IntL n (.ref lp) (0 :: 99 :: bs)) (hcl : (lc, listO cvs nc) ∈ n) (hci : IntsAre cvs cis) (hlen : cis.length = 51)
    (F : Fr h₀ LL s.heap (cf [kv "keys" vk, kv "board" (.ref lb)] u)) (N : News h₀ LL s.heap n)
    (hQ : ∀ h1 tk1 n' u' lr o3' rvs, Fr h₀ LL h1 (cf [kv "keys" vk, kv "board" (.ref lb)] u') → News h₀ LL h1 n' → Ext (LL + 3) n n' → (LL + 3, o3') ∈ n' → o3'.data = .cell (some (.ref lr)) → (lr, LCg.lst rvs) ∈ n' → rvs.length = bs.length + 2 → (∀ j v, rvs[j]? = some v → RowL n' v (rowAt cis (6 * j + 3))) → Q .next { s with heap := h1, toks := tk1 }) :
    wpAny (model prog w) (RunA dp un gd LL outer) (exec (runS 2) (RunE LL)) Q NoE s := by
  rw [runS_eq]
  dsimp only [RunA, RunE]
  conv in (occs := *) nthS runB 2 => all_goals whnf
  conv in (occs := *) runScope => all_goals whnf
  obtain ⟨B, X, T, C, M, hdp, hun⟩ := V
  cases hlp with | @mk _ nb bvs _ hlb hbs =>
  have hb6 := hb.last.2.2
  k_steps
  refine len_M (by k_asm) hlb hbs (by rw [List.length_cons, List.length_cons]; omega) fun t tk => ?_
  k_steps
  rename IsRange _ _ _ _ _ _ _ _ => hr
  rename Fr _ _ _ _ => F2; rename News _ _ _ _ => N2
  have hrl : (0 :: 99 :: bs).length < 16 := by rw [List.length_cons, List.length_cons]; omega
  refine grow_range (El := fun n j y => RowL n y (rowAt cis (6 * j + 3))) (fun n n' j y k h => h.mono k) rfl (by decide) rfl rfl F2 N2 hr (rng0 _ hrl).1 (rng0 _ hrl).2 (by rw [sizeLine_eq]; exact Nat.le_trans (Nat.le_of_lt hrl) (Nat.le_of_ble_eq_true rfl)) ?_ ?_
  · rintro j t C D oC m₂ own ys news₁ h tk Q E' hj hx hoC F2 N2 g2 hQ
    obtain ⟨Mm, hM, N2⟩ : ∃ Mm, Mm = (own ++ [(C, oC), (D, LCg.lst ys)]) ++ news₁ ∧ News h₀ LL h Mm := ⟨_, rfl, N2⟩
    rw [← hM] at hQ
    have hCM : (C, oC) ∈ Mm := by rw [hM]; exact List.mem_append_left _ (List.mem_append_right _ (.head _))
    have hnM : ∀ p ∈ news₁, p ∈ Mm := by rw [hM]; exact fun p hp => List.mem_append_right _ hp
    clear hM
    have hc1' := hnM _ (g2.sub _ hc1)
    have hcl' := hnM _ (g2.sub _ hcl)
    have hj8 : j < 8 := by rw [List.length_cons, List.length_cons] at hj; exact Nat.lt_of_lt_of_le hj (Nat.succ_le_succ (Nat.succ_le_succ hb6))
    have hsl := six_slice cvs hj8 (hci.length.trans hlen)
    iterate 20 (walk1; (try dsimp only))
    refine' kmk_slice_lit (s := { s with heap := h, toks := tk + 1 + 1 + 1 + 1 + 1 + 1 + 1 + 1 }) ?F ?N ?l ?pl ?pu hsl ?_ ?hs ?ht ?hz
    case l => exact N2.isList hcl'
    case F => exact F2
    case N => exact N2
    case pl => kmk_part
    case pu => kmk_part
    case hs => with_unfolding_all rfl
    case ht => kmk_pure
    case hz => rw [List.size_toArray, hci.length, hlen, sizeLine_eq]; exact Nat.le_of_ble_eq_true rfl
    intro D9 h9 F9 N9 lt9
    refine hQ _ _ _ _ F9 N9 (Grow.cons (allLt_of lt9) .refl) (rowL_of (List.mem_append_right _ (fresh_mem.mpr ⟨.head _, lt9⟩)) ?_)
    rw [← drop_six (by omega)]
    exact IntsAre.takeI (IntsAre.dropI hci _) _
  · intro D C h tk m' ys news' F5 N5 off5 hlt hn hC₀ hCL off hl hel hg
    refine postE F5 N5 hn hC₀ hCL off fun h6 F6 N6 => ?_
    have hc3' := hg.sub _ hc3
    have d3o := d3
    have gg := grow_top (o := LCg.lst ys) hg hlt
    k_steps
    rename Fr _ _ _ _ => F3; rename News _ _ _ _ => N3; rename Obj.data _ = Data.cell (some (Value.ref D)) => d3
    have hne : D ≠ LL + 3 := Nat.ne_of_gt (hlt _ hc3)
    refine hQ _ _ _ _ _ _ _ F3 N3 (Ext.put gg hc3) (.head _) d3 (.tail _ (carve_in (.head _) hne)) (by rw [hl, List.length_cons, List.length_cons]) fun j v e => ?_
    exact (((hel j v e).mono fun p hp => .tail _ hp).carveX N6 (.tail _ hc3') fun vs k => cell_ne_list d3o).mono fun p hp => .tail _ hp
end
section
variable {prog : Program} {w : World} {mg mb : Str → Option Value} {dp un : Nat} {gd : Option (List Code)} {outer : List Env} {A₀ : Around} {base h₀ : Heap} {LL P d pp dn rd : Nat} {n0 n : Led} {lc lb lr : Addr} {vk vl : Value} {cis dl : List Int} {ks : List Key} {bs : List Int} {tp : Int} {r0 r1 : Row} {g : Nat → Int → Row} {i : Nat} {f : Int → Row} {s : Shared} {Q : Flow → Shared → Prop} {tn sn c : Int} {t1 t2 t3 : Tok} {u : Str → Option Value}
def places (bs : List Int) : List Int := 0 :: 99 :: bs
theorem Board.places {bs : List Int} {tp : Int} (hb : Board bs tp) : (0 :: 99 :: bs).Nodup ∧ (0 :: 99 :: bs).length ≤ 8 := by
  rcases hb with ⟨rfl, rfl⟩ | ⟨rfl, rfl⟩ | ⟨rfl, rfl⟩ <;> decide
def EntEl (prog : Program) (w : World) (n : Led) (c : Int) (r : Row) (y : Value) : Prop := ∃ q t x, y = Value.ref q ∧ (q, tupO [.int c t, x]) ∈ n ∧ EntryIn prog w n x r
theorem EntEl.mono {n n' : Led} {c : Int} {r : Row} {y : Value} (h : EntEl prog w n c r y) (g : ∀ p ∈ n, p ∈ n') : EntEl prog w n' c r y := by
  obtain ⟨q, t, x, a, b, e⟩ := h
  exact ⟨q, t, x, a, g _ b, e.mono g⟩
set_option maxHeartbeats 1000000 in
theorem st_p3 (V : Amb prog w mg mb P dp un outer A₀ base h₀) (hb : Board bs tp) {o2 o3 o4 : Obj} {vo : Option Value} {lp : Addr} {rvs : List Value} (hc2 : (LL + 2, o2) ∈ n) (d2 : o2.data = .cell (some (.ref lp))) (hc3 : (LL + 3, o3) ∈ n) (d3 : o3.data = .cell (some (.ref lr))) (hc4 : (LL + 4, o4) ∈ n) (d4 : o4.data = .cell vo) (hlp : IntL n (.ref lp) (0 :: 99 :: bs)) (hlr : (lr, LCg.lst rvs) ∈ n) (hrl : rvs.length = bs.length + 2) (hrv : ∀ j v, rvs[j]? = some v → RowL n v (rowAt cis (6 * j + 3)))
    (F : Fr h₀ LL s.heap (cf [kv "keys" vk, kv "board" (.ref lb)] u)) (N : News h₀ LL s.heap n)
    (hQ : ∀ h1 tk1 n' u' d o4' o kvs, Fr h₀ LL h1 (cf [kv "keys" vk, kv "board" (.ref lb)] u') → News h₀ LL h1 n' → Ext (LL + 4) n n' → (LL + 4, o4') ∈ n' → o4'.data = .cell (some (.ref d)) → (d, o) ∈ n' → (d == sysModules) = false → o.IsDictOf (PySem.intKind prog w) kvs → kvs.length ≤ 8 → (∀ p ∈ n, p.1 < d) → (∀ j c, (0 :: 99 :: bs)[j]? = some c → ∃ v, valueAt kvs c = some v ∧ EntryIn prog w n' v (rowAt cis (6 * j + 3))) → Q .next { s with heap := h1, toks := tk1 }) :
    wpAny (model prog w) (RunA dp un gd LL outer) (exec (runS 3) (RunE LL)) Q NoE s := by
  rw [runS_eq]
  dsimp only [RunA, RunE]
  conv in (occs := *) nthS runB 3 => all_goals whnf
  conv in (occs := *) runScope => all_goals whnf
  obtain ⟨B, X, T, C, M, hdp, hun⟩ := V
  cases hlp with | @mk _ nb bvs _ hlb hbs =>
  have hb6 := hb.last.2.2
  k_steps
  refine len_M (by k_asm) hlb hbs (by rw [List.length_cons, List.length_cons]; omega) fun t tk => ?_
  k_steps
  rename IsRange _ _ _ _ _ _ _ _ => hr
  rename Fr _ _ _ _ => F2; rename News _ _ _ _ => N2
  have hrl0 := hrl
  have hrl : (0 :: 99 :: bs).length < 16 := by rw [List.length_cons, List.length_cons]; omega
  refine grow_range (El := fun n j y => ∀ c, (0 :: 99 :: bs)[j]? = some c → EntEl prog w n c (rowAt cis (6 * j + 3)) y) (fun n n' j y k h c hc => (h c hc).mono k) rfl (by decide) rfl rfl F2 N2 hr (rng0 _ hrl).1 (rng0 _ hrl).2 (by rw [sizeLine_eq]; exact Nat.le_trans (Nat.le_of_lt hrl) (Nat.le_of_ble_eq_true rfl)) ?_ ?_
  · rintro j t C D oC m₂ own ys news₁ h tk Q E' hj hx hoC F2 N2 g2 hQ
    obtain ⟨Mm, hM, N2⟩ : ∃ Mm, Mm = (own ++ [(C, oC), (D, LCg.lst ys)]) ++ news₁ ∧ News h₀ LL h Mm := ⟨_, rfl, N2⟩
    rw [← hM] at hQ
    have hCM : (C, oC) ∈ Mm := by rw [hM]; exact List.mem_append_left _ (List.mem_append_right _ (.head _))
    have hnM : ∀ p ∈ news₁, p ∈ Mm := by rw [hM]; exact fun p hp => List.mem_append_right _ hp
    clear hM
    have hc2' := hnM _ (g2.sub _ hc2)
    have hc3' := hnM _ (g2.sub _ hc3)
    have hlb' := hnM _ (g2.sub _ hlb)
    have hlr' := hnM _ (g2.sub _ hlr)
    have hj8 : j < 8 := by rw [List.length_cons, List.length_cons] at hj; omega
    obtain ⟨v, hv⟩ : ∃ v, rvs[j]? = some v := ⟨_, List.getElem?_eq_getElem (by rw [hrl0]; rw [List.length_cons, List.length_cons] at hj; omega)⟩
    have hrow := (hrv j v hv).mono fun p hp => hnM _ (g2.sub p hp)
    k_steps
    rename News h₀ LL _ Mm => N3
    refine item_intM N3 hlb' hbs (by omega) (by omega) (by omega) fun c t' hc => ?_
    rw [Int.toNat_natCast] at hc
    k_steps
    rename News h₀ LL _ Mm => N4
    refine item_lstM N4 hlr' (by omega) (by omega) (by rw [Int.toNat_natCast]; exact hv) ?_
    k_steps
    rename EntryIn _ _ _ _ _ => o7; rename Grow Mm _ => g7; rename ∀ p ∈ _, Prod.fst p < _ => l1; rename Fr _ _ _ _ => F9; rename News _ _ _ _ => N9
    refine hQ _ _ _ _ F9 N9 (Grow.cons (allLt_of l1) g7) fun c' hc' => ?_
    cases hc.symm.trans hc'
    exact ⟨_, _, _, rfl, List.mem_append_right _ (fresh_mem.mpr ⟨.head _, fun q hq => l1 q (g7.sub q hq)⟩), o7.mono fun p hp => List.mem_append_right _ (fresh_mono (fun _ h => h) (fun p hp => .tail _ hp) p hp)⟩
  · intro D C h tk m' ys news' F5 N5 off5 hlt hn hC₀ hCL off hl hel hg
    refine postE F5 N5 hn hC₀ hCL off fun h6 F6 N6 => ?_
    obtain ⟨hnd0, hl8⟩ := hb.places
    obtain ⟨ps, hps, hpv⟩ := build_pairs (P := fun j v c e => ∃ q t, v = Value.ref q ∧ (q, tupO [.int c t, e]) ∈ news' ∧ EntryIn prog w news' e (rowAt cis (6 * j + 3))) (0 :: 99 :: bs) ys hl (fun j v c hv hc => by obtain ⟨q, t, x, a, b, e⟩ := hel j v hv c hc; exact ⟨x, q, t, a, b, e⟩)
    have hpl : ps.length = (0 :: 99 :: bs).length := by rw [← hps, List.length_map]
    have hnd : (ps.map (·.1)).Nodup := by rw [hps]; exact hnd0
    k_steps
    refine dict_pairs rfl F6 N6 T.nolimit (.head _) (by rw [hpl]; exact hl) (fun j c e he => ?_) hnd (by rw [hpl, sizeLine_eq]; exact Nat.le_trans hl8 (Nat.le_of_ble_eq_true rfl)) fun D2 h7 tk7 o9 F7 N7 lt7 lo2 hD2 => ?_
    · obtain ⟨v, hv, q, t, rfl, hq, -⟩ := hpv j c e he
      exact ⟨q, t, hv, .tail _ hq⟩
    have gA : Grow n ((D2, o9) :: (D, LCg.lst ys) :: news') := grow_top (grow_top hg hlt) fun p hp => lt7 p (.tail _ (hg.sub p hp))
    have hc4' := gA.sub _ hc4
    have d4o := d4
    have hD4 : D2 ≠ LL + 4 := Nat.ne_of_gt (lt7 _ (.tail _ (hg.sub _ hc4)))
    have rA : ∀ j c, (0 :: 99 :: bs)[j]? = some c → ∃ v, valueAt ps c = some v ∧ EntryIn prog w (carve (LL + 4) ((D2, o9) :: (D, LCg.lst ys) :: news')) v (rowAt cis (6 * j + 3)) := fun j c hc => by
      have hj : j < (0 :: 99 :: bs).length := (List.getElem?_eq_some_iff.mp hc).1
      have hjp : j < ps.length := by rw [hpl]; exact hj
      have e1 : ps[j]? = some (c, ps[j].2) := by
        rw [List.getElem?_eq_getElem hjp]
        have : (ps.map (·.1))[j]? = some c := by rw [hps, hc]
        rw [List.getElem?_map, List.getElem?_eq_getElem hjp] at this
        have := Option.some.inj this
        exact congrArg some (Prod.ext this rfl)
      obtain ⟨v, hv, q, t, rfl, hq, hr⟩ := hpv j c _ e1
      exact ⟨_, valueAt_mem hnd e1, (hr.mono fun p hp => .tail _ (.tail _ hp)).carve (prog := prog) (w := w) N7 hc4' (cell_cell d4o)⟩
    clear hpv hel hps N5 F5 N6 F6
    k_steps
    rename Fr _ _ _ _ => F9; rename News _ _ _ _ => N9; rename Obj.data _ = Data.cell (some (Value.ref D2)) => d9
    exact hQ _ _ _ _ _ _ _ _ F9 N9 (Ext.put gA hc4) (.head _) d9 (.tail _ (carve_in (.head _) hD4)) lo2 hD2 (by rw [hpl]; exact hl8) (fun p hp => lt7 _ (.tail _ (hg.sub p hp))) fun j c hc => let ⟨v, a, b⟩ := rA j c hc; ⟨v, a, b.mono fun p hp => .tail _ hp⟩
end
section
variable {prog : Program} {w : World} {mg mb : Str → Option Value} {dp un : Nat} {gd : Option (List Code)} {outer : List Env} {A₀ : Around} {base h₀ : Heap} {LL P d pp dn rd : Nat} {n0 n : Led} {lc lb lr : Addr} {vk vl : Value} {cis dl : List Int} {ks : List Key} {bs : List Int} {tp : Int} {r0 r1 : Row} {g : Nat → Int → Row} {i : Nat} {f : Int → Row} {s : Shared} {Q : Flow → Shared → Prop} {tn sn c : Int} {t1 t2 t3 : Tok} {u : Str → Option Value}
set_option maxHeartbeats 1000000 in
theorem st_p4 (V : Amb prog w mg mb P dp un outer A₀ base h₀) (hbd : Board bs tp) {o4 : Obj} (hlbI : IntL n (.ref lb) bs) (hc4 : (LL + 4, o4) ∈ n) (d4 : o4.data = .cell (some (.ref d))) (hT : TabIn prog w n (.ref d) (0 :: 99 :: bs) f)
    (F : Fr h₀ LL s.heap (cf [kv "keys" vk, kv "board" (.ref lb)] u)) (N : News h₀ LL s.heap n)
    (hQ : ∀ h1 tk1 nE u' pp D2, Fr h₀ LL h1 (cf [kv "keys" vk, kv "board" (.ref lb), kv "past" (.ref pp)] u') → News h₀ LL h1 ((pp, listO [.ref D2] 0) :: nE) → Grow n nE → (∀ p ∈ nE, p.1 < pp) → RTab prog w nE (.ref D2) bs f → (∀ p ∈ n, p.1 < D2) → Q .next { s with heap := h1, toks := tk1 }) :
    wpAny (model prog w) (RunA dp un gd LL outer) (exec (runS 4) (RunE LL)) Q NoE s := by
  rw [runS_eq]
  dsimp only [RunA, RunE]
  conv in (occs := *) nthS runB 4 => all_goals whnf
  conv in (occs := *) runScope => all_goals whnf
  obtain ⟨B, X, T, C, M, hdp, hun⟩ := V
  have hb6 := hbd.last.2.2
  cases hlbI with | @mk _ nb bvs _ hlb' hbs =>
  k_steps
  rename Fr _ _ _ _ => F1; rename News _ _ _ _ => N1
  refine grow_list (El := fun n j y => ∀ c, bs[j]? = some c → PairEl prog w f n c y) (fun n n' j y k h c hc => (h c hc).mono k) rfl (by decide) rfl rfl F1 N1 hlb' (by rw [sizeLine_eq, hbs.length]; exact Nat.le_trans hb6 (Nat.le_of_ble_eq_true rfl)) ?_ ?_
  · rintro j v C D oC m₂ own ys news₁ h tk Q E' hv hx hoC F2 N2 g2 hQ
    obtain ⟨c, t, rfl, hcj⟩ := hbs.at j v hv
    have hc9 : c ∈ 0 :: 99 :: bs := .tail _ (.tail _ (List.mem_of_getElem? hcj))
    obtain ⟨Mm, hM, N2⟩ : ∃ Mm, Mm = (own ++ [(C, oC), (D, LCg.lst ys)]) ++ news₁ ∧ News h₀ LL h Mm := ⟨_, rfl, N2⟩
    rw [← hM] at hQ
    have hCM : (C, oC) ∈ Mm := by rw [hM]; exact List.mem_append_left _ (List.mem_append_right _ (.head _))
    have hnM : ∀ p ∈ news₁, p ∈ Mm := by rw [hM]; exact fun p hp => List.mem_append_right _ hp
    clear hM
    have hc4' := hnM _ (g2.sub _ hc4)
    have hT' := hT.mono fun p hp => hnM _ (g2.sub p hp)
    clear hT
    k_steps
    rename RowIn _ _ _ => o7; rename Grow Mm _ => g7; rename ∀ p ∈ _, Prod.fst p < _ => l1; rename Fr _ _ _ _ => F9; rename News _ _ _ _ => N9
    refine hQ _ _ _ _ F9 N9 (Grow.cons (allLt_of l1) g7) fun c' hc' => ?_
    cases hcj.symm.trans hc'
    exact ⟨_, _, _, rfl, List.mem_append_right _ (fresh_mem.mpr ⟨.head _, fun q hq => l1 q (g7.sub q hq)⟩), o7.mono fun p hp => List.mem_append_right _ (fresh_mono (fun _ h => h) (fun p hp => .tail _ hp) p hp)⟩
  · intro D C h tk m' ys news' F5 N5 off5 hlt hn hC₀ hCL off hl hel hg
    refine postE F5 N5 hn hC₀ hCL off fun h6 F6 N6 => ?_
    obtain ⟨ps, hps, hpv⟩ := build_pairs (P := fun j v c e => ∃ q t, v = Value.ref q ∧ (q, tupO [.int c t, e]) ∈ news' ∧ RowIn news' e (f c)) bs ys (hl.trans hbs.length) (fun j v c hv hc => by obtain ⟨q, t, x, a, b, e⟩ := hel j v hv c hc; exact ⟨x, q, t, a, b, e⟩)
    have hpl : ps.length = bs.length := by rw [← hps, List.length_map]
    have hnd : (ps.map (·.1)).Nodup := by rw [hps]; exact hbd.nodup
    k_steps
    refine dict_pairs rfl F6 N6 T.nolimit (.head _) (by rw [hpl]; exact hl.trans hbs.length) (fun j c e he => ?_) hnd (by rw [hpl, sizeLine_eq]; exact Nat.le_trans hb6 (Nat.le_of_ble_eq_true rfl)) fun D2 h7 tk7 o2 F7 N7 lt7 lo2 hD2o => ?_
    · obtain ⟨v, hv, q, t, rfl, hq, -⟩ := hpv j c e he
      exact ⟨q, t, hv, .tail _ hq⟩
    have gA : Grow n ((D2, o2) :: (D, LCg.lst ys) :: news') := grow_top (grow_top hg hlt) fun p hp => lt7 p (.tail _ (hg.sub p hp))
    have rA : ∀ c ∈ bs, ∃ x, valueAt ps c = some x ∧ RowIn ((D2, o2) :: (D, LCg.lst ys) :: news') x (f c) := fun c hc => by
      obtain ⟨j, hj, e⟩ := List.mem_iff_getElem.mp hc
      have hjp : j < ps.length := by rw [hpl]; exact hj
      have e1 : ps[j]? = some (c, ps[j].2) := by
        rw [List.getElem?_eq_getElem hjp]
        have : (ps.map (·.1))[j]? = some c := by rw [hps, List.getElem?_eq_getElem hj, e]
        rw [List.getElem?_map, List.getElem?_eq_getElem hjp] at this
        have := Option.some.inj this
        exact congrArg some (Prod.ext this rfl)
      obtain ⟨v, hv, q, t, rfl, hq, hr⟩ := hpv j c _ e1
      exact ⟨_, valueAt_mem hnd e1, hr.mono fun p hp => .tail _ (.tail _ hp)⟩
    have hD2 : ∀ p ∈ n, p.1 < D2 := fun p hp => lt7 _ (.tail _ (hg.sub p hp))
    have hd9 := hD2o
    clear hpv hel hps hT N1 F1 N5 F5 N6 F6
    k_steps
    rename Fr _ _ _ _ => F9; rename News _ _ _ _ => N9
    rename _ ∧ _ ∧ AllLt _ news' => q9
    refine hQ _ _ _ _ _ _ (fr_know F9 ⟨rfl, rfl, rfl, trivial⟩) N9 gA (fun p hp => ?_) ⟨D2, o2, ps, rfl, .head _, lo2, hd9, rA⟩ hD2
    rcases List.mem_cons.mp hp with rfl | hp
    · exact q9.1
    · rcases List.mem_cons.mp hp with rfl | hp
      · exact q9.2.1
      · exact allLt_mem q9.2.2 p hp
end
section
variable {prog : Program} {w : World} {mg mb : Str → Option Value} {dp un : Nat} {gd : Option (List Code)} {outer : List Env} {A₀ : Around} {base h₀ : Heap} {LL P d pp dn rd : Nat} {n0 n : Led} {lc lb lr : Addr} {vk vl : Value} {cis dl : List Int} {ks : List Key} {bs : List Int} {tp : Int} {r0 r1 : Row} {g : Nat → Int → Row} {i : Nat} {f : Int → Row} {s : Shared} {Q : Flow → Shared → Prop} {tn sn c : Int} {t1 t2 t3 : Tok} {u : Str → Option Value}
theorem Board.turns {bs : List Int} {tp : Int} (hb : Board bs tp) : ∃ Nt : Nat, tp.fdiv 10 + tp.fmod 10 = (Nt : Int) ∧ Nt ≤ 5 := by
  rcases hb with ⟨rfl, rfl⟩ | ⟨rfl, rfl⟩ | ⟨rfl, rfl⟩
  · exact ⟨4, rfl, by decide⟩
  · exact ⟨5, rfl, by decide⟩
  · exact ⟨5, rfl, by decide⟩
set_option maxHeartbeats 1000000 in
theorem st_t5 (V : Amb prog w mg mb P dp un outer A₀ base h₀) (Z : Fix P d pp LL n0 lc lb lr vk cis ks bs tp r0 r1) (hlen : cis.length = 51) {m : Str → Option Value} (J : J1 prog w P d pp LL n0 lb vk ks bs r0 r1 0 m n s.gens) (F : Fr h₀ LL s.heap m) (N : News h₀ LL s.heap n)
    (hQ : ∀ h1 tk1 gn1 m' n' i, Fr h₀ LL h1 m' → News h₀ LL h1 n' → J1 prog w P d pp LL n0 lb vk ks bs r0 r1 i m' n' gn1 → Q .next { s with heap := h1, toks := tk1, gens := gn1 }) :
    wpAny (model prog w) (RunA dp un gd LL outer) (exec (runS 5) (RunE LL)) Q NoE s := by
  have J' := J
  obtain ⟨u, g, f, o5, vo, rfl, HG, K, hc5, d5, hch, hg0, hg1, hgi⟩ := J
  have hb := Z.hb
  have hstep := fun (I : Addr) it hit hPI i (hi5 : i ≤ 5) n1 m px (s' : Shared) t2 (hg : J1 prog w P d pp LL n0 lb vk ks bs r0 r1 i m n1 s'.gens) hoff F N => turn_turn (I := I) (it := it) (i := i) (n1 := n1) (m := m) (px := px) (t1 := t2) (Q := Q) (gd := gd) (s := s') V Z hlen hi5 hit hPI hg hoff F N
  cases Z.board with | @mk _ nb bvs _ hlb hbs =>
  have hlb' := K.sub _ hlb
  obtain ⟨ps, hP, -⟩ := K.tab
  rw [runS_eq]
  dsimp only [RunA, RunE]
  conv in (occs := *) nthS runB 5 => all_goals whnf
  conv in (occs := *) runScope => all_goals whnf
  obtain ⟨B, X, T, C, M, hdp, hun⟩ := V
  clear K Z
  k_steps
  try dsimp only
  rename Fr _ _ _ _ => F1; rename News _ _ _ _ => N1
  refine last_item hb N1 hlb' hbs fun t9 => ?_
  try dsimp only
  iterate 8 (walk1; (try dsimp only))
  refine last_item hb N1 hlb' hbs fun t8 => ?_
  try dsimp only
  iterate 6 (walk1; (try dsimp only))
  obtain ⟨Nt, hNt, hNt5⟩ := hb.turns
  rw [hNt]
  k_steps
  try dsimp only
  rename IsRange _ _ _ _ _ _ _ _ => hr
  rename Fr h₀ LL _ _ => F2; rename News h₀ LL _ _ => N2
  refine' range_gensY ?hh ?F ?N hr ?hsm ?hn (J1 prog w P d pp LL n0 lb vk ks bs r0 r1) ?h0 ?step ?done
  case hh => rfl
  case F => exact F2
  case N => exact N2
  case hsm => exact (rng1 _ (by omega)).1
  case hn => exact (rng1 _ (by omega)).2
  case h0 => exact J'
  case step =>
    intro i t' m₁ news₁ I h₁ tk₁ gn it hI hi hJ hoff hit F N
    exact hstep I it hit (hI _ hP) i (by omega) news₁ m₁ _ _ t' hJ hoff F N
  case done =>
    intro h' tk gn m' news' F N hJ
    exact hQ _ _ _ _ _ _ F N hJ
end
section
variable {prog : Program} {w : World} {mg mb : Str → Option Value} {dp un : Nat} {gd : Option (List Code)} {outer : List Env} {A₀ : Around} {base h₀ : Heap} {LL P d pp dn rd : Nat} {n0 n : Led} {lc lb lr : Addr} {vk vl : Value} {cis dl : List Int} {ks : List Key} {bs : List Int} {tp : Int} {r0 r1 : Row} {g : Nat → Int → Row} {i : Nat} {f : Int → Row} {s : Shared} {Q : Flow → Shared → Prop} {tn sn c : Int} {t1 t2 t3 : Tok} {u : Str → Option Value}
theorem runB_eq : runB = [runS 0, runS 1, runS 2, runS 3, runS 4, runS 5, runS 6] := by
  rw [runS_eq, runS_eq, runS_eq, runS_eq, runS_eq, runS_eq, runS_eq]; rfl
set_option maxHeartbeats 1000000 in
theorem st_p6 (V : Amb prog w mg mb P dp un outer A₀ base h₀) {m : Str → Option Value} (F : Fr h₀ LL s.heap m) (N : News h₀ LL s.heap n)
    (hQ : ∀ tk1, Q (.ret (.bool true)) { s with toks := tk1 }) :
    wpAny (model prog w) (RunA dp un gd LL outer) (exec (runS 6) (RunE LL)) Q NoE s := by
  rw [runS_eq]
  dsimp only [RunA, RunE]
  conv in (occs := *) nthS runB 6 => all_goals whnf
  conv in (occs := *) runScope => all_goals whnf
  obtain ⟨B, X, T, C, M, hdp, hun⟩ := V
  k_steps
  exact hQ _
@[irreducible] noncomputable def runI : List Stmt := runB
theorem runI_eq : runI = runB := by unfold runI; rfl
def rowOf (cis bs : List Int) (c : Int) : Row := rowAt cis (6 * ((0 :: 99 :: bs).idxOf c) + 3)
theorem rowOf_at {bs : List Int} {c : Int} (hc : c ∈ 0 :: 99 :: bs) : (0 :: 99 :: bs)[(0 :: 99 :: bs).idxOf c]? = some c := by
  rw [List.getElem?_eq_getElem (List.idxOf_lt_length_of_mem hc), List.getElem_idxOf]
set_option maxHeartbeats 400000 in
theorem run_body (V : Amb prog w mg mb P dp un outer A₀ base h₀) {news : Led} {o1 o2 o3 o4 o5 : Obj} {cvs : List Value} {nc : Nat} {ps : Array Value} (hnl : ∀ p ∈ news, p.1 < LL) (HQ : ∀ p ∈ news, P < p.1) (hn : ∀ p ∈ news, p ∈ n) (hP : (P, tabObj ps) ∈ n) (HP : TriplesOk ps.toList) (HG : AllBare s.gens) (hlow : ∀ p ∈ n, P ≤ p.1)
    (hc1 : (LL + 1, o1) ∈ n) (d1 : o1.data = .cell (some (.ref lc))) (hc2 : (LL + 2, o2) ∈ n) (d2 : o2.data = .cell none) (hc3 : (LL + 3, o3) ∈ n) (d3 : o3.data = .cell none) (hc4 : (LL + 4, o4) ∈ n) (d4 : o4.data = .cell none) (hc5 : (LL + 5, o5) ∈ n) (d5 : o5.data = .cell none)
    (hcl : (lc, listO cvs nc) ∈ news) (hci : IntsAre cvs cis) (hlen : cis.length = 51) (hkl : KeyL news vk ks) (hk : KeysOk ks) (hk8 : ks.length ≤ 8)
    (F : Fr h₀ LL s.heap (cf [kv "keys" vk] u)) (N : News h₀ LL s.heap n)
    (hQ : ∀ h1 tk1 gn1 m' ps', Fr h₀ LL h1 m' → News h₀ LL h1 ((P, tabObj ps') :: news) → TriplesOk ps'.toList → AllBare gn1 → Q (.ret (.bool true)) { s with heap := h1, toks := tk1, gens := gn1 }) :
    wpAny (model prog w) (RunA dp un gd LL outer) (execs runI (RunE LL)) Q NoE s := by
  have lowE : ∀ {c : Addr} {a b : Led}, Ext c a b → (∀ p ∈ a, P ≤ p.1) → ∀ p ∈ b, P ≤ p.1 := fun x h p hp => let ⟨q, hq, e⟩ := x.low p hp; Nat.le_trans (h q hq) e
  have lowG : ∀ {a b : Led}, Grow a b → (P, tabObj ps) ∈ a → (∀ p ∈ a, P ≤ p.1) → ∀ p ∈ b, P ≤ p.1 := fun g hm h p hp => (g.new p hp).elim (h p) fun x => Nat.le_of_lt (x _ hm)
  rw [runI_eq, runB_eq]
  refine seq_cons (st_p0 V hc1 d1 (hn _ hcl) hci hlen F N fun h1 tk1 n1 u1 lb bs tp F1 N1 g1 hb hlb => ⟨rfl, ?_⟩)
  refine seq_cons (st_p1 V hb (g1.sub _ hc2) d2 hlb F1 N1 fun h2 tk2 n2 u2 lp o2' F2 N2 x2 hc22 d22 hlp => ⟨rfl, ?_⟩)
  have up2 : ∀ p ∈ n, p.1 ≠ LL + 2 → p ∈ n2 := fun p hp hne => x2.sub p (g1.sub p hp) hne
  have hlb2 : IntL n2 (.ref lb) bs := by
    cases hlb with | mk m i => exact .mk (x2.sub _ m (ne_obj N1 m (g1.sub _ hc2) (Ne.symm (cell_ne_list d2)))) i
  have hcl2 := up2 _ (hn _ hcl) (ne_obj N (hn _ hcl) hc2 (Ne.symm (cell_ne_list d2)))
  refine seq_cons (st_p2 V hb (up2 _ hc1 (by show LL + 1 ≠ LL + 2; omega)) d1 hc22 d22 (up2 _ hc3 (by show LL + 3 ≠ LL + 2; omega)) d3 hlp hcl2 hci hlen F2 N2 fun h3 tk3 n3 u3 lr o3' rvs F3 N3 x3 hc33 d33 hlr hrl hrv => ⟨rfl, ?_⟩)
  have ne3 : ∀ {l : Addr} {vs : List Value} {k : Nat}, (l, listO vs k) ∈ n2 → l ≠ LL + 3 := fun m => ne_obj N2 m (up2 _ hc3 (by show LL + 3 ≠ LL + 2; omega)) (Ne.symm (cell_ne_list d3))
  have hlp3 : IntL n3 (.ref lp) (0 :: 99 :: bs) := by
    cases hlp with | mk m i => exact .mk (x3.sub _ m (ne3 m)) i
  have hlb3 : IntL n3 (.ref lb) bs := by
    cases hlb2 with | mk m i => exact .mk (x3.sub _ m (ne3 m)) i
  have hcl3 := x3.sub _ hcl2 (ne3 hcl2)
  have hc43 := x3.sub _ (up2 _ hc4 (by show LL + 4 ≠ LL + 2; omega)) (by show LL + 4 ≠ LL + 3; omega)
  refine seq_cons (st_p3 V hb (x3.sub _ hc22 (by show LL + 2 ≠ LL + 3; omega)) d22 hc33 d33 hc43 d4 hlp3 hlr hrl hrv F3 N3 fun h4 tk4 n4 u4 d o4' od kvs F4 N4 x4 hc44 d44 hd lo hD hkl8 hdlow hent => ⟨rfl, ?_⟩)
  have ne4 : ∀ {l : Addr} {vs : List Value} {k : Nat}, (l, listO vs k) ∈ n3 → l ≠ LL + 4 := fun m => ne_obj N3 m hc43 (Ne.symm (cell_ne_list d4))
  have hlb4 : IntL n4 (.ref lb) bs := by
    cases hlb3 with | mk m i => exact .mk (x4.sub _ m (ne4 m)) i
  have hT4 : TabIn prog w n4 (.ref d) (0 :: 99 :: bs) (rowOf cis bs) := .mk hd lo hD hkl8 fun c hc => hent _ c (rowOf_at hc)
  refine seq_cons (st_p4 V hb hlb4 hc44 d44 hT4 F4 N4 fun h5 tk5 nE u5 pp D2 F5 N5 g5 hpp hrt hD2 => ⟨rfl, ?_⟩)
  have PE : ∃ ps0, (P, tabObj ps0) ∈ nE ∧ TriplesOk ps0.toList := by
    have m1 := g1.sub _ hP
    have m2 := x2.sub _ m1 (ne_obj N1 m1 (g1.sub _ hc2) (Ne.symm (cell_ne_tab d2)))
    have m3 := x3.sub _ m2 (ne_obj N2 m2 (up2 _ hc3 (by show LL + 3 ≠ LL + 2; omega)) (Ne.symm (cell_ne_tab d3)))
    have m4 := x4.sub _ m3 (ne_obj N3 m3 hc43 (Ne.symm (cell_ne_tab d4)))
    exact ⟨ps, g5.sub _ m4, HP⟩
  obtain ⟨ps0, hPE, HPE⟩ := PE
  have lowF : ∀ p ∈ nE, P ≤ p.1 := by
    have l1 := lowG g1 hP hlow
    have l2 := lowE x2 l1
    have l3 := lowE x3 l2
    have l4 := lowE x4 l3
    intro p hp
    rcases g5.new p hp with h | h
    · exact l4 p h
    · exact Nat.le_trans (l4 _ hc44) (Nat.le_of_lt (h _ hc44))
  have hdE := g5.sub _ hd
  have hc1E : (LL + 1, o1) ∈ nE := g5.sub _ (x4.sub _ (x3.sub _ (up2 _ hc1 (by show LL + 1 ≠ LL + 2; omega)) (by show LL + 1 ≠ LL + 3; omega)) (by show LL + 1 ≠ LL + 4; omega))
  have hc3E : (LL + 3, o3') ∈ nE := g5.sub _ (x4.sub _ hc33 (by show LL + 3 ≠ LL + 4; omega))
  have hc4E := g5.sub _ hc44
  have hc5E : (LL + 5, o5) ∈ nE := g5.sub _ (x4.sub _ (x3.sub _ (up2 _ hc5 (by show LL + 5 ≠ LL + 2; omega)) (by show LL + 5 ≠ LL + 3; omega)) (by show LL + 5 ≠ LL + 4; omega))
  have hclE := g5.sub _ (x4.sub _ hcl3 (ne4 hcl3))
  have news3 : ∀ p ∈ news, p ∈ n3 := fun p hp => by
    have hne : ∀ k : Nat, p.1 ≠ LL + k := fun k => Nat.ne_of_lt (Nat.lt_of_lt_of_le (hnl p hp) (Nat.le_add_right _ _))
    exact x3.sub _ (up2 _ (hn p hp) (hne 2)) (hne 3)
  have newsE : ∀ p ∈ news, p ∈ nE := fun p hp => by
    have hne : ∀ k : Nat, p.1 ≠ LL + k := fun k => Nat.ne_of_lt (Nat.lt_of_lt_of_le (hnl p hp) (Nat.le_add_right _ _))
    exact g5.sub _ (x4.sub _ (x3.sub _ (up2 _ (hn p hp) (hne 2)) (hne 3)) (hne 4))
  have hlrE := g5.sub _ (x4.sub _ hlr (ne4 hlr))
  have NE : News h₀ LL h5 nE := fun p hp => N5 p (.tail _ hp)
  have N6 := carve_news NE hPE
  have NP : News h₀ LL h5 (carve P nE) := fun p hp => NE p (carve_sub p hp)
  have hdP := carve_in (c := P) hdE (ne_obj NE hdE hPE (fun e => by rw [e] at hD; exact celln_tab.i _ hD))
  have ND : News h₀ LL h5 (carve d (carve P nE)) := fun p hp => NP p (carve_sub p hp)
  have listD : ∀ vs k, od ≠ listO vs k := fun vs k e => by rw [e] at hD; exact celln_list.i _ hD
  have cD : ∀ {o : Obj} {v : Option Value}, o.data = .cell v → o ≠ od := fun h e => (celln_cell h).i _ (e ▸ hD)
  have into : ∀ {a : Addr} {o : Obj} {v : Option Value}, (a, o) ∈ nE → o.data = .cell v → a ≠ LL + 5 → (a, o) ∈ carve (LL + 5) (carve d (carve P nE)) := fun m h e =>
    carve_in (carve_in (carve_in m (ne_obj NE m hPE (cell_ne_tab h))) (ne_obj NE m hdE (cD h))) e
  have hc5D : (LL + 5, o5) ∈ carve d (carve P nE) := carve_in (carve_in hc5E (ne_obj NE hc5E hPE (cell_ne_tab d5))) (ne_obj NE hc5E hdE (cD d5))
  have intoL : ∀ {l : Addr} {vs : List Value} {k : Nat}, (l, listO vs k) ∈ nE → (l, listO vs k) ∈ carve (LL + 5) (carve d (carve P nE)) := fun m =>
    list_carve ND hc5D (fun vs k => cell_ne_list d5) (list_carve NP hdP listD (list_carve NE hPE (fun vs k => Ne.symm list_ne_tab) m))
  have intoR : ∀ {v : Value} {r : Row}, RowL nE v r → RowL (carve (LL + 5) (carve d (carve P nE))) v r := fun x => by
    cases x with | mk m => exact .mk (intoL m)
  have hD2d : Value.ref D2 ≠ .ref d := fun e => by cases e; exact Nat.lt_irrefl _ (hD2 _ hd)
  have hidx0 : (0 :: 99 :: bs).idxOf 0 = 0 := by simp
  have hidx1 : (0 :: 99 :: bs).idxOf 99 = 1 := rfl
  have hkE : KeyL (carve (LL + 5) (carve d (carve P nE))) vk ks := ((((hkl.mono newsE).carveX (prog := prog) (w := w) NE hPE cell_tab fun vs k => Ne.symm list_ne_tab).carveX (prog := prog) (w := w) NP hdP (cell_dict hD) listD).carveX (prog := prog) (w := w) ND hc5D (cell_cell d5) fun vs k => cell_ne_list d5)
  have hbE : IntL (carve (LL + 5) (carve d (carve P nE))) (.ref lb) bs := by
    cases hlb4 with | mk m i => exact .mk (intoL (g5.sub _ m)) i
  obtain ⟨v0, v1, rest, rfl⟩ : ∃ v0 v1 rest, rvs = v0 :: v1 :: rest := by
    match rvs, hrl with
    | v0 :: v1 :: rest, _ => exact ⟨v0, v1, rest, rfl⟩
    | [_], h => simp at h
    | [], h => simp at h
  have upR : ∀ {v : Value} {r : Row}, RowL n3 v r → RowL nE v r := fun x => by
    cases x with | mk m => exact .mk (g5.sub _ (x4.sub _ m (ne4 m)))
  have Z : Fix P d pp LL (carve (LL + 5) (carve d (carve P nE))) lc lb lr vk cis ks bs tp (rowAt cis 3) (rowAt cis 9) := {
    off := fun p hp => by
      obtain ⟨h1, h2⟩ := carve_mem.mp hp
      obtain ⟨h3, h4⟩ := carve_mem.mp h1
      obtain ⟨h5, h6⟩ := carve_mem.mp h3
      exact ⟨h6, h4, Nat.ne_of_lt (hpp p h5), h2⟩
    c1 := ⟨o1, into hc1E d1 (by show LL + 1 ≠ LL + 5; omega), d1⟩
    c3 := ⟨o3', into hc3E d33 (by show LL + 3 ≠ LL + 5; omega), d33⟩
    c4 := ⟨o4', into hc4E d44 (by show LL + 4 ≠ LL + 5; omega), d44⟩
    cells := ⟨cvs, nc, intoL hclE, hci⟩
    keys := hkE
    board := hbE
    rows := ⟨v0, v1, rest, _, intoL hlrE, intoR (upR (hrv 0 v0 rfl)), intoR (upR (hrv 1 v1 rfl))⟩
    hb := hb
    hk := hk
    hk8 := hk8 }
  have K : Core prog w P d pp (carve (LL + 5) (carve d (carve P nE))) bs (fun _ => rowOf cis bs) 0 (rowOf cis bs) ((pp, listO [.ref D2] 0) :: nE) := {
    tab := ⟨ps0, .tail _ hPE, HPE⟩
    low := fun p hp => by
      rcases List.mem_cons.mp hp with rfl | hp
      · exact Nat.le_of_lt (hpp _ hPE)
      · exact lowF p hp
    sub := fun p hp => .tail _ (carve_sub p (carve_sub p (carve_sub p hp)))
    t := hT4.mono fun p hp => .tail _ (g5.sub p hp)
    past := ⟨[.ref D2], 0, .head _, rfl, fun j v e => by
      match j, e with
      | 0, e => cases e; exact ⟨hrt.mono fun p hp => .tail _ hp, hD2d⟩
      | _ + 1, e => simp at e⟩ }
  have J : J1 prog w P d pp LL (carve (LL + 5) (carve d (carve P nE))) lb vk ks bs (rowAt cis 3) (rowAt cis 9) 0 (cf [kv "keys" vk, kv "board" (.ref lb), kv "past" (.ref pp)] u5) ((pp, listO [.ref D2] 0) :: nE) s.gens :=
    ⟨u5, fun _ => rowOf cis bs, rowOf cis bs, o5, none, rfl, HG, K, .tail _ hc5E, d5, ⟨fun t ht => absurd ht (Nat.not_lt_zero _)⟩, by show rowAt cis _ = _; rw [hidx0], by show rowAt cis _ = _; rw [hidx1], rfl⟩
  have news0 : ∀ p ∈ news, p ∈ carve (LL + 5) (carve d (carve P nE)) := fun p hp =>
    carve_in (carve_in (carve_in (newsE p hp) (Nat.ne_of_gt (HQ p hp))) (Nat.ne_of_lt (hdlow p (news3 p hp)))) (Nat.ne_of_lt (Nat.lt_of_lt_of_le (hnl p hp) (Nat.le_add_right _ _)))
  refine seq_cons (st_t5 V Z hlen J F5 N5 fun h6 tk6 gn6 m6 n6 i6 F6 N6 J6 => ⟨rfl, ?_⟩)
  obtain ⟨u6, g6, f6, o56, vo6, rfl, HG6, K6, -⟩ := J6
  obtain ⟨ps6, hP6, HP6⟩ := K6.tab
  refine wpAny_execs_cons (st_p6 V F6 N6 fun tk7 => ?_)
  exact hQ _ _ _ _ ps6 F6 (fun p hp => by
    rcases List.mem_cons.mp hp with rfl | hp
    · exact N6 _ hP6
    · exact N6 p (K6.sub p (news0 p hp))) HP6 HG6
end
section
variable {prog : Program} {w : World} {mg mb : Str → Option Value} {dp un : Nat} {gd : Option (List Code)} {outer : List Env} {A₀ : Around} {base h₀ : Heap} {LL P d pp dn rd : Nat} {n0 n : Led} {lc lb lr : Addr} {vk vl : Value} {cis dl : List Int} {ks : List Key} {bs : List Int} {tp : Int} {r0 r1 : Row} {g : Nat → Int → Row} {i : Nat} {f : Int → Row} {s : Shared} {Q : Flow → Shared → Prop} {tn sn c : Int} {t1 t2 t3 : Tok} {u : Str → Option Value}
set_option maxHeartbeats 1000000 in
theorem law_run_ct {news : Led} {nc : Nat} {cvs : List Value} {v2 : Value} (h1 : (lc, listO cvs nc) ∈ news) (hi : IntsAre cvs cis) (hlen : cis.length = 51) (h2 : KeyL news v2 ks) (hk : KeysOk ks) (hk8 : ks.length ≤ 8) : CtG prog w mg mb P 40 (.ref 85) [.ref lc, v2] news (fun _ v => v = .bool true) := by
  intro dp un gd cn cs a ccd cl outer A₀ base h₀ L m s ps Q E B F X N T C M HP HG HQ hkk hdp hun hret
  refine wpAny_call ?_
  k_dflt (first | (refine code_defCR (by exact rfl) (by exact rfl) (by assumption) (by k_asm) (by k_asm) (by k_asm) (by k_asm) (by k_asm) (by k_is) (by k_is) (by ktr_room) (by exact BindsTo.of_eq rfl) (by exact rfl) (by decide +kernel) (by exact rfl) (by exact rfl) (by exact rfl) ?_; k_whole; intro g'_k L'_k h'_k tk'_k cells'_k FG'_k F'_k N'_k Y'_k B'_k X'_k T'_k st'_k l1_k; (try k_lt l1_k); k_cells Y'_k; (try simp only [List.cons_append, List.nil_append] at N'_k); (try dsimp only); (try k_fold)) | (refine code_defR (by exact rfl) (by exact rfl) (by assumption) (by k_asm) (by k_asm) (by k_asm) (by k_asm) (by k_asm) (by k_is) (by k_is) (by ktr_room) (by exact BindsTo.of_eq rfl) (by decide) (by exact locs rfl) (by exact rfl) (by exact rfl) (by exact rfl) ?_; k_whole; intro g'_k L'_k h'_k FG'_k F'_k N'_k B'_k X'_k T'_k st'_k hL'_k; (try dsimp only); (try k_fold)))
  rename Heap.StaysIn h₀ _ => st9; rename TR mg mb _ => T9; rename Below _ _ _ _ => B9; rename Frag.In _ _ => X9
  rename Fr _ _ _ _ => F9; rename News _ _ _ _ => N9
  rename P < _ ∧ AllLt _ news => l9
  change wpAny (model prog w) (RunA _ _ _ _ _) (execs runB (RunE _)) _ _ _
  rw [← runI_eq]
  clear F
  rename Obj.data _ = _ => e1
  have f1 : _ = Data.cell (some (.ref lc)) := e1
  clear e1
  rename_i e5 e4 e3 e2
  have f2 : _ = Data.cell none := e2
  have f3 : _ = Data.cell none := e3
  have f4 : _ = Data.cell none := e4
  have f5 : _ = Data.cell none := e5
  clear e2 e3 e4 e5
  have F8 := fr_know F9 (l := [kv "keys" v2]) ⟨rfl, trivial⟩
  refine wpAny_mono (run_body ⟨B9, X9, T9, C.keeps st9, M.keeps st9, ?_, ?_⟩ (allLt_mem l9.2) HQ (fun p hp => ?_) (.tail _ (.tail _ (.tail _ (.tail _ (.tail _ (.head _)))))) HP HG ?_ (.tail _ (.tail _ (.tail _ (.tail _ (.head _))))) f1 (.tail _ (.tail _ (.tail _ (.head _)))) f2 (.tail _ (.tail _ (.head _))) f3 (.tail _ (.head _)) f4 (.head _) f5 h1 hi hlen h2 hk hk8 F8 N9 fun h6 tk6 gn6 m6 ps6 F6 N6 HP6 HG6 => ?_) (fun _ _ h => h) (fun _ _ h => h.elim)
  · show dp + 1 + 30 < _
    omega
  · show un + 3 + 240 < _
    omega
  · exact .tail _ (.tail _ (.tail _ (.tail _ (.tail _ (.tail _ hp)))))
  · intro p hp
    have hPL := l9.1
    rcases List.mem_cons.mp hp with rfl | hp
    · show P ≤ _ + 5
      omega
    rcases List.mem_cons.mp hp with rfl | hp
    · show P ≤ _ + 4
      omega
    rcases List.mem_cons.mp hp with rfl | hp
    · show P ≤ _ + 3
      omega
    rcases List.mem_cons.mp hp with rfl | hp
    · show P ≤ _ + 2
      omega
    rcases List.mem_cons.mp hp with rfl | hp
    · show P ≤ _ + 1
      omega
    rcases List.mem_cons.mp hp with rfl | hp
    · exact Nat.le_refl _
    · exact Nat.le_of_lt (HQ p hp)
  · dsimp only
    clear F8 F9 N9
    k_steps
    rename Fr h₀ L _ m => kF; rename News h₀ L _ _ => kN
    exact hret _ news _ _ _ ps6 kF kN HP6 HG6 HQ .refl rfl
end
theorem lay_16 : True := by
  k_with "storeName" => (k_here; (with_reducible show wpAny _ _ (storeName (envX _ _ _ _ _ (lawCl _)) _ _) _ _ _); (refine cell_storeL (by k_asm) (by k_asm) (by rfl) (by rfl) (by with_reducible assumption) (by (first | with_reducible assumption | k_mem)) ?_); intro h'_k o'_k F'_k N'_k d'_k; (try dsimp only))
  k_with "eval Name" => (k_here; name_kind "cell"; (with_reducible show wpAny _ _ (eval (PySem.Expr.Name _ _) (envX _ _ _ _ _ (lawCl _))) _ _ _); (refine cell_name (by k_asm) (by rfl) (by (first | with_reducible assumption | k_mem)) (by with_reducible assumption) ?_ (by rfl) (by rfl) (by decide); k_whole))
  trivial
section
variable {prog : Program} {w : World} {mg mb : Str → Option Value} {dp un : Nat} {gd : Option (List Code)} {outer : List Env} {A₀ : Around} {base h₀ : Heap} {LL fa P d pp dn rd : Nat} {cd : Value} {n0 n : Led} {lc lb lr : Addr} {vk vl : Value} {cis dl : List Int} {ks : List Key} {bs : List Int} {tp : Int} {r0 r1 : Row} {g : Nat → Int → Row} {i : Nat} {f : Int → Row} {s : Shared} {Q : Flow → Shared → Prop} {tn sn c : Int} {t1 t2 t3 : Tok} {u : Str → Option Value}
theorem rng48 : Builtin.Range.small 0 48 1 = true ∧ Builtin.Range.rangeSize 0 48 1 = ((48 : Nat) : Int) := by decide +kernel
theorem rng51 : Builtin.Range.small 0 51 1 = true ∧ Builtin.Range.rangeSize 0 51 1 = ((51 : Nat) : Int) := by decide +kernel
theorem rng6 : Builtin.Range.small 0 6 1 = true ∧ Builtin.Range.rangeSize 0 6 1 = ((6 : Nat) : Int) := by decide +kernel
def IsI (v : Value) : Prop := ∃ z t, v = Value.int z t
theorem ints_of : ∀ {ys : List Value}, (∀ (j : Nat) (v : Value), ys[j]? = some v → IsI v) → ∃ is, IntsAre ys is
  | [], _ => ⟨[], .nil⟩
  | y :: ys, h => by
    obtain ⟨z, t, rfl⟩ := h 0 y rfl
    obtain ⟨is, hi⟩ := ints_of (ys := ys) fun j v e => h (j + 1) v e
    exact ⟨z :: is, .cons z t hi⟩
set_option maxHeartbeats 1000000 in
theorem sl_0 (V : Amb prog w mg mb P dp un outer A₀ base h₀) {o2 : Obj} (hc2 : (LL + 2, o2) ∈ n) (d2 : o2.data = .cell none) {m : Str → Option Value}
    (F : Fr h₀ LL s.heap m) (N : News h₀ LL s.heap n)
    (hQ : ∀ h1 tk1 n' m' o2' lo ovs ois, Fr h₀ LL h1 m' → News h₀ LL h1 n' → Ext (LL + 2) n n' → (LL + 2, o2') ∈ n' → o2'.data = .cell (some (.ref lo)) → (lo, listO ovs 0) ∈ n' → IntsAre ovs ois → ois.length = 51 → Q .next { s with heap := h1, toks := tk1 }) :
    wpAny (model prog w) (LawA dp un gd LL fa cd outer) (exec (lawS 0) (LawE LL fa cd)) Q NoE s := by
  rw [lawS_eq]
  dsimp only [LawA, LawE]
  conv in (occs := *) nthS lawB 0 => all_goals whnf
  conv in (occs := *) lawScope => all_goals whnf
  obtain ⟨B, X, T, C, M, hdp, hun⟩ := V
  k_steps
  rename IsRange _ _ _ _ _ _ _ _ => hr
  rename Fr h₀ LL _ _ => F2; rename News h₀ LL _ _ => N2
  rename ∀ p ∈ n, _ => q1
  refine grow_range (El := fun _ _ y => IsI y) (fun n n' j y k h => h) rfl (by decide) rfl rfl F2 N2 hr rng48.1 rng48.2 (by rw [sizeLine_eq]; exact Nat.le_of_ble_eq_true rfl) ?_ ?_
  · rintro j t C D oC m₂ own ys news₁ h tk Q E' hj hx hoC F2 N2 g2 hQ
    obtain ⟨Mm, hM, N2⟩ : ∃ Mm, Mm = (own ++ [(C, oC), (D, LCg.lst ys)]) ++ news₁ ∧ News h₀ LL h Mm := ⟨_, rfl, N2⟩
    rw [← hM] at hQ
    have hCM : (C, oC) ∈ Mm := by rw [hM]; exact List.mem_append_left _ (List.mem_append_right _ (.head _))
    clear hM
    k_steps
    try dsimp only
    rename Fr _ _ _ _ => F9; rename News _ _ _ _ => N9
    rename ∀ p ∈ Mm, _ => q9
    exact hQ _ _ _ _ F9 N9 (Grow.cons (allLt_of q9) .refl) ⟨_, _, rfl⟩
  · intro D C h tk m' ys news' F5 N5 off5 hlt hn hC₀ hCL off hl hel hg
    refine postE F5 N5 hn hC₀ hCL off fun h6 F6 N6 => ?_
    obtain ⟨is, his⟩ := ints_of hel
    refine add_ints_M F6 N6 (.tail _ (hg.sub _ (.head _))) (.head _) (.cons _ _ (.cons _ _ (.cons _ _ .nil))) his (Nat.le_of_ble_eq_true rfl) (by rw [hl]; decide) fun D' us h' F7 N7 lt7 hus => ?_
    have gg : Grow n ((D', listO us 0) :: (D, LCg.lst ys) :: news') := grow_top (grow_top (Grow.trans (grow_top .refl q1) hg) fun p hp => hlt p (.tail _ hp)) fun p hp => lt7 p (.tail _ (hg.sub p (.tail _ hp)))
    have hc2' := gg.sub _ hc2
    clear F6 N6 F5 N5
    k_steps
    rename Fr _ _ _ _ => F3; rename News _ _ _ _ => N3; rename Obj.data _ = Data.cell (some (Value.ref D')) => d3
    exact hQ _ _ _ _ _ _ us _ F3 N3 (Ext.put gg hc2) (.head _) d3 (.tail _ (carve_in (.head _) (Nat.ne_of_gt (lt7 _ (.tail _ (hg.sub _ (.tail _ hc2))))))) hus (by rw [List.length_append, ← his.length, hl]; rfl)
end
section
variable {prog : Program} {w : World} {mg mb : Str → Option Value} {dp un : Nat} {gd : Option (List Code)} {outer : List Env} {A₀ : Around} {base h₀ : Heap} {LL fa P d pp dn rd : Nat} {cd : Value} {n0 n : Led} {lc lb lr : Addr} {vk vl : Value} {cis dl : List Int} {ks : List Key} {bs : List Int} {tp : Int} {r0 r1 : Row} {g : Nat → Int → Row} {i : Nat} {f : Int → Row} {s : Shared} {Q : Flow → Shared → Prop} {tn sn c : Int} {t1 t2 t3 : Tok} {u : Str → Option Value}
theorem isI_at {vs : List Value} {is : List Int} (h : IntsAre vs is) {v : Value} (hv : v ∈ vs) : IsI v := by
  obtain ⟨j, hj, rfl⟩ := List.mem_iff_getElem.mp hv
  obtain ⟨o, t, e, -⟩ := h.at j _ (List.getElem?_eq_getElem hj)
  exact ⟨o, t, e⟩
theorem pick_isI {its : Array Value} {lo hi st : Option Int} (h : ∀ v ∈ its.toList, IsI v) : ∀ (j : Nat) (v : Value), (slicePick its lo hi st).toList[j]? = some v → IsI v := fun j v e => by
  have hm := List.mem_of_getElem? e
  unfold slicePick at hm
  rw [List.mem_filterMap] at hm
  obtain ⟨i, -, hi⟩ := hm
  exact h v (by rw [Array.mem_toList_iff]; exact Array.mem_of_getElem? hi)
set_option maxHeartbeats 1000000 in
theorem sl_1 (V : Amb prog w mg mb P dp un outer A₀ base h₀) {a : Addr} {vs : List Value} {ns : List Int} {o1 o2 o3 : Obj} {lo : Addr} {ovs : List Value} {ois : List Int} (hs : h₀.IsList a vs.toArray) (hns : IntsAre vs ns) (hn63 : ns.length ≤ 63) (hc1 : (LL + 1, o1) ∈ n) (d1 : o1.data = .cell (some (.ref a))) (hc2 : (LL + 2, o2) ∈ n) (d2 : o2.data = .cell (some (.ref lo))) (hc3 : (LL + 3, o3) ∈ n) (d3 : o3.data = .cell none) (hlo : (lo, listO ovs 0) ∈ n) (hoi : IntsAre ovs ois) (hol : ois.length = 51) {m : Str → Option Value}
    (F : Fr h₀ LL s.heap m) (N : News h₀ LL s.heap n)
    (hQ : ∀ h1 tk1 n' m' o3' lc cvs cis, Fr h₀ LL h1 m' → News h₀ LL h1 n' → Ext (LL + 3) n n' → (LL + 3, o3') ∈ n' → o3'.data = .cell (some (.ref lc)) → (lc, LCg.lst cvs) ∈ n' → IntsAre cvs cis → cis.length = 51 → Q .next { s with heap := h1, toks := tk1 }) :
    wpAny (model prog w) (LawA dp un gd LL fa cd outer) (exec (lawS 1) (LawE LL fa cd)) Q NoE s := by
  rw [lawS_eq]
  dsimp only [LawA, LawE]
  conv in (occs := *) nthS lawB 1 => all_goals whnf
  conv in (occs := *) lawScope => all_goals whnf
  obtain ⟨B, X, T, C, M, hdp, hun⟩ := V
  k_steps
  rename IsRange _ _ _ _ _ _ _ _ => hr
  rename Fr h₀ LL _ _ => F2; rename News h₀ LL _ _ => N2
  refine grow_range (El := fun _ _ y => IsI y) (fun n n' j y k h => h) rfl (by decide) rfl rfl F2 N2 hr rng51.1 rng51.2 (by rw [sizeLine_eq]; exact Nat.le_of_ble_eq_true rfl) ?_ ?_
  · rintro j t C D oC m₂ own ys news₁ h tk Q E' hj hx hoC F2 N2 g2 hQ
    obtain ⟨Mm, hM, N2⟩ : ∃ Mm, Mm = (own ++ [(C, oC), (D, LCg.lst ys)]) ++ news₁ ∧ News h₀ LL h Mm := ⟨_, rfl, N2⟩
    rw [← hM] at hQ
    have hCM : (C, oC) ∈ Mm := by rw [hM]; exact List.mem_append_left _ (List.mem_append_right _ (.head _))
    have hnM : ∀ p ∈ news₁, p ∈ Mm := by rw [hM]; exact fun p hp => List.mem_append_right _ hp
    clear hM
    have hc1' := hnM _ (g2.sub _ hc1)
    have hc2' := hnM _ (g2.sub _ hc2)
    have hlo' := hnM _ (g2.sub _ hlo)
    iterate 4 (walk1; (try dsimp only))
    refine item_intM (s := { s with heap := h, toks := tk }) N2 hlo' hoi (by omega) (by omega) (by omega) fun c t' hc => ?_
    try dsimp only
    iterate 12 (walk1; (try dsimp only))
    have hs' : h.IsList a vs.toArray := hs.at fun o e => F2.keep _ o e
    refine' kmk_slice_lit (s := { s with heap := h, toks := tk + 1 }) ?F ?N ?l ?pl ?pu (slicePick_upto vs (y := 60) (by decide)) ?_ ?hs ?ht ?hz
    case F => exact F2
    case N => exact N2
    case l => exact hs'
    case pl => kmk_part
    case pu => kmk_part
    case hs => with_unfolding_all rfl
    case ht => kmk_pure
    case hz => rw [List.size_toArray, hns.length, sizeLine_eq]; exact Nat.le_trans hn63 (Nat.le_of_ble_eq_true rfl)
    intro D9 h9 F9 N9 lt9
    try dsimp only
    iterate 6 (walk1; (try dsimp only))
    refine kba_turn (value' := PySem.Expr.Name (PySem.Str.ofString "x") ⟨0, 0, 0, 0⟩) (fun _ => rfl) ?_
    have hz9 : ∀ v ∈ (vs.take (Int.toNat 60)).toArray.toList, IsI v := fun v hv => isI_at hns (List.mem_of_mem_take hv)
    refine' kmk_slice3_lit (s := { s with heap := h9, toks := tk + 1 + 1 }) (vl := .int (j : Int) t) (vu := .none) (vk := .int 51 (tk + 1)) (lo := some (j : Int)) (hi := none) (st := some 51) ?F ?N ?l ?pl ?pu ?pk ?h0 rfl ?_ ?hs ?ht ?hz
    case F => exact F9
    case N => exact N9
    case l => exact N9.isList (.head _)
    case pl => kmk_part
    case pu => kmk_part
    case pk => kmk_part
    case h0 => decide
    case hs => with_unfolding_all rfl
    case ht => kmk_pure
    case hz => rw [List.size_toArray, List.length_take, sizeLine_eq]; exact Nat.le_trans (Nat.min_le_left _ _) (Nat.le_of_ble_eq_true rfl)
    intro D8 h8 F8 N8 lt8
    try dsimp only
    obtain ⟨zis, hzis⟩ := ints_of (pick_isI (lo := some (j : Int)) (hi := none) (st := some 51) hz9)
    generalize hz7 : (slicePick (vs.take (Int.toNat 60)).toArray (some (j : Int)) none (some 51)).toList = zs at N8 hzis
    walk1
    try dsimp only
    refine sumK (s := { s with heap := h8, toks := tk + 1 + 1 }) rfl F8 N8 (N8.isList (.head _)) hzis fun h7 tk7 t7 F7 N7 => ?_
    try dsimp only
    walk1
    exact hQ _ _ _ _ F7 N7 (Grow.cons (allLt_of lt8) (Grow.cons (allLt_of lt9) .refl)) ⟨_, _, rfl⟩
  · intro D C h tk m' ys news' F5 N5 off5 hlt hn hC₀ hCL off hl hel hg
    refine postE F5 N5 hn hC₀ hCL off fun h6 F6 N6 => ?_
    obtain ⟨is, his⟩ := ints_of hel
    have gg := grow_top (o := LCg.lst ys) hg hlt
    have hc3' := hg.sub _ hc3
    clear F5 N5
    k_steps
    rename Fr _ _ _ _ => F3; rename News _ _ _ _ => N3; rename Obj.data _ = Data.cell (some (Value.ref D)) => d9
    exact hQ _ _ _ _ _ _ ys is F3 N3 (Ext.put gg hc3) (.head _) d9 (.tail _ (carve_in (.head _) (Nat.ne_of_gt (hlt _ hc3)))) his (by rw [← his.length]; exact hl)
end
section
variable {prog : Program} {w : World} {mg mb : Str → Option Value} {dp un : Nat} {gd : Option (List Code)} {outer : List Env} {A₀ : Around} {base h₀ : Heap} {LL fa P d pp dn rd : Nat} {cd : Value} {n0 n : Led} {lc lb lr : Addr} {vk vl : Value} {cis dl : List Int} {ks : List Key} {bs : List Int} {tp : Int} {r0 r1 : Row} {g : Nat → Int → Row} {i : Nat} {f : Int → Row} {s : Shared} {Q : Flow → Shared → Prop} {tn sn c : Int} {t1 t2 t3 : Tok} {u : Str → Option Value}
set_option maxHeartbeats 1000000 in
theorem sl_2 (V : Amb prog w mg mb P dp un outer A₀ base h₀) {o3 o4 : Obj} {cvs : List Value} {vo : Option Value} (hc3 : (LL + 3, o3) ∈ n) (d3 : o3.data = .cell (some (.ref lc))) (hc4 : (LL + 4, o4) ∈ n) (d4 : o4.data = .cell vo) (hlc : (lc, LCg.lst cvs) ∈ n) (hci : IntsAre cvs cis) (hlen : cis.length = 51) {m : Str → Option Value}
    (F : Fr h₀ LL s.heap m) (N : News h₀ LL s.heap n)
    (hQ : ∀ h1 tk1 n' m' o4' c0 t, cis[0]? = some c0 → Fr h₀ LL h1 m' → News h₀ LL h1 n' → Ext (LL + 4) n n' → (LL + 4, o4') ∈ n' → o4'.data = .cell (some (.int (1 + 4 * ((c0.fdiv 6).fmod 2)) t)) → Q .next { s with heap := h1, toks := tk1 }) :
    wpAny (model prog w) (LawA dp un gd LL fa cd outer) (exec (lawS 2) (LawE LL fa cd)) Q NoE s := by
  rw [lawS_eq]
  dsimp only [LawA, LawE]
  conv in (occs := *) nthS lawB 2 => all_goals whnf
  conv in (occs := *) lawScope => all_goals whnf
  obtain ⟨B, X, T, C, M, hdp, hun⟩ := V
  iterate 10 (walk1; (try dsimp only))
  refine item_intM N hlc hci (by decide) (by rw [hlen]; decide) (by rw [hlen]; decide) fun c0 t hc0 => ?_
  try dsimp only
  iterate 7 (first | (walk1; (try dsimp only)) | skip)
  rename Fr _ _ _ _ => F3; rename News _ _ _ _ => N3; rename Obj.data _ = Data.cell (some (Value.int _ _)) => d9
  exact hQ _ _ _ _ _ c0 _ (by simpa using hc0) F3 N3 (Ext.put .refl hc4) (.head _) d9
set_option maxHeartbeats 1000000 in
theorem sl_3 (V : Amb prog w mg mb P dp un outer A₀ base h₀) {o3 o4 : Obj} {cvs : List Value} {c0 st : Int} {t0 : Tok} (hst : st = 1 + 4 * ((c0.fdiv 6).fmod 2)) (h0 : cis[0]? = some c0) (hc3 : (LL + 3, o3) ∈ n) (d3 : o3.data = .cell (some (.ref lc))) (hc4 : (LL + 4, o4) ∈ n) (d4 : o4.data = .cell (some (.int st t0))) (hlc : (lc, LCg.lst cvs) ∈ n) (hci : IntsAre cvs cis) (hlen : cis.length = 51) {m : Str → Option Value}
    (F : Fr h₀ LL s.heap m) (N : News h₀ LL s.heap n)
    (hQ : ∀ h1 tk1 n' u' lk ys, Fr h₀ LL h1 (cf [kv "keys" (.ref lk)] u') → News h₀ LL h1 n' → Grow n n' → (lk, LCg.lst ys) ∈ n' → ys.length = 6 → (∀ (j : Nat) (v : Value), ys[j]? = some v → ∃ q ti td, v = .ref q ∧ (q, tupO [.int ((c0 + (j : Int) * st).fmod 6) ti, .int (((j : Int) + 1) * (1 - 2 * (((c0.fdiv 12).fdiv (2 ^ j)).fmod 2))) td]) ∈ n') → Q .next { s with heap := h1, toks := tk1 }) :
    wpAny (model prog w) (LawA dp un gd LL fa cd outer) (exec (lawS 3) (LawE LL fa cd)) Q NoE s := by
  rw [lawS_eq]
  dsimp only [LawA, LawE]
  conv in (occs := *) nthS lawB 3 => all_goals whnf
  conv in (occs := *) lawScope => all_goals whnf
  obtain ⟨B, X, T, C, M, hdp, hun⟩ := V
  have hst1 : 1 ≤ st ∧ st ≤ 5 := by
    have a := Int.fmod_nonneg_of_pos (c0.fdiv 6) (show (0 : Int) < 2 by decide)
    have b := Int.fmod_lt_of_pos (c0.fdiv 6) (show (0 : Int) < 2 by decide)
    omega
  obtain ⟨hst1, hst5⟩ := hst1
  k_steps
  rename IsRange _ _ _ _ _ _ _ _ => hr
  rename Fr h₀ LL _ _ => F2; rename News h₀ LL _ _ => N2
  refine grow_range (El := fun n j y => ∃ q ti td, y = Value.ref q ∧ (q, tupO [.int ((c0 + (j : Int) * st).fmod 6) ti, .int (((j : Int) + 1) * (1 - 2 * (((c0.fdiv 12).fdiv (2 ^ j)).fmod 2))) td]) ∈ n) (fun n n' j y k h => by obtain ⟨q, a, b, e, m⟩ := h; exact ⟨q, a, b, e, k _ m⟩) rfl (by decide) rfl rfl F2 N2 hr rng6.1 rng6.2 (by rw [sizeLine_eq]; exact Nat.le_of_ble_eq_true rfl) ?_ ?_
  · rintro j t C D oC m₂ own ys news₁ h tk Q E' hj hx hoC F2 N2 g2 hQ
    obtain ⟨Mm, hM, N2⟩ : ∃ Mm, Mm = (own ++ [(C, oC), (D, LCg.lst ys)]) ++ news₁ ∧ News h₀ LL h Mm := ⟨_, rfl, N2⟩
    rw [← hM] at hQ
    have hCM : (C, oC) ∈ Mm := by rw [hM]; exact List.mem_append_left _ (List.mem_append_right _ (.head _))
    have hnM : ∀ p ∈ news₁, p ∈ Mm := by rw [hM]; exact fun p hp => List.mem_append_right _ hp
    clear hM
    have hc3' := hnM _ (g2.sub _ hc3)
    have hc4' := hnM _ (g2.sub _ hc4)
    have hlc' := hnM _ (g2.sub _ hlc)
    iterate 7 (walk1; (try dsimp only))
    refine item_intM (s := { s with heap := h, toks := tk + 1 }) N2 hlc' hci (by decide) (by rw [hlen]; decide) (by rw [hlen]; decide) fun c t9 hc => ?_
    obtain rfl : c = c0 := by
      have := hc.symm.trans (show cis[(0 : Int).toNat]? = some c0 from h0)
      exact Option.some.inj this
    try dsimp only
    iterate 8 (walk1; (try dsimp only))
    iterate 15 (walk1; (try dsimp only))
    refine item_intM (s := { s with heap := h, toks := tk + 1 + 1 + 1 + 1 + 1 + 1 + 1 + 1 + 1 + 1 }) N2 hlc' hci (by decide) (by rw [hlen]; decide) (by rw [hlen]; decide) fun c1 t8 hc1 => ?_
    obtain rfl : c1 = c := by
      have := hc1.symm.trans (show cis[(0 : Int).toNat]? = some c from h0)
      exact Option.some.inj this
    try dsimp only
    iterate 12 (first | (walk1; (try dsimp only)) | skip)
    rw [Int.toNat_natCast]
    iterate 2 (walk1; (try dsimp only))
    rename Fr _ _ _ _ => F9; rename News _ _ _ _ => N9
    rename ∀ p ∈ Mm, _ => q9
    exact hQ _ _ _ _ F9 N9 (Grow.cons (allLt_of q9) .refl) ⟨_, _, _, rfl, List.mem_append_right _ (fresh_mem.mpr ⟨.head _, q9⟩)⟩
  · intro D C h tk m' ys news' F5 N5 off5 hlt hn hC₀ hCL off hl hel hg
    refine postA ?pa F5 N5 hn hC₀ hCL off ?pb ?pc fun h6 tk6 F9 N9 => ?_
    case pa => rfl
    case pb => rfl
    case pc => rfl
    exact hQ _ _ _ _ D ys (fr_know F9 ⟨rfl, trivial⟩) N9 (grow_top hg hlt) (.head _) hl fun j v e => let ⟨q, a, b, e, m⟩ := hel j v e; ⟨q, a, b, e, .tail _ m⟩
set_option maxHeartbeats 1000000 in
theorem sl_4 (V : Amb prog w mg mb P dp un outer A₀ base h₀) {o3 : Obj} {cvs : List Value} {lk : Addr} {ps : Array Value} (hc3 : (LL + 3, o3) ∈ n) (d3 : o3.data = .cell (some (.ref lc))) (hlc : (lc, LCg.lst cvs) ∈ n) (hci : IntsAre cvs cis) (hlen : cis.length = 51) (hkl : KeyL n (.ref lk) ks) (hk : KeysOk ks) (hk8 : ks.length ≤ 8) (hdp' : dp + 45 < recursionLimit) (hun' : un + 350 < cLine)
    (F : Fr h₀ LL s.heap (cf [kv "keys" (.ref lk)] u)) (N : News h₀ LL s.heap ((P, tabObj ps) :: n)) (HP : TriplesOk ps.toList) (HG : AllBare s.gens) (HQ : ∀ p ∈ n, P < p.1)
    (hQ : ∀ h1 tk1 gn1 ps' m', Fr h₀ LL h1 m' → News h₀ LL h1 ((P, tabObj ps') :: n) → AllBare gn1 → Q (.ret (.bool true)) { s with heap := h1, toks := tk1, gens := gn1 }) :
    wpAny (model prog w) (LawA dp un gd LL fa cd outer) (exec (lawS 4) (LawE LL fa cd)) Q NoE s := by
  rw [lawS_eq]
  dsimp only [LawA, LawE]
  conv in (occs := *) nthS lawB 4 => all_goals whnf
  conv in (occs := *) lawScope => all_goals whnf
  obtain ⟨B, X, T, C, M, hdp, hun⟩ := V
  iterate 7 (walk1; (try dsimp only))
  iterate 3 (walk1; (try dsimp only))
  refine law_run_ct (nc := cvs.length) hlc hci hlen hkl hk hk8 _ _ _ _ _ _ _ _ _ _ _ _ _ _ _ _ _ _ B F X N T C M HP HG HQ rfl ?_ ?_ ?_
  · ktr_room
  · omega
  rintro r news' h' tk' gn' ps' F1 N1 HP1 HG1 HQ1 g1 rfl
  exact hQ _ _ _ ps' _ F1 (fun p hp => by
    rcases List.mem_cons.mp hp with rfl | hp
    · exact N1 _ (.head _)
    · exact N1 _ (.tail _ (g1.sub _ hp))) HG1
end
def keyAt (c0 st : Int) (j : Nat) : Key := ((c0 + (j : Int) * st).fmod 6, ((j : Int) + 1) * (1 - 2 * (((c0.fdiv 12).fdiv (2 ^ j)).fmod 2)))
def keysOf (c0 st : Int) : List Key := (List.range 6).map (keyAt c0 st)
theorem keysOf_ok {c0 st : Int} (hst : st = 1 + 4 * ((c0.fdiv 6).fmod 2)) : KeysOk (keysOf c0 st) := by
  constructor
  · intro k hk
    obtain ⟨j, -, rfl⟩ := List.mem_map.mp hk
    have a := Int.fmod_nonneg_of_pos ((c0.fdiv 12).fdiv (2 ^ j)) (show (0 : Int) < 2 by decide)
    have b := Int.fmod_lt_of_pos ((c0.fdiv 12).fdiv (2 ^ j)) (show (0 : Int) < 2 by decide)
    show ((j : Int) + 1) * (1 - 2 * (((c0.fdiv 12).fdiv (2 ^ j)).fmod 2)) ≠ 0
    exact Int.mul_ne_zero (by omega) (by omega)
  · intro i h0 h6
    have a := Int.fmod_nonneg_of_pos (c0.fdiv 6) (show (0 : Int) < 2 by decide)
    have b := Int.fmod_lt_of_pos (c0.fdiv 6) (show (0 : Int) < 2 by decide)
    have hs : st = 1 ∨ st = 5 := by omega
    rcases hs with e | e
    · refine ⟨_, List.mem_map.mpr ⟨((i - c0) % 6).toNat, List.mem_range.mpr (by omega), Prod.ext ?_ rfl⟩⟩
      show (c0 + ((((i - c0) % 6).toNat : Nat) : Int) * st).fmod 6 = i
      rw [e, Int.fmod_eq_emod_of_nonneg _ (by decide)]
      omega
    · refine ⟨_, List.mem_map.mpr ⟨((c0 - i) % 6).toNat, List.mem_range.mpr (by omega), Prod.ext ?_ rfl⟩⟩
      show (c0 + ((((c0 - i) % 6).toNat : Nat) : Int) * st).fmod 6 = i
      rw [e, Int.fmod_eq_emod_of_nonneg _ (by decide)]
      omega
theorem keysIn_of {n : Led} : ∀ {ys : List Value} {ks : List Key}, ys.length = ks.length → (∀ (j : Nat) (v : Value) (k : Key), ys[j]? = some v → ks[j]? = some k → ∃ q ti td, v = .ref q ∧ (q, tupO [.int k.1 ti, .int k.2 td]) ∈ n ∧ 0 ≤ k.1 ∧ k.1 < 6) → KeysIn n ys ks
  | [], [], _, _ => .nil
  | y :: ys, (i, d) :: ks, hl, h => by
    obtain ⟨q, ti, td, rfl, m, a, b⟩ := h 0 y (i, d) rfl rfl
    exact .cons m a b (keysIn_of (by simpa using hl) fun j v k hv hk => h (j + 1) v k hv hk)
section
variable {prog : Program} {w : World} {mg mb : Str → Option Value} {dp un : Nat} {gd : Option (List Code)} {outer : List Env} {A₀ : Around} {base h₀ : Heap} {LL fa P : Nat} {cd : Value} {n : Led} {s : Shared} {Q : Flow → Shared → Prop}
set_option maxHeartbeats 1000000 in
theorem law_body (V : Amb prog w mg mb P dp un outer A₀ base h₀) (hdp' : dp + 45 < recursionLimit) (hun' : un + 350 < cLine) {a : Addr} {vs : List Value} {ns : List Int} (hs : h₀.IsList a vs.toArray) (hns : IntsAre vs ns) (hn63 : ns.length ≤ 63) {o1 o2 o3 o4 : Obj} {ps : Array Value}
    (d1 : o1.data = .cell (some (.ref a))) (d2 : o2.data = .cell none) (d3 : o3.data = .cell none) (d4 : o4.data = .cell none) (hPL : P < LL) (HP : TriplesOk ps.toList) (HG : AllBare s.gens) {m : Str → Option Value}
    (F : Fr h₀ LL s.heap m) (N : News h₀ LL s.heap [(LL + 4, o4), (LL + 3, o3), (LL + 2, o2), (LL + 1, o1), (P, tabObj ps)])
    (hQ : ∀ h1 tk1 gn1 ps' m', Fr h₀ LL h1 m' → News h₀ LL h1 [(P, tabObj ps')] → AllBare gn1 → Q (.ret (.bool true)) { s with heap := h1, toks := tk1, gens := gn1 }) :
    wpAny (model prog w) (LawA dp un gd LL fa cd outer) (execs lawI (LawE LL fa cd)) Q NoE s := by
  rw [lawI_eq, lawB_eq]
  refine seq_cons (sl_0 V (n := [(LL + 4, o4), (LL + 3, o3), (LL + 2, o2), (LL + 1, o1), (P, tabObj ps)]) (.tail _ (.tail _ (.head _))) d2 F N fun h1 tk1 n1 m1 o2' lo ovs ois F1 N1 x1 hc21 d21 hlo hoi hol => ⟨rfl, ?_⟩)
  have hc11 : (LL + 1, o1) ∈ n1 := x1.sub _ (.tail _ (.tail _ (.tail _ (.head _)))) (by show LL + 1 ≠ LL + 2; omega)
  have hc31 : (LL + 3, o3) ∈ n1 := x1.sub _ (.tail _ (.head _)) (by show LL + 3 ≠ LL + 2; omega)
  have hc41 : (LL + 4, o4) ∈ n1 := x1.sub _ (.head _) (by show LL + 4 ≠ LL + 2; omega)
  have hP1 : (P, tabObj ps) ∈ n1 := x1.sub _ (.tail _ (.tail _ (.tail _ (.tail _ (.head _))))) (by show P ≠ LL + 2; omega)
  refine seq_cons (sl_1 V hs hns hn63 hc11 d1 hc21 d21 hc31 d3 hlo hoi hol F1 N1 fun h2 tk2 n2 m2 o3' lc cvs cis F2 N2 x2 hc32 d32 hlc hci hlen => ⟨rfl, ?_⟩)
  have hc42 : (LL + 4, o4) ∈ n2 := x2.sub _ hc41 (by show LL + 4 ≠ LL + 3; omega)
  have hP2 : (P, tabObj ps) ∈ n2 := x2.sub _ hP1 (by show P ≠ LL + 3; omega)
  refine seq_cons (sl_2 V hc32 d32 hc42 d4 hlc hci hlen F2 N2 fun h3 tk3 n3 m3 o4' c0 t hc0 F3 N3 x3 hc43 d43 => ⟨rfl, ?_⟩)
  have hc33 : (LL + 3, o3') ∈ n3 := x3.sub _ hc32 (by show LL + 3 ≠ LL + 4; omega)
  have hP3 : (P, tabObj ps) ∈ n3 := x3.sub _ hP2 (by show P ≠ LL + 4; omega)
  have hlc3 : (lc, LCg.lst cvs) ∈ n3 := x3.sub _ hlc (ne_obj N2 hlc hc42 (Ne.symm (cell_ne_list d4)))
  refine seq_cons (sl_3 V rfl hc0 hc33 d32 hc43 d43 hlc3 hci hlen F3 N3 fun h4 tk4 n4 u4 lk ys F4 N4 g4 hlk hyl hys => ⟨rfl, ?_⟩)
  have hP4 := g4.sub _ hP3
  have hc34 := g4.sub _ hc33
  have hlc4 := g4.sub _ hlc3
  have hlow : ∀ p ∈ n4, P ≤ p.1 := fun p hp => by
    have l0 : ∀ p ∈ [(LL + 4, o4), (LL + 3, o3), (LL + 2, o2), (LL + 1, o1), (P, tabObj ps)], P ≤ p.1 := fun p hp => by
      simp only [List.mem_cons, List.not_mem_nil, or_false] at hp
      rcases hp with rfl | rfl | rfl | rfl | rfl
      · show P ≤ LL + 4; omega
      · show P ≤ LL + 3; omega
      · show P ≤ LL + 2; omega
      · show P ≤ LL + 1; omega
      · exact Nat.le_refl _
    have step : ∀ {c : Addr} {a b : Led}, Ext c a b → (∀ p ∈ a, P ≤ p.1) → ∀ p ∈ b, P ≤ p.1 := fun x h p hp => let ⟨q, hq, e⟩ := x.low p hp; Nat.le_trans (h q hq) e
    have l3 := step x3 (step x2 (step x1 l0))
    rcases g4.new p hp with h | h
    · exact l3 p h
    · exact Nat.le_of_lt (h _ hP3)
  have hk : KeyL n4 (.ref lk) (keysOf c0 (1 + 4 * ((c0.fdiv 6).fmod 2))) := .mk hlk (keysIn_of (by rw [hyl]; rfl) fun j v k hv hkj => by
    obtain ⟨q, ti, td, rfl, m⟩ := hys j v hv
    have hj : j < 6 := by
      have := (List.getElem?_eq_some_iff.mp hv).1
      omega
    have e : k = keyAt c0 (1 + 4 * ((c0.fdiv 6).fmod 2)) j := by
      have : (keysOf c0 (1 + 4 * ((c0.fdiv 6).fmod 2)))[j]? = some (keyAt c0 (1 + 4 * ((c0.fdiv 6).fmod 2)) j) := by
        unfold keysOf
        rw [List.getElem?_map, List.getElem?_range hj]
        rfl
      exact Option.some.inj (hkj.symm.trans this)
    subst e
    exact ⟨q, ti, td, rfl, m, Int.fmod_nonneg_of_pos _ (by decide), Int.fmod_lt_of_pos _ (by decide)⟩)
  have hPn := carve_news N4 hP4
  refine wpAny_execs_cons (sl_4 (n := carve P n4) V (carve_in hc34 (by show LL + 3 ≠ P; omega)) d32 (carve_in hlc4 (ne_obj N4 hlc4 hP4 list_ne_tab)) hci hlen (hk.carveX (prog := prog) (w := w) N4 hP4 cell_tab fun vs k => Ne.symm list_ne_tab) (keysOf_ok rfl) (by unfold keysOf; rw [List.length_map, List.length_range]; decide) hdp' hun' F4 hPn HP HG (fun p hp => Nat.lt_of_le_of_ne (hlow p (carve_sub p hp)) (Ne.symm (carve_off p hp))) fun h5 tk5 gn5 ps5 m5 F5 N5 HG5 => ?_)
  exact hQ _ _ _ ps5 _ F5 (fun p hp => by rw [List.mem_singleton.mp hp]; exact N5 _ (.head _)) HG5
end
end Mine
theorem Mine.lay_17 : True := by
  k_with_none
  trivial
end
section
open PySem PySem.W PySem.Spec PySem.Calls PyProof.Rows
namespace Mine
/-- what the call must leave -/
def Fin9 (s₁ : Shared) (tabs : List (Addr × Addr)) (r : Result) (s' : Shared) : Prop :=
  r = .ok (.ret (.bool true)) ∧ (∀ b o, (ghostOf s₁.heap tabs).get? b = some o → s'.heap.get? b = some o) ∧ s'.os = s₁.os ∧ AllBare s'.gens ∧ GrownAll tabs s'.heap
theorem kn_postG {M : Model} {A : Around} {cd : Code} {s s₁ : Shared} {cw : ClaimW} {cl : Str → Option Addr} {mean : ExcName → Option Value} {args : List WData} {tabs : List (Addr × Addr)} (hT : TabsAt tabs s₁.heap) (hr : ∀ x, cw.raises args x = false) (hp : cw.post args (.bool true) args = true)
    (h : codeAny M A cd (Fin9 s₁ tabs) s) : codeAny M A cd (GoodWG cw cl mean args s₁) s :=
  codeAny_mono h fun r s' ⟨hres, hk, hos, hg, hgr⟩ => by
    have keep : ∀ b o, b ∉ tabs.map (·.2) → s₁.heap.get? b = some o → s'.heap.get? b = some o := fun b o hb e => hk b o (ghost_ne e hb)
    have grown : ∀ b o, b ∈ tabs.map (·.2) → s₁.heap.get? b = some o → isCodeTable s₁.heap b ∧ o = tabObj #[] ∧ ∃ ps, s'.heap.get? b = some (tabObj ps) := fun b o hb e => by
      obtain ⟨q, hq, rfl⟩ := List.mem_map.mp hb
      have e2 := (hT q hq).2
      rw [e] at e2
      exact ⟨((hT q hq).1.tab (hT q hq).2).isCodeTable, Option.some.inj e2, hgr.get q hq⟩
    refine ⟨.inl ⟨.bool true, .bool true, [], hres, hr, .bool true, hp, fun _ => ⟨List.nodup_nil, fun a ha => nomatch ha⟩⟩, ⟨fun b o e => ?_, fun b o e => ?_⟩, hos, hg⟩
    · by_cases hb : b ∈ tabs.map (·.2)
      · obtain ⟨ht, rfl, ps, hP⟩ := grown b o hb e
        exact .inr (.inl ⟨ht, rfl, #[], ps, rfl, by rw [Array.empty_append]; exact hP⟩)
      · exact .inl (keep b o hb e)
    · by_cases hb : b ∈ tabs.map (·.2)
      · obtain ⟨_, _, ps, hP⟩ := grown b o hb e
        exact ⟨_, hP⟩
      · exact ⟨o, keep b o hb e⟩
set_option maxHeartbeats 4000000 in
theorem holds : PySem.Challenge.rw_xc0041_01.Holds := hd (by
  k_fill
  intro w s₀ s₁ mg mb G Y fa o pm cd doc dV kV ho hd hcd hD hmg hg args vals as hpre hlay hrd hwl hlo
  have KX := kIn_of Y
  have X := (Ground.X G).1
  have V := (Ground.X G).2
  refine Ground.open G ?_
  intro T B D TE TW
  try (refine guard_noD D (by decide +kernel) ?_; clear D)
  have hT9 : TabsAt [(55, 51)] _ := List.forall_mem_cons.mpr ⟨tab_of (x := PySem.Str.ofString "add_callers") (c := 55) (P := 51) T KX rfl (by kernel_rfl), fun _ h => nomatch h⟩
  clear hmg
  wrow_args hpre hlay hrd hwl hlo
  all_goals (
    first | refine callC_kw (enter_call ?_) | refine enter_call ?_
    w_top on)
  refine kn_postG hT9 (fun _ => rfl) (by first | (with_unfolding_all rfl) | kernel_rfl) ?_
  w_call any ho hd hcd hD T F
  clear hd
  kn_ghosts F T
  change wpAny _ (LawA _ _ _ _ _ _ _) (execs lawB (LawE _ _ _)) _ _ _
  rw [← lawI_eq]
  clear hcd hD G Y ho
  rename Obj.data _ = _ => e1; revert e1
  rename Obj.data _ = _ => e2; revert e2
  rename Obj.data _ = _ => e3; revert e3
  rename Obj.data _ = _ => e4; revert e4
  intro e4 e3 e2 e1
  have f1 : _ = Data.cell (some (Value.ref _)) := e1
  have f2 : _ = Data.cell none := e2
  have f3 : _ = Data.cell none := e3
  have f4 : _ = Data.cell none := e4
  clear e1 e2 e3 e4
  rename Fr _ _ _ _ => F9; rename News _ _ _ _ => N9; rename CodeHd _ _ _ => C9; rename 51 < _ => l9; rename Below _ _ _ _ => B9; rename Frag.In _ _ => X9; rename Heap.IsList _ _ _ => S9; rename IntsAre _ _ => I9
  rename ¬ _ < _ => h63
  rename PyProof.Rows.Top _ _ _ _ _ _ => T9
  have TR9 : TR mg _ (ghostOf s₁.heap [(55, 51)]) := ⟨T9.g, T9.b, T9.nolimit, T9.builtins, T.free⟩
  have BM9 : BM mg (ghostOf s₁.heap [(55, 51)]) := by
    obtain ⟨bm, ob, a1, a2, a3, a4, r⟩ := T9.bmain
    exact ⟨bm, ob, a1, a2, a3, a4, r⟩
  refine wpAny_mono (law_body ⟨B9, X9, TR9, C9, BM9, ?_, ?_⟩ ?_ ?_ S9 I9 ?_ (ps := #[]) f1 f2 f3 f4 l9 ?_ ?_ F9 N9 fun h1 tk1 gn1 ps' m' F1 N1 HG1 => ?_) (fun _ _ h => h) (fun _ _ h => h.elim)
  · decide
  · decide
  · decide
  · decide
  · omega
  · trivial
  · exact .of_eq hg
  · exact ⟨rfl, fun b o e => F1.keep b o e, rfl, HG1, ⟨⟨ps', (N1 _ (.head _)).1⟩, trivial⟩⟩)
end Mine
end
set_option maxRecDepth 100000 in
theorem PySem.Challenge.cw_xc0041_01_holds : PySem.Challenge.rw_xc0041_01.Holds := by
  exact Mine.holds
