import PyProof.Rows.All
import Wide.All
import OpenK.AllK
import Wide.FinOn
import PySem.Challenge.RW_bg5010_01
open PySem PySem.W PyProof.Rows
set_option Elab.async false
set_option rowWalk.seconds 0
namespace Mine
set_option maxRecDepth 100000 in
set_option maxHeartbeats 8000000 in
open_top hd for PySem.Challenge.rw_bg5010_01
theorem top_off : True := by
  w_top off
  trivial
section
open PySem PySem.W PyProof.Rows
abbrev Led := List (Addr × Obj)
/-- what a def called at f with vs hands on -/
def Con (w : World) (f : Addr) (sz : Nat) (news : Led) (vs : List Value) (Post : Heap → Addr → (Str → Option Value) → Shared → (Value → Shared → Prop) → Prop) : Prop :=
  ∀ (loose : List Str) (mean : ExcName → Option Value) (mg mb : Str → Option Value) (dp un : Nat) (gd : Option (List Code)) (cn : Str) (cs : Scope) (a : Addr) (ccd : Value) (cl : List (Str × Addr)) (outer : List Env) (A₀ : Around) (base h₀ : Heap) (L : Addr) (m : Str → Option Value) (s : Shared) (Q E : Value → Shared → Prop),
    Below A₀ base outer h₀ → Fr h₀ L s.heap m → (hd.heap_39 w.params).In h₀ → News h₀ L s.heap news → Top hd.view_39 loose mean mg mb h₀ → cs.kind = .function →
    dp + sz < recursionLimit → un + 8 * sz + 128 < cLine → Post h₀ L m s Q →
    wpAny (model PySem.Challenge.rw_bg5010_01.row.prog w) (ktrTop dp un gd cn cs L a ccd cl outer) (call (.ref f) vs) Q E s
theorem Con.use {w : World} {f : Addr} {sz : Nat} {news : Led} {vs : List Value} {Post : Heap → Addr → (Str → Option Value) → Shared → (Value → Shared → Prop) → Prop} (C : Con w f sz news vs Post)
    {loose : List Str} {mean : ExcName → Option Value} {mg mb : Str → Option Value} {dp un : Nat} {gd : Option (List Code)} {cn : Str} {cs : Scope} {a : Addr} {ccd : Value} {cl : List (Str × Addr)} {outer : List Env} {A₀ : Around} {base h₀ : Heap} {L : Addr} {m : Str → Option Value} {s : Shared} {Q E : Value → Shared → Prop}
    (B : Below A₀ base outer h₀) (F : Fr h₀ L s.heap m) (X : (hd.heap_39 w.params).In h₀) (N : News h₀ L s.heap news) (T : Top hd.view_39 loose mean mg mb h₀) (hk : cs.kind = .function)
    (hd : dp + sz < recursionLimit) (hu : un + 8 * sz + 128 < cLine) (ret : Post h₀ L m s Q) :
    wpAny (model PySem.Challenge.rw_bg5010_01.row.prog w) (ktrTop dp un gd cn cs L a ccd cl outer) (call (.ref f) vs) Q E s :=
  C loose mean mg mb dp un gd cn cs a ccd cl outer A₀ base h₀ L m s Q E B F X N T hk hd hu ret
theorem bg_room {dp a b : Nat} (h : dp + a < recursionLimit) (hab : b + 1 ≤ a) : dp + 1 + b < recursionLimit := by omega
theorem bg_room0 {dp a : Nat} (h : dp + a < recursionLimit) : dp < recursionLimit := by omega
theorem bg_u64 {un a : Nat} (h : un + 8 * a + 128 < cLine) : un + 3 + 64 < cLine := by omega
theorem bg_units {un a b c : Nat} (h : un + 8 * a + 128 < cLine) (hab : c + 8 * b ≤ 8 * a) : un + c + 8 * b + 128 < cLine := by omega
/-- tuples of four and of two values -/
abbrev T4 (a b c d : Value) : Obj := { cls := .type "tuple", data := .seq [a, b, c, d].toArray 0 }
abbrev T2 (a b : Value) : Obj := { cls := .type "tuple", data := .seq [a, b].toArray 0 }
/-- an int comes back, the ledger as it stood -/
def RetI (news : Led) (i : Int) (h₀ : Heap) (L : Addr) (m : Str → Option Value) (s : Shared) (Q : Value → Shared → Prop) : Prop :=
  ∀ t h' tk', Fr h₀ L h' m → News h₀ L h' news → Q (.int i t) { s with heap := h', toks := tk' }
def RetB (news : Led) (b : Bool) (h₀ : Heap) (L : Addr) (m : Str → Option Value) (s : Shared) (Q : Value → Shared → Prop) : Prop :=
  ∀ h' tk', Fr h₀ L h' m → News h₀ L h' news → Q (.bool b) { s with heap := h', toks := tk' }
def RetV (news : Led) (v : Value) (h₀ : Heap) (L : Addr) (m : Str → Option Value) (s : Shared) (Q : Value → Shared → Prop) : Prop :=
  ∀ h' tk', Fr h₀ L h' m → News h₀ L h' news → Q v { s with heap := h', toks := tk' }
/-- a new tuple of four ints comes back -/
def RetT (news : Led) (x₁ x₂ x₃ x₄ : Int) (h₀ : Heap) (L : Addr) (m : Str → Option Value) (s : Shared) (Q : Value → Shared → Prop) : Prop :=
  ∀ r t₁ t₂ t₃ t₄ h' tk', Fr h₀ L h' m → News h₀ L h' ((r, T4 (.int x₁ t₁) (.int x₂ t₂) (.int x₃ t₃) (.int x₄ t₄)) :: news) → (∀ p ∈ news, p.1 < r) → Q (.ref r) { s with heap := h', toks := tk' }
def RetP (news : Led) (x₁ x₂ : Int) (h₀ : Heap) (L : Addr) (m : Str → Option Value) (s : Shared) (Q : Value → Shared → Prop) : Prop :=
  ∀ r t₁ t₂ h' tk', Fr h₀ L h' m → News h₀ L h' ((r, T2 (.int x₁ t₁) (.int x₂ t₂)) :: news) → (∀ p ∈ news, p.1 < r) → Q (.ref r) { s with heap := h', toks := tk' }
section
variable {h₀ h' : Heap} {L : Addr} {m : Str → Option Value} {news : Led} {s : Shared} {Q : Value → Shared → Prop} {tk' : Nat} {r : Addr} {t₁ t₂ t₃ t₄ : Tok}
theorem drop1 {h : Heap} {a b : Addr × Obj} {l : Led} (N : News h₀ L h (a :: b :: l)) : News h₀ L h (a :: l) := cb_drop N fun p hp => by
  rcases List.mem_cons.mp hp with rfl | hp
  · exact .head _
  · exact .tail _ (.tail _ hp)
theorem drop2 {h : Heap} {a b c : Addr × Obj} {l : Led} (N : News h₀ L h (a :: b :: c :: l)) : News h₀ L h (a :: l) := drop1 (drop1 N)
theorem drop3 {h : Heap} {a b c d : Addr × Obj} {l : Led} (N : News h₀ L h (a :: b :: c :: d :: l)) : News h₀ L h (a :: l) := drop1 (drop2 N)
theorem endI {x y : Int} (hret : RetI news x h₀ L m s Q) (e : y = x) (F : Fr h₀ L h' m) (N : News h₀ L h' news) : Q (.int y t₁) { s with heap := h', toks := tk' } := by
  subst e; exact hret _ _ _ F N
theorem endB {x y : Bool} (hret : RetB news x h₀ L m s Q) (e : y = x) (F : Fr h₀ L h' m) (N : News h₀ L h' news) : Q (.bool y) { s with heap := h', toks := tk' } := by
  subst e; exact hret _ _ F N
theorem endV {v : Value} (hret : RetV news v h₀ L m s Q) (F : Fr h₀ L h' m) (N : News h₀ L h' news) : Q v { s with heap := h', toks := tk' } := hret _ _ F N
theorem endT {x₁ x₂ x₃ x₄ y₁ y₂ y₃ y₄ : Int} (hret : RetT news x₁ x₂ x₃ x₄ h₀ L m s Q) (F : Fr h₀ L h' m) (N : News h₀ L h' ((r, T4 (.int y₁ t₁) (.int y₂ t₂) (.int y₃ t₃) (.int y₄ t₄)) :: news)) (l : ∀ p ∈ news, p.1 < r)
    (e : y₁ = x₁ ∧ y₂ = x₂ ∧ y₃ = x₃ ∧ y₄ = x₄) : Q (.ref r) { s with heap := h', toks := tk' } := by
  obtain ⟨rfl, rfl, rfl, rfl⟩ := e; exact hret _ _ _ _ _ _ _ F N l
theorem endP {x₁ x₂ y₁ y₂ : Int} (hret : RetP news x₁ x₂ h₀ L m s Q) (F : Fr h₀ L h' m) (N : News h₀ L h' ((r, T2 (.int y₁ t₁) (.int y₂ t₂)) :: news)) (l : ∀ p ∈ news, p.1 < r)
    (e : y₁ = x₁ ∧ y₂ = x₂) : Q (.ref r) { s with heap := h', toks := tk' } := by
  obtain ⟨rfl, rfl⟩ := e; exact hret _ _ _ _ _ F N l
end
section
variable {x y : Int} {P Q : Prop}
theorem bg_ine_t (h : x ≠ y) (p : P) : if (x != y) = true then P else Q := by rw [if_pos (by simpa using h)]; exact p
theorem bg_ine_f (h : x = y) (q : Q) : if (x != y) = true then P else Q := by rw [if_neg (by simpa using h)]; exact q
theorem bg_ieq_t (h : x = y) (p : P) : if (x == y) = true then P else Q := by rw [if_pos (by simpa using h)]; exact p
theorem bg_ieq_f (h : x ≠ y) (q : Q) : if (x == y) = true then P else Q := by rw [if_neg (by simpa using h)]; exact q
theorem bg_dec_t {c : Prop} [Decidable c] (h : c) (p : P) : if decide c = true then P else Q := by rw [if_pos (decide_eq_true h)]; exact p
theorem bg_dec_f {c : Prop} [Decidable c] (h : ¬ c) (q : Q) : if decide c = true then P else Q := by rw [if_neg (by simpa using h)]; exact q
end
section
variable {prog : Program} {w : World} {A : Around} {E : Value → Shared → Prop} {s : Shared} {Q : Value → Shared → Prop} {r r₂ : Addr} {x₁ x₂ x₃ x₄ y₁ y₂ y₃ y₄ : Int} {t₁ t₂ t₃ t₄ u₁ u₂ u₃ u₄ : Tok}
theorem readsT (h : s.heap.get? r = some (T4 (.int x₁ t₁) (.int x₂ t₂) (.int x₃ t₃) (.int x₄ t₄))) : ∃ as, Reads s.heap (.ref r) (.tuple [.int x₁, .int x₂, .int x₃, .int x₄]) as :=
  ⟨_, reads_tuple_at h rfl rfl (ReadsAll.cons (Reads.int _ _) (ReadsAll.cons (Reads.int _ _) (ReadsAll.cons (Reads.int _ _) (ReadsAll.cons (Reads.int _ _) ReadsAll.nil))))⟩
theorem eqvT : PyData.eqv (.tuple [.int x₁, .int x₂, .int x₃, .int x₄]) (.tuple [.int y₁, .int y₂, .int y₃, .int y₄]) = decide (x₁ = y₁ ∧ x₂ = y₂ ∧ x₃ = y₃ ∧ x₄ = y₄) := by
  simp only [PyData.eqv, PyData.eqvAll, Bool.and_true, decide_eq_decide, Bool.decide_and]
  rfl
theorem eqT_f (h1 : s.heap.get? r = some (T4 (.int x₁ t₁) (.int x₂ t₂) (.int x₃ t₃) (.int x₄ t₄))) (h2 : s.heap.get? r₂ = some (T4 (.int y₁ u₁) (.int y₂ u₂) (.int y₃ u₃) (.int y₄ u₄)))
    (hu : A.units + 64 < cLine) (hne : ¬ (x₁ = y₁ ∧ x₂ = y₂ ∧ x₃ = y₃ ∧ x₄ = y₄)) (h : Q (.bool false) s) : wpAny (model prog w) A (compareOp .Eq (.ref r) (.ref r₂)) Q E s := by
  obtain ⟨_, r1⟩ := readsT h1
  obtain ⟨_, r2⟩ := readsT h2
  refine eq_dataH r1 r2 rfl rfl hu ?_
  rw [eqvT, decide_eq_false hne]; exact h
theorem eqT_t (h1 : s.heap.get? r = some (T4 (.int x₁ t₁) (.int x₂ t₂) (.int x₃ t₃) (.int x₄ t₄))) (h2 : s.heap.get? r₂ = some (T4 (.int y₁ u₁) (.int y₂ u₂) (.int y₃ u₃) (.int y₄ u₄)))
    (hu : A.units + 64 < cLine) (hne : x₁ = y₁ ∧ x₂ = y₂ ∧ x₃ = y₃ ∧ x₄ = y₄) (h : Q (.bool true) s) : wpAny (model prog w) A (compareOp .Eq (.ref r) (.ref r₂)) Q E s := by
  obtain ⟨_, r1⟩ := readsT h1
  obtain ⟨_, r2⟩ := readsT h2
  refine eq_dataH r1 r2 rfl rfl hu ?_
  rw [eqvT, decide_eq_true hne]; exact h
theorem neT_f (h1 : s.heap.get? r = some (T4 (.int x₁ t₁) (.int x₂ t₂) (.int x₃ t₃) (.int x₄ t₄))) (h2 : s.heap.get? r₂ = some (T4 (.int y₁ u₁) (.int y₂ u₂) (.int y₃ u₃) (.int y₄ u₄)))
    (hu : A.units + 64 < cLine) (hne : x₁ = y₁ ∧ x₂ = y₂ ∧ x₃ = y₃ ∧ x₄ = y₄) (h : Q (.bool false) s) : wpAny (model prog w) A (compareOp .NotEq (.ref r) (.ref r₂)) Q E s := by
  obtain ⟨_, r1⟩ := readsT h1
  obtain ⟨_, r2⟩ := readsT h2
  refine ne_dataH r1 r2 rfl rfl hu ?_
  rw [eqvT, decide_eq_true hne]; exact h
end
theorem divmod_K {prog : Program} {w : World} {A : Around} {E : Value → Shared → Prop} {s : Shared} {Q : Value → Shared → Prop} {h₀ : Heap} {L : Addr} {m : Str → Option Value} {news : List (Addr × Obj)} {a b : Int} {t u : Tok} (F : Fr h₀ L s.heap m) (N : News h₀ L s.heap news) (hb : b ≠ 0)
    (hp : Builtin.divisionGoesByPylong a b = false)
    (h : ∀ D t₁ t₂ h' tk', Fr h₀ L h' m → News h₀ L h' ((D, T2 (.int (a.fdiv b) t₁) (.int (a.fmod b) t₂)) :: news) → (∀ p ∈ news, p.1 < D) → Q (.ref D) { s with heap := h', toks := tk' }) :
    wpAny (model prog w) A (call (.builtin "divmod") [.int a t, .int b u]) Q E s :=
  divmod_N F N hb (fun h' F' N' => h _ _ _ h' _ F' N' fun p hp => Heap.lt_size (N p hp).1) (Or.inl hp)
section
variable {prog : Program} {w : World} {A : Around} {E : Value → Shared → Prop} {s : Shared} {Q : Value → Shared → Prop} {h₀ : Heap} {L : Addr} {m : Str → Option Value} {news : List (Addr × Obj)} {value slice : PySem.Expr} {l b : Addr} {us vs : List Value} {v : Value} {u : Tok} {n n' : Nat}
theorem last_K (N : News h₀ L s.heap news) (hm : (l, listOf vs.toArray n) ∈ news) (he : vs = us ++ [v]) (h : Q v s)
    (hs : subscripted slice false (.ref l) (.int (-1) u) = operate [.ref l, .int (-1) u] (getItem (.ref l) (.int (-1) u))) :
    wpAny (model prog w) A (subscriptTail value slice (.ref l) (.int (-1) u)) Q E s := by
  subst he
  refine kde_neg (vs := us ++ [v]) (j := us.length) (v := v) (News.isList N hm) (by decide) (by decide) ?_ (by simp) h hs
  rw [seqIndex_neg (by decide) (by rw [List.length_append, List.length_singleton]; omega), List.length_append, List.length_singleton]
  congr 1
  omega
theorem first_K (N : News h₀ L s.heap news) (hm : (l, listOf vs.toArray n) ∈ news) (he : vs = v :: us) (h : Q v s)
    (hs : subscripted slice false (.ref l) (.int 0 u) = operate [.ref l, .int 0 u] (getItem (.ref l) (.int 0 u))) :
    wpAny (model prog w) A (subscriptTail value slice (.ref l) (.int 0 u)) Q E s := by
  subst he
  exact tail_any (News.isList N hm).typeIs slot_list_getitem.lookup (wpAny_getItem_list (x := v) (News.isList N hm) (by decide) (by decide) (by simp) h) hs
theorem from1_K (F : Fr h₀ L s.heap m) (N : News h₀ L s.heap news) (hm : (l, listOf vs.toArray n) ∈ news) (he : vs = v :: us) (hz : us.length + 1 ≤ sizeLine)
    (h : ∀ D h', Fr h₀ L h' m → News h₀ L h' ((D, listOf us.toArray 0) :: news) → (∀ p ∈ news, p.1 < D) → Q (.ref D) { s with heap := h' })
    (hs : subscripted slice false (.ref l) (.ref s.heap.objs.size) = operate [.ref s.heap.objs.size, .ref l] (getItem (.ref l) (.ref s.heap.objs.size))) (ht : ∀ r, letTemporaryGo value (.ref l) r = pure ()) :
    wpAny (model prog w) A (subscriptTail value slice (.ref l) (.ref s.heap.objs.size)) Q E { s with heap := s.heap.push { cls := .type "slice", data := .fields #[.int 1 u, .none, .none] } } := by
  subst he
  refine kmk_slice_lit (lo := some 1) (hi := none) F N (News.isList N hm) (IsPart.int _ _) .none ?_ h hs ht (by rw [List.size_toArray]; simpa using hz)
  rw [kmk_pick_nat (a := 1) (b := us.length + 1) _ (by simp [sliceBounds]; omega)]
  simp
theorem addL_K (F : Fr h₀ L s.heap m) (N : News h₀ L s.heap news) (ha : (l, listOf us.toArray n) ∈ news) (hb : (b, listOf vs.toArray n') ∈ news) (hz : us.length + vs.length ≤ sizeLine)
    (h : ∀ D h', Fr h₀ L h' m → News h₀ L h' ((D, listOf (us ++ vs).toArray 0) :: news) → (∀ p ∈ news, p.1 < D) → Q (.ref D) { s with heap := h' }) :
    wpAny (model prog w) A (binaryOp .Add (.ref l) (.ref b)) Q E s :=
  add_lists F N (News.isList N ha) (News.isList N hb) (fun h' F' N' => h _ h' F' N' fun p hp => Heap.lt_size (N p hp).1) hz
end
theorem AllObj.mono' {k k' : List (Addr × Obj) → Prop} (h : ∀ its, k its → k' its) : ∀ {ws : List (Addr × String)}, AllObj ws k → AllObj ws k'
  | [], x => h _ x
  | _ :: _, x => fun o ho => AllObj.mono' (fun its q => h _ q) (x o ho)
section
variable {prog : Program} {w : World} {A : Around} {E : Value → Shared → Prop} {s : Shared} {env : Env} {h₀ : Heap} {target : PySem.Expr} {body : List Stmt} {Q : Flow → Shared → Prop} {ws : List (Addr × String)} {keep : List (Addr × Obj)}
/-- a loop over a made list by an invariant over what is left -/
theorem items_ind (J : List Itm → (Str → Option Value) → List (Addr × Obj) → Prop)
    (step : ∀ a r m news, J (a :: r) m news → ∀ v h tk, a.Is v h → Fr h₀ env.locals h m → AllObj ws (fun its => News h₀ env.locals h (its ++ news) →
      wpAny (model prog w) A (assign target env v) (fun _ s₂ => wpAny (model prog w) A (execs body env) (UnrPostW h₀ env.locals { s with heap := h, toks := tk } its (fun m' n' => SubL keep n' ∧ J r m' n') Q) E s₂) E { s with heap := h, toks := tk }))
    (done : ∀ m news h tk, J [] m news → Fr h₀ env.locals h m → News h₀ env.locals h news → Q .next { s with heap := h, toks := tk }) :
    ∀ (xs : List Itm) (m : Str → Option Value) (news : List (Addr × Obj)), J xs m news → ItemsRest prog w A E h₀ env target body Q s ws keep xs m news
  | [], m, news, hJ => fun h tk F N => done m news h tk hJ F N
  | a :: r, m, news, hJ => fun v h tk hv F => AllObj.mono' (fun its q N => wpAny_mono (q N) (fun _ s₂ q₂ => wpAny_mono q₂ (fun f s₃ q₃ => by
      cases f with
      | ret v => exact q₃
      | brk => exact q₃
      | next =>
        obtain ⟨h', tk', m', news', e, F', N', off, hk, hJ'⟩ := q₃
        exact ⟨h', tk', m', news', e, F', N', off, hk, items_ind J step done r m' news' hJ'⟩
      | cont =>
        obtain ⟨h', tk', m', news', e, F', N', off, hk, hJ'⟩ := q₃
        exact ⟨h', tk', m', news', e, F', N', off, hk, items_ind J step done r m' news' hJ'⟩) fun _ _ e => e) fun _ _ e => e) (step a r m news hJ v h tk hv F)
end
theorem subL_of {all : List (Addr × Obj)} : ∀ {l : List (Addr × Obj)}, (∀ p ∈ l, p ∈ all) → SubL l all
  | [], _ => trivial
  | p :: _, h => ⟨h p (.head _), subL_of fun q hq => h q (.tail _ hq)⟩
def FixEnd (h₀ : Heap) (L : Addr) (s₁ : Shared) (its K0 : List (Addr × Obj)) (J : (Str → Option Value) → Prop) (s₂ : Shared) : Prop :=
  ∃ h' tk m' all, s₂ = { s₁ with heap := h', toks := tk } ∧ Fr h₀ L h' m' ∧ News h₀ L h' all ∧ (∀ p ∈ its ++ K0, p ∈ all) ∧ J m'
def FixPost (h₀ : Heap) (L : Addr) (s₁ : Shared) (its K0 : List (Addr × Obj)) (J : (Str → Option Value) → Prop) (Q : Flow → Shared → Prop) (f : Flow) (s₂ : Shared) : Prop :=
  match f with
  | .ret v => Q (.ret v) s₂
  | .brk => Q .next s₂
  | _ => FixEnd h₀ L s₁ its K0 J s₂
section
variable {prog : Program} {w : World} {A : Around} {E : Value → Shared → Prop} {s : Shared} {env : Env} {h₀ : Heap} {target : PySem.Expr} {body : List Stmt} {Q : Flow → Shared → Prop} {ws : List (Addr × String)} {keep K0 : List (Addr × Obj)}
theorem AllObj.monoW {k k' : List (Addr × Obj) → Prop} : ∀ {ws : List (Addr × String)}, (∀ its, its.map (·.1) = ws.map (·.1) → k its → k' its) → AllObj ws k → AllObj ws k'
  | [], h, x => h [] rfl x
  | w :: _, h, x => fun o ho => AllObj.monoW (fun its e q => h ((w.1, o) :: its) (by simp [e]) q) (x o ho)
theorem items_fix (I : Addr) (hK : ∀ p ∈ K0, p.1 < I) (hws : ∀ w ∈ ws.map (·.1), I ≤ w) (hkeep : ∀ p ∈ keep, p ∈ K0) (J : List Itm → (Str → Option Value) → Prop)
    (step : ∀ a r m, J (a :: r) m → ∀ v h tk, a.Is v h → Fr h₀ env.locals h m → AllObj ws (fun its => News h₀ env.locals h (its ++ K0) →
      wpAny (model prog w) A (assign target env v) (fun _ s₂ => wpAny (model prog w) A (execs body env) (FixPost h₀ env.locals { s with heap := h, toks := tk } its K0 (J r) Q) E s₂) E { s with heap := h, toks := tk }))
    (done : ∀ m h tk, J [] m → Fr h₀ env.locals h m → News h₀ env.locals h K0 → Q .next { s with heap := h, toks := tk }) :
    ∀ (xs : List Itm) (m : Str → Option Value), J xs m → ItemsRest prog w A E h₀ env target body Q s ws keep xs m K0
  | [], m, hJ => fun h tk F N => done m h tk hJ F N
  | a :: r, m, hJ => fun v h tk hv F => AllObj.monoW (fun its e q N => wpAny_mono (q N) (fun _ s₂ q₂ => wpAny_mono q₂ (fun f s₃ q₃ => by
      have go : FixEnd h₀ env.locals { s with heap := h, toks := tk } its K0 (J r) s₃ → UnrEndW h₀ env.locals { s with heap := h, toks := tk } its (fun m' n' => SubL keep n' ∧ ItemsRest prog w A E h₀ env target body Q s ws keep r m' n') s₃ := by
        rintro ⟨h', tk', m', all, e', F', N', hs, hJ'⟩
        refine ⟨h', tk', m', K0, e', F', fun p hp => N' p (hs p hp), fun p hp q hq ee => ?_, subL_of hkeep, items_fix I hK hws hkeep J step done r m' hJ'⟩
        have h1 := hK p hp
        have h2 := hws q.1 (by rw [← e]; exact List.mem_map.mpr ⟨q, hq, rfl⟩)
        rw [ee] at h1
        exact absurd (Nat.lt_of_lt_of_le h1 h2) (Nat.lt_irrefl _)
      cases f with
      | ret v => exact q₃
      | brk => exact q₃
      | next => exact go q₃
      | cont => exact go q₃) fun _ _ e => e) fun _ _ e => e) (step a r m hJ v h tk hv F)
end
/-- a list of pairs of ints, each a tuple of the ledger -/
inductive RowsAre (led : Led) : List Value → List (Int × Int) → Prop
  | nil : RowsAre led [] []
  | snoc {us : List Value} {rs : List (Int × Int)} {a : Addr} {x y : Int} {t u : Tok} : RowsAre led us rs → (a, T2 (.int x t) (.int y u)) ∈ led → RowsAre led (us ++ [.ref a]) (rs ++ [(x, y)])
theorem RowsAre.mono {led led' : Led} {us : List Value} {rs : List (Int × Int)} (h : RowsAre led us rs) (hs : ∀ p ∈ led, p ∈ led') : RowsAre led' us rs := by
  induction h with
  | nil => exact .nil
  | snoc _ hm ih => exact .snoc ih (hs _ hm)
theorem RowsAre.length {led : Led} {us : List Value} {rs : List (Int × Int)} (h : RowsAre led us rs) : us.length = rs.length := by
  induction h with
  | nil => rfl
  | snoc _ _ ih => simp [ih]
theorem news_turn {h₀ h : Heap} {L : Addr} {t i r : Addr × Obj} {tl : Led} (N : News h₀ L h (t :: i :: r :: tl)) : News h₀ L h (i :: r :: t :: tl) := fun p hp => N p (by
  rcases List.mem_cons.mp hp with rfl | hp
  · exact .tail _ (.head _)
  rcases List.mem_cons.mp hp with rfl | hp
  · exact .tail _ (.tail _ (.head _))
  rcases List.mem_cons.mp hp with rfl | hp
  · exact .head _
  · exact .tail _ (.tail _ (.tail _ hp)))
/-- a tuple of the ledger, or the package's nought -/
def TupV (news : Led) (v : Value) (sg M e b : Int) : Prop :=
  (M ≠ 0 ∧ ∃ r t₁ t₂ t₃ t₄, v = .ref r ∧ (r, T4 (.int sg t₁) (.int M t₂) (.int e t₃) (.int b t₄)) ∈ news) ∨ (M = 0 ∧ v = .ref 85)
theorem TupV.mono {news news' : Led} {v : Value} {sg M e b : Int} (h : TupV news v sg M e b) (hs : ∀ p ∈ news, p ∈ news') : TupV news' v sg M e b := by
  rcases h with ⟨hm, r, t₁, t₂, t₃, t₄, hv, hr⟩ | h
  · exact .inl ⟨hm, r, t₁, t₂, t₃, t₄, hv, hs _ hr⟩
  · exact .inr h
def RetTV (news : Led) (sg M e b : Int) (h₀ : Heap) (L : Addr) (m : Str → Option Value) (s : Shared) (Q : Value → Shared → Prop) : Prop :=
  ∀ v tl h' tk', Fr h₀ L h' m → News h₀ L h' (tl ++ news) → TupV (tl ++ news) v sg M e b → Q v { s with heap := h', toks := tk' }
def RetSub (news : Led) (D em : Int) (h₀ : Heap) (L : Addr) (m : Str → Option Value) (s : Shared) (Q : Value → Shared → Prop) : Prop :=
  ∀ v tl h' tk' sg M e b, Fr h₀ L h' m → News h₀ L h' (tl ++ news) → TupV (tl ++ news) v sg M e b → (M ≠ 0 → D ≠ 0 ∧ 0 < M ∧ 1 ≤ b ∧ b + e = (Builtin.Int.intBits D : Int) + em) → Q v { s with heap := h', toks := tk' }
/-- a pair of a new tuple of four and an int -/
def RetFx (news : Led) (x₁ x₂ x₃ x₄ k : Int) (h₀ : Heap) (L : Addr) (m : Str → Option Value) (s : Shared) (Q : Value → Shared → Prop) : Prop :=
  ∀ r r₂ t₁ t₂ t₃ t₄ t₅ h' tk', Fr h₀ L h' m → News h₀ L h' ((r₂, T2 (.ref r) (.int k t₅)) :: (r, T4 (.int x₁ t₁) (.int x₂ t₂) (.int x₃ t₃) (.int x₄ t₄)) :: news) → (∀ p ∈ news, p.1 < r) → r < r₂ → Q (.ref r₂) { s with heap := h', toks := tk' }
/-- a new list of ints of which P holds -/
def RetL (news : Led) (P : List Int → Prop) (h₀ : Heap) (L : Addr) (m : Str → Option Value) (s : Shared) (Q : Value → Shared → Prop) : Prop :=
  ∀ a vs xs h' tk', Fr h₀ L h' m → News h₀ L h' ((a, listOf (List.toArray vs) 0) :: news) → (∀ p ∈ news, p.1 < a) → IntsAre vs xs → P xs → Q (.ref a) { s with heap := h', toks := tk' }
/-- what giant_steps hands on, taken apart -/
def RetG (news : Led) (tg : Int) (P : Int → List Int → Prop) (h₀ : Heap) (L : Addr) (m : Str → Option Value) (s : Shared) (Q : Value → Shared → Prop) : Prop :=
  ∀ a vs y t₀ rest r us t₉ h' tk', Fr h₀ L h' m → News h₀ L h' ((a, listOf (List.toArray vs) 0) :: news) → (∀ p ∈ news, p.1 < a) → vs = .int y t₀ :: rest → vs = us ++ [.int tg t₉] → IntsAre rest r → P y r → rest.length ≤ 400 → Q (.ref a) { s with heap := h', toks := tk' }
/-- a new list of pairs of which P holds; what stood stands -/
def RetR (news : Led) (P : List (Int × Int) → Prop) (h₀ : Heap) (L : Addr) (m : Str → Option Value) (s : Shared) (Q : Value → Shared → Prop) : Prop :=
  ∀ R us rs ep tl h' tk', Fr h₀ L h' m → News h₀ L h' ((R, listOf (List.toArray us) ep) :: tl) → (∀ p ∈ news, p ∈ tl) → RowsAre tl us rs → P rs → Q (.ref R) { s with heap := h', toks := tk' }
theorem Con.weaken {w : World} {f : Addr} {sz : Nat} {news : Led} {vs : List Value} {Post Post' : Heap → Addr → (Str → Option Value) → Shared → (Value → Shared → Prop) → Prop} (C : Con w f sz news vs Post)
    (k : ∀ h₀ L m s Q, Post' h₀ L m s Q → Post h₀ L m s Q) : Con w f sz news vs Post' := by
  intro loose mean mg mb dp un gd cn cs a ccd cl outer A₀ base h₀ L m s Q E B F X N T hk hdp hu hret
  exact C loose mean mg mb dp un gd cn cs a ccd cl outer A₀ base h₀ L m s Q E B F X N T hk hdp hu (k _ _ _ _ _ hret)
theorem bgfix {h₀ h : Heap} {L : Addr} {m : Str → Option Value} (F : Fr h₀ L h m) (l : List (Str × Value)) (e : ∀ p ∈ l, m p.1 = some p.2) : Fr h₀ L h (fun z => match l.lookup z with | some v => some v | none => m z) := by
  have e' : (fun z => match l.lookup z with | some v => some v | none => m z) = m := by
    funext z
    show (match l.lookup z with | some v => some v | none => m z) = m z
    cases hl : l.lookup z with
    | none => rfl
    | some v =>
      have : (z, v) ∈ l := by
        clear e F
        induction l with
        | nil => cases hl
        | cons p r ih =>
          rw [List.lookup_cons] at hl
          split at hl
          · rename_i hb
            cases hl
            have hb' := eq_of_beq hb
            subst hb'
            exact List.mem_cons_self ..
          · exact List.mem_cons_of_mem _ (ih hl)
      exact (e _ this).symm
  rw [e']; exact F
/-- one ledger within another -/
def SubOf (a b : Led) : Prop := ∀ p ∈ a, p ∈ b
theorem SubOf.mem {a b : Led} (h : SubOf a b) {p : Addr × Obj} (hp : p ∈ a) : p ∈ b := h p hp
/-- a new tuple of four, without its place -/
def RetD (news : Led) (x₁ x₂ x₃ x₄ : Int) (h₀ : Heap) (L : Addr) (m : Str → Option Value) (s : Shared) (Q : Value → Shared → Prop) : Prop :=
  ∀ r t₁ t₂ t₃ t₄ h' tk', Fr h₀ L h' m → News h₀ L h' ((r, T4 (.int x₁ t₁) (.int x₂ t₂) (.int x₃ t₃) (.int x₄ t₄)) :: news) → Q (.ref r) { s with heap := h', toks := tk' }
/-- a tuple or the package's nought, in a wider ledger -/
def RetW (news : Led) (P : Value → Led → Prop) (h₀ : Heap) (L : Addr) (m : Str → Option Value) (s : Shared) (Q : Value → Shared → Prop) : Prop :=
  ∀ v nw h' tk', Fr h₀ L h' m → News h₀ L h' nw → SubOf news nw → P v nw → Q v { s with heap := h', toks := tk' }
end
section
open PySem PySem.W PyProof.Rows
theorem fdiv_pos_eq {a b : Int} (h : 0 < b) : a.fdiv b = a / b := Int.fdiv_eq_ediv_of_nonneg _ (Int.le_of_lt h)
theorem le_div_of {a b c : Int} (h : 0 < c) (hh : a * c ≤ b) : a ≤ b / c := (Int.le_ediv_iff_mul_le h).mpr hh
theorem lt_of_div {a b c : Int} (h : 0 < c) (hh : b < a * c) : b / c < a := (Int.ediv_lt_iff_lt_mul h).mpr hh
theorem isq_low {x r y : Int} (hr : 0 < r) (hx : y * y ≤ x) : y ≤ (r + x.fdiv r).fdiv 2 := by
  rw [fdiv_pos_eq hr, fdiv_pos_eq (by decide)]
  have h1 : 2 * y - r ≤ x / r := by
    refine le_div_of hr ?_
    have h2 : 0 ≤ (r - y) * (r - y) := by
      rcases Int.le_total 0 (r - y) with h | h
      · exact Int.mul_nonneg h h
      · exact Int.mul_nonneg_of_nonpos_of_nonpos h h
    have h3 : (r - y) * (r - y) = r * r - 2 * (r * y) + y * y := by grind
    have h4 : (2 * y - r) * r = 2 * (r * y) - r * r := by grind
    omega
  omega
theorem isq_stop {x r y : Int} (hr : 0 < r) (hy : 0 ≤ y) (hx : x < (y + 1) * (y + 1)) (hs : r ≤ (r + x.fdiv r).fdiv 2) : r ≤ y := by
  rw [fdiv_pos_eq hr, fdiv_pos_eq (by decide)] at hs
  refine Int.not_lt.mp fun h => ?_
  have h1 : x / r < r := by
    refine lt_of_div hr ?_
    have h2 : (y + 1) * (y + 1) ≤ r * r := Int.mul_le_mul (by omega) (by omega) (by omega) (by omega)
    omega
  omega
theorem isq_start {x y : Int} (hx0 : 0 < x) (hy : 0 ≤ y) (hx : y * y ≤ x) : y ≤ 2 ^ (((Builtin.Int.intBits x : Int) + 1).fdiv 2).toNat := by
  have hb : x.natAbs < 2 ^ Builtin.Int.intBits x := PyProof.Rows.natAbs_lt_pow_bits x
  generalize Builtin.Int.intBits x = n at hb ⊢
  rw [fdiv_pos_eq (by decide)]
  have hk : n ≤ ((((n : Int) + 1) / 2).toNat) + ((((n : Int) + 1) / 2).toNat) := by omega
  generalize ((((n : Int) + 1) / 2).toNat) = k at hk ⊢
  refine Int.not_lt.mp fun h => ?_
  have h1 : (2:Nat) ^ n ≤ 2 ^ k * 2 ^ k := by rw [← Nat.pow_add]; exact Nat.pow_le_pow_right (by decide) hk
  have h2 : ((2:Int) ^ k) * 2 ^ k < y * y := by
    have h0 : (0:Int) < 2 ^ k := Int.pow_pos (by decide)
    exact Int.mul_lt_mul h (Int.le_of_lt h) h0 hy
  have h3 : ((2 ^ k * 2 ^ k : Nat) : Int) = (2:Int) ^ k * 2 ^ k := by push_cast; rfl
  omega
theorem log2_lt_of_le {r : Int} {k n : Nat} (h : r.natAbs ≤ 2 ^ k) (hk : k + 1 ≤ n) : r.natAbs.log2 < n := by
  rcases Nat.eq_zero_or_pos r.natAbs with h0 | h0
  · rw [h0]; show Nat.log2 0 < n; simp; omega
  · refine (Nat.log2_lt (Nat.ne_of_gt h0)).mpr (Nat.lt_of_le_of_lt h ?_)
    exact Nat.pow_lt_pow_right (by decide) hk
theorem noPy {x r : Int} {k : Nat} (h : r.natAbs ≤ 2 ^ k) (hk : k < 9000) : Builtin.divisionGoesByPylong x r = false :=
  PyProof.noPylong_of_log2 (log2_lt_of_le h hk)
theorem natAbs_two_pow (k : Nat) : ((2:Int) ^ k).natAbs = 2 ^ k := by rw [Int.natAbs_pow]; rfl
theorem bits_shl (x : Int) (k : Nat) : Builtin.Int.intBits (x * 2 ^ k) ≤ Builtin.Int.intBits x + k := by
  refine intBits_le ?_
  rw [Int.natAbs_mul, natAbs_two_pow, Nat.pow_add]
  exact (Nat.mul_lt_mul_right (Nat.two_pow_pos k)).mpr (natAbs_lt_pow_bits x)
theorem bits_pow (k : Nat) : Builtin.Int.intBits ((2:Int) ^ k) ≤ k + 1 := by
  refine intBits_le ?_
  rw [natAbs_two_pow]
  exact Nat.pow_lt_pow_right (by decide) (Nat.lt_succ_self k)
theorem sq_le_self {y x : Int} (hy : 0 ≤ y) (hl : y * y ≤ x) : y ≤ x := by
  rcases (show y = 0 ∨ 1 ≤ y by omega) with h | h
  · subst h; omega
  · have := Int.mul_le_mul_of_nonneg_right h hy
    omega
theorem bits_le_of {y x : Int} (hy : 0 ≤ y) (hl : y ≤ x) : Builtin.Int.intBits y ≤ Builtin.Int.intBits x := bits_of_natAbs_le (by omega) (Nat.le_refl _)
end
section
open PySem PySem.W PyProof.Rows
/-- how many times two goes in -/
def tzN : Nat → Nat → Nat
  | 0, _ => 0
  | k + 1, n => if n % 2 = 1 then 0 else tzN k (n / 2) + 1
theorem tzN_spec : ∀ (k n : Nat), 0 < n → n < 2 ^ k → ∃ o, n = o * 2 ^ tzN k n ∧ o % 2 = 1 := by
  intro k
  induction k with
  | zero => intro n h0 h1; omega
  | succ k ih =>
    intro n h0 h1
    unfold tzN
    by_cases h : n % 2 = 1
    · rw [if_pos h]; exact ⟨n, by omega, h⟩
    · rw [if_neg h]
      obtain ⟨o, e, ho⟩ := ih (n / 2) (by omega) (by rw [Nat.pow_succ] at h1; omega)
      refine ⟨o, ?_, ho⟩
      rw [Nat.pow_succ, ← Nat.mul_assoc, ← e]
      omega
/-- trailing zeros of a positive int -/
def tz (x : Int) : Nat := tzN (Builtin.Int.intBits x) x.toNat
/-- the odd part -/
def od (x : Int) : Int := x / 2 ^ tz x
theorem od_spec {x : Int} (h : 0 < x) : x = od x * 2 ^ tz x ∧ od x % 2 = 1 ∧ 0 < od x := by
  have hb := natAbs_lt_pow_bits x
  obtain ⟨o, e, ho⟩ := tzN_spec (Builtin.Int.intBits x) x.toNat (by omega) (by omega)
  have hp : (0:Int) < 2 ^ tz x := Int.pow_pos (by decide)
  have e1 : x = (o : Int) * 2 ^ tz x := by
    have : (x.toNat : Int) = ((o * 2 ^ tzN (Builtin.Int.intBits x) x.toNat : Nat) : Int) := congrArg _ e
    push_cast at this
    rw [Int.toNat_of_nonneg (by omega)] at this
    exact this
  have e2 : od x = o := by
    unfold od
    rw [show x / 2 ^ tz x = ((o : Int) * 2 ^ tz x) / 2 ^ tz x from congrArg (· / 2 ^ tz x) e1]
    exact Int.mul_ediv_cancel _ (Int.ne_of_gt hp)
  refine ⟨by rw [e2]; exact e1, by rw [e2]; omega, ?_⟩
  rw [e2]; omega
theorem tz_unique {x o : Int} {k : Nat} (e : x = o * 2 ^ k) (ho : o % 2 = 1) (h : 0 < x) : k = tz x ∧ o = od x := by
  obtain ⟨e1, h1, h2⟩ := od_spec h
  have key : ∀ (i j : Nat) (a b : Int), a % 2 = 1 → b % 2 = 1 → a * 2 ^ i = b * 2 ^ j → i ≤ j → i = j := by
    intro i j a b ha hb he hij
    obtain ⟨d, rfl⟩ := Nat.exists_eq_add_of_le hij
    rw [Int.pow_add, ← Int.mul_assoc, Int.mul_right_comm] at he
    have hp : (2:Int) ^ i ≠ 0 := Int.ne_of_gt (Int.pow_pos (by decide))
    have he' := Int.eq_of_mul_eq_mul_right hp he
    cases d with
    | zero => rfl
    | succ d => rw [Int.pow_succ, ← Int.mul_assoc] at he'; omega
  have hk : k = tz x := by
    rcases Nat.le_total k (tz x) with q | q
    · exact key _ _ _ _ ho h1 (e.symm.trans e1) q
    · exact (key _ _ _ _ h1 ho (e1.symm.trans e) q).symm
  refine ⟨hk, ?_⟩
  subst hk
  exact Int.eq_of_mul_eq_mul_right (Int.ne_of_gt (Int.pow_pos (by decide))) (e.symm.trans e1)
theorem fdiv_pow (a : Int) (k : Nat) : a.fdiv (2 ^ k) = a / 2 ^ k := fdiv_pos_eq (Int.pow_pos (by decide))
/-- n & -n -/
theorem land_pred : ∀ (k n : Nat), 0 < n → n < 2 ^ k → n - (n &&& (n - 1)) = 2 ^ tzN k n := by
  intro k
  induction k with
  | zero => intro n h0 h1; omega
  | succ k ih =>
    intro n h0 h1
    unfold tzN
    have hd : ∀ a b : Nat, (a &&& b) = 2 * (a / 2 &&& b / 2) + (a % 2) * (b % 2) := by
      intro a b
      have h2 : (a &&& b) / 2 = a / 2 &&& b / 2 := Nat.and_div_two
      have h3 : (a &&& b) % 2 = (a % 2) * (b % 2) := by
        rw [← Nat.and_one_is_mod (a &&& b), Nat.and_assoc, Nat.and_one_is_mod b]
        rcases Nat.mod_two_eq_zero_or_one b with q | q <;> rw [q]
        · simp
        · rw [Nat.and_one_is_mod]; omega
      omega
    by_cases h : n % 2 = 1
    · rw [if_pos h]
      have e := hd n (n - 1)
      have e1 : (n - 1) / 2 = n / 2 := by omega
      have e2 : (n - 1) % 2 = 0 := by omega
      rw [e1, e2, Nat.and_self] at e
      omega
    · rw [if_neg h]
      have e := hd n (n - 1)
      have e1 : (n - 1) / 2 = n / 2 - 1 := by omega
      have e2 : n % 2 = 0 := by omega
      rw [e1, e2] at e
      have := ih (n / 2) (by omega) (by rw [Nat.pow_succ] at h1; omega)
      have hle : (n / 2 &&& (n / 2 - 1)) ≤ n / 2 := Nat.and_le_left
      rw [Nat.pow_succ, ← this]
      omega
theorem intBits_two_pow (k : Nat) : Builtin.Int.intBits ((2:Int) ^ k) = k + 1 := by
  unfold Builtin.Int.intBits
  have hp : (2:Int) ^ k ≠ 0 := Int.ne_of_gt (Int.pow_pos (by decide))
  rw [if_neg (by simpa using hp), natAbs_two_pow, Nat.log2_two_pow]
theorem trail_eq {n : Int} (h : 0 < n) : (Builtin.Int.intBits (Builtin.bitAnd n (-n)) : Int) - 1 = tz n := by
  have hb := natAbs_lt_pow_bits n
  have e : Builtin.bitAnd n (-n) = 2 ^ tz n := by
    unfold Builtin.bitAnd
    rw [decide_eq_true (show (0:Int) ≤ n by omega), decide_eq_false (show ¬ (0:Int) ≤ -n by omega)]
    show n - ((n.toNat &&& (Builtin.bitNot (-n)).toNat : Nat) : Int) = 2 ^ tz n
    have e0 : (Builtin.bitNot (-n)).toNat = n.toNat - 1 := by unfold Builtin.bitNot; omega
    rw [e0]
    have q := land_pred (Builtin.Int.intBits n) n.toNat (by omega) (by omega)
    have hle : (n.toNat &&& (n.toNat - 1)) ≤ n.toNat := Nat.and_le_left
    have : ((2 ^ tz n : Nat) : Int) = (2:Int) ^ tz n := by push_cast; rfl
    unfold tz at this ⊢
    omega
  rw [e, intBits_two_pow]; push_cast; omega
theorem band_one {x : Int} (h : 0 ≤ x) : Builtin.bitAnd x 1 = x % 2 := by
  unfold Builtin.bitAnd
  rw [decide_eq_true h, decide_eq_true (show (0:Int) ≤ 1 by decide)]
  show ((x.toNat &&& 1 : Nat) : Int) = _
  rw [Nat.and_one_is_mod]; omega
theorem band_two {x : Int} (h : 0 ≤ x) : Builtin.bitAnd x 2 = 2 * (x / 2 % 2) := by
  unfold Builtin.bitAnd
  rw [decide_eq_true h, decide_eq_true (show (0:Int) ≤ 2 by decide)]
  show ((x.toNat &&& 2 : Nat) : Int) = _
  have h2 : (x.toNat &&& 2) / 2 = x.toNat / 2 &&& 1 := Nat.and_div_two
  have h3 : (x.toNat &&& 2) % 2 = 0 := by
    rw [← Nat.and_one_is_mod (x.toNat &&& 2), Nat.and_assoc]; simp
  rw [Nat.and_one_is_mod] at h2
  omega
theorem band_mask {x : Int} (h : 0 ≤ x) (k : Nat) : Builtin.bitAnd x (2 ^ k - 1) = x % 2 ^ k := by
  have hp : (0:Int) < 2 ^ k := Int.pow_pos (by decide)
  unfold Builtin.bitAnd
  rw [decide_eq_true h, decide_eq_true (show (0:Int) ≤ 2 ^ k - 1 by omega)]
  show ((x.toNat &&& ((2:Int) ^ k - 1).toNat : Nat) : Int) = _
  have e : ((2:Int) ^ k - 1).toNat = 2 ^ k - 1 := by
    have : ((2 ^ k : Nat) : Int) = (2:Int) ^ k := by push_cast; rfl
    omega
  rw [e, Nat.and_two_pow_sub_one_eq_mod]
  push_cast
  rw [Int.toNat_of_nonneg h]
end
section
open PySem PySem.W PyProof.Rows
abbrev bl (x : Int) : Nat := Builtin.Int.intBits x
theorem two_pow_pos (k : Nat) : (0:Int) < 2 ^ k := Int.pow_pos (by decide)
theorem cast_pow (k : Nat) : ((2 ^ k : Nat) : Int) = (2:Int) ^ k := by push_cast; rfl
theorem pow_le {i j : Nat} (h : i ≤ j) : (2:Int) ^ i ≤ 2 ^ j := by
  have := Nat.pow_le_pow_right (show 0 < 2 by decide) h
  rw [← cast_pow, ← cast_pow]; omega
theorem bl_lt {x : Int} (h : 0 ≤ x) : x < 2 ^ bl x := by
  have := natAbs_lt_pow_bits x
  show x < 2 ^ Builtin.Int.intBits x
  rw [← cast_pow]; omega
theorem bl_ge {x : Int} (h : 0 < x) : 2 ^ (bl x - 1) ≤ x := by
  unfold bl Builtin.Int.intBits
  rw [if_neg (by simp; omega)]
  have := Nat.log2_self_le (n := x.natAbs) (by omega)
  rw [← cast_pow]
  show ((2 ^ (x.natAbs.log2 + 1 - 1) : Nat) : Int) ≤ x
  rw [Nat.add_sub_cancel]; omega
theorem bl_pos {x : Int} (h : 0 < x) : 1 ≤ bl x := by
  unfold bl Builtin.Int.intBits
  rw [if_neg (by simp; omega)]; omega
theorem bl_le_of_lt {x : Int} {k : Nat} (h0 : 0 ≤ x) (h : x < 2 ^ k) : bl x ≤ k := by
  refine intBits_le ?_
  have := cast_pow k
  omega
theorem lt_bl_of_le {x : Int} {k : Nat} (h : 2 ^ k ≤ x) : k < bl x := by
  have h0 := two_pow_pos k
  refine Nat.lt_of_not_le fun hk => ?_
  have h1 := bl_lt (x := x) (by omega)
  have := pow_le hk
  omega
theorem bl_eq {x : Int} {k : Nat} (h : 2 ^ k ≤ x) (h' : x < 2 ^ (k + 1)) : bl x = k + 1 := by
  have h0 := two_pow_pos k
  have h1 := lt_bl_of_le h
  have h2 := bl_le_of_lt (by omega) h'
  omega
theorem bl_one : bl 1 = 1 := rfl
theorem bl_shl {x : Int} (h : 0 < x) (k : Nat) : bl (x * 2 ^ k) = bl x + k := by
  have h1 := bl_lt (x := x) (by omega)
  have h2 := bl_ge h
  have h3 := bl_pos h
  have hp := two_pow_pos k
  have e1 : bl x + k = (bl x - 1 + k) + 1 := by omega
  rw [e1]
  refine bl_eq ?_ ?_
  · rw [Int.pow_add]; exact Int.mul_le_mul_of_nonneg_right h2 (Int.le_of_lt hp)
  · rw [← e1, Int.pow_add]; exact Int.mul_lt_mul_of_pos_right h1 hp
theorem bl_od {x : Int} (h : 0 < x) : bl x = bl (od x) + tz x := by
  obtain ⟨e, _, hp⟩ := od_spec h
  have := bl_shl hp (tz x)
  rw [← e] at this
  exact this
theorem odd_od {x : Int} (h : 0 < x) (ho : x % 2 = 1) : od x = x ∧ tz x = 0 := by
  obtain ⟨h1, h2⟩ := tz_unique (x := x) (o := x) (k := 0) (by simp) ho h
  exact ⟨h2.symm, h1.symm⟩
theorem tz_pos {x : Int} (h : 0 < x) (he : x % 2 = 0) : 0 < tz x := by
  obtain ⟨e, h1, _⟩ := od_spec h
  rcases Nat.eq_zero_or_pos (tz x) with q | q
  · rw [q] at e; rw [e] at he; omega
  · exact q
/-- rounding to nearest, ties to even, n bits off -/
def rT (M n : Int) : Int := M.fdiv (2 ^ (n - 1).toNat)
def rn (M n : Int) : Int := if Builtin.bitAnd (rT M n) 1 ≠ 0 ∧ (Builtin.bitAnd (rT M n) 2 ≠ 0 ∨ Builtin.bitAnd M (1 * 2 ^ (n - 1).toNat - 1) ≠ 0) then (rT M n).fdiv (2 ^ (1:Int).toNat) + 1 else (rT M n).fdiv (2 ^ (1:Int).toNat)
def nR (M prec : Int) : Int := if (bl M : Int) - prec > 0 then rn M (bl M - prec) else M
def nE (M prec : Int) : Int := (if (bl M : Int) - prec > 0 then (bl M : Int) - prec else 0) + tz (nR M prec)
def nM (M prec : Int) : Int := od (nR M prec)
def nB (M prec : Int) : Int := bl (nM M prec)
theorem rn_near {M n : Int} (h : 0 < M) (hn : 0 < n) : 2 * (rn M n * 2 ^ n.toNat - M) ≤ 2 ^ n.toNat ∧ 2 * (M - rn M n * 2 ^ n.toNat) ≤ 2 ^ n.toNat := by
  have e2 : (2:Int) ^ (1:Int).toNat = 2 := rfl
  obtain ⟨k, hk⟩ : ∃ k : Nat, n = (k : Int) + 1 := ⟨(n - 1).toNat, by omega⟩
  subst hk
  have e3 : ((k : Int) + 1 - 1).toNat = k := by omega
  have e4 : ((k : Int) + 1).toNat = k + 1 := by omega
  have hp := two_pow_pos k
  have hT : 0 ≤ M / 2 ^ k := Int.ediv_nonneg (by omega) (by omega)
  have eT : rT M ((k : Int) + 1) = M / 2 ^ k := by unfold rT; rw [e3, fdiv_pow]
  have er : rn M ((k : Int) + 1) = if (M / 2 ^ k) % 2 = 1 ∧ ((M / 2 ^ k) / 2 % 2 = 1 ∨ M % 2 ^ k ≠ 0) then (M / 2 ^ k) / 2 + 1 else (M / 2 ^ k) / 2 := by
    have hc : (Builtin.bitAnd (M / 2 ^ k) 1 ≠ 0 ∧ (Builtin.bitAnd (M / 2 ^ k) 2 ≠ 0 ∨ Builtin.bitAnd M (1 * 2 ^ k - 1) ≠ 0)) ↔ ((M / 2 ^ k) % 2 = 1 ∧ ((M / 2 ^ k) / 2 % 2 = 1 ∨ M % 2 ^ k ≠ 0)) := by
      rw [band_one hT, band_two hT, Int.one_mul, band_mask (by omega)]
      omega
    unfold rn
    rw [eT, e2, e3, fdiv_pos_eq (show (0:Int) < 2 by decide)]
    simp only [hc]
  rw [er, e4, Int.pow_succ]
  have hM := Int.mul_ediv_add_emod M (2 ^ k)
  have hm0 := Int.emod_nonneg M (Int.ne_of_gt hp)
  have hm1 := Int.emod_lt_of_pos M hp
  clear er eT
  generalize M / 2 ^ k = T at *
  generalize M % 2 ^ k = r at *
  generalize (2:Int) ^ k = P at *
  have hT2 := Int.mul_ediv_add_emod T 2
  have hq0 := Int.emod_nonneg T (show (2:Int) ≠ 0 by decide)
  have hq1 := Int.emod_lt_of_pos T (show (0:Int) < 2 by decide)
  have ee : M = P * (2 * (T / 2) + T % 2) + r := by rw [hT2]; omega
  generalize T / 2 = q at *
  generalize T % 2 = b at *
  have e5 : (q + 1) * (P * 2) = 2 * (P * q) + 2 * P := by grind
  have e6 : q * (P * 2) = 2 * (P * q) := by grind
  have e7 : P * (2 * q + b) = 2 * (P * q) + P * b := by grind
  rw [e7] at ee
  split
  · rename_i hu
    have : b = 1 := by omega
    subst this
    omega
  · rename_i hu
    rcases (show b = 0 ∨ b = 1 by omega) with hb | hb <;> subst hb
    · omega
    · have : r = 0 := by
        refine Classical.byContradiction fun hr => hu ⟨by omega, Or.inr hr⟩
      omega
theorem rn_bounds {M prec : Int} (h : 0 < M) (hp : 0 < prec) (hn : 0 < (bl M : Int) - prec) : 2 ^ (prec.toNat - 1) ≤ rn M (bl M - prec) ∧ rn M (bl M - prec) ≤ 2 ^ prec.toNat := by
  obtain ⟨h1, h2⟩ := rn_near h hn
  have hlo := bl_ge h
  have hhi := bl_lt (x := M) (by omega)
  obtain ⟨k, hk⟩ : ∃ k : Nat, (bl M : Int) - prec = (k : Int) + 1 := ⟨((bl M : Int) - prec - 1).toNat, by omega⟩
  obtain ⟨j, hj⟩ : ∃ j : Nat, prec = (j : Int) + 1 := ⟨(prec - 1).toNat, by omega⟩
  have e1 : ((bl M : Int) - prec).toNat = k + 1 := by omega
  have e2 : prec.toNat = j + 1 := by omega
  have e3 : bl M = (j + 1) + (k + 1) := by omega
  have e4 : bl M - 1 = j + (k + 1) := by omega
  rw [e1] at h1 h2
  rw [e4, Int.pow_add] at hlo
  rw [e3, Int.pow_add] at hhi
  rw [e2, Nat.add_sub_cancel]
  generalize rn M (↑(bl M) - prec) = R at *
  have hq := two_pow_pos (k + 1)
  generalize (2:Int) ^ (k + 1) = P at *
  constructor
  · refine Int.not_lt.mp fun hh => ?_
    have : (R + 1) * P ≤ 2 ^ j * P := Int.mul_le_mul_of_nonneg_right hh (Int.le_of_lt hq)
    rw [Int.add_mul] at this
    omega
  · refine Int.not_lt.mp fun hh => ?_
    have : (2 ^ (j + 1) + 1) * P ≤ R * P := Int.mul_le_mul_of_nonneg_right hh (Int.le_of_lt hq)
    rw [Int.add_mul] at this
    omega
/-- the count of bits that _normalize keeps is right -/
theorem nB_fix {R prec : Int} (hp : 0 < prec) (h1 : 2 ^ (prec.toNat - 1) ≤ R) (h2 : R ≤ 2 ^ prec.toNat) :
    0 < R ∧ (R % 2 = 1 → (bl R : Int) = prec) ∧ (od R ≠ 1 → prec - tz R = bl (od R)) := by
  have hq := two_pow_pos (prec.toNat - 1)
  have hR : 0 < R := by omega
  have e : prec.toNat = (prec.toNat - 1) + 1 := by omega
  refine ⟨hR, fun ho => ?_, fun hne => ?_⟩
  · have : R < 2 ^ (prec.toNat - 1 + 1) := by
      rw [← e]
      rcases Int.lt_or_eq_of_le h2 with q | q
      · exact q
      · rw [e, Int.pow_succ] at q; omega
    have := bl_eq h1 this
    omega
  · have : R < 2 ^ (prec.toNat - 1 + 1) := by
      rw [← e]
      rcases Int.lt_or_eq_of_le h2 with q | q
      · exact q
      · exfalso
        exact hne (tz_unique (x := R) (o := 1) (k := prec.toNat) (by rw [q]; omega) (by decide) hR).2.symm
    have h3 := bl_eq h1 this
    have h4 := bl_od hR
    omega
theorem sub_end {x : Int} (h : 0 < x) : nM x (Builtin.Int.intBits x) ≠ 0 ∧ 0 < nM x (Builtin.Int.intBits x) ∧ 1 ≤ nB x (Builtin.Int.intBits x) ∧ nB x (Builtin.Int.intBits x) + nE x (Builtin.Int.intBits x) = Builtin.Int.intBits x := by
  have hR : nR x (Builtin.Int.intBits x) = x := if_neg (by show ¬ ((Builtin.Int.intBits x : Int) - Builtin.Int.intBits x > 0); omega)
  have hM : nM x (Builtin.Int.intBits x) = od x := by unfold nM; rw [hR]
  have hp := (od_spec h).2.2
  have hb : 1 ≤ bl (od x) := bl_pos hp
  have hB : nB x (Builtin.Int.intBits x) = bl (od x) := by unfold nB; rw [hM]
  have hE : nE x (Builtin.Int.intBits x) = tz x := by
    unfold nE; rw [hR, if_neg (show ¬ (Builtin.Int.intBits x : Int) - Builtin.Int.intBits x > 0 by omega)]; omega
  have hq : Builtin.Int.intBits x = bl (od x) + tz x := bl_od h
  rw [hM, hB, hE]
  refine ⟨by omega, hp, by omega, ?_⟩
  rw [hq]; push_cast; omega
end
section
open PySem PySem.W PyProof.Rows
/-- the quotient with its sticky bit -/
def dM (tm e : Int) : Int := (1 * (2:Int) ^ e.toNat).fdiv tm * 2 ^ (1:Int).toNat + 1
def qM (tm tb prec : Int) : Int := if tm = 1 then 1 else nM (dM tm (prec + tb + 5)) prec
def qE (tm tb prec : Int) : Int := if tm = 1 then 0 else nE (dM tm (prec + tb + 5)) prec - (prec + tb + 5 + 1)
def qB (tm tb prec : Int) : Int := if tm = 1 then 1 else nB (dM tm (prec + tb + 5)) prec
theorem odd_not_dvd {tm : Int} (h : 1 < tm) (ho : tm % 2 = 1) (k : Nat) : (1 * (2:Int) ^ k).fmod tm ≠ 0 := by
  rw [Int.one_mul, Int.fmod_eq_emod_of_nonneg _ (by omega)]
  intro hz
  obtain ⟨c, hc⟩ := Int.dvd_of_emod_eq_zero hz
  have hp := two_pow_pos k
  have hc0 : 0 < c := by
    refine Int.not_le.mp fun hh => ?_
    have : tm * c ≤ 0 := Int.mul_nonpos_of_nonneg_of_nonpos (by omega) hh
    omega
  obtain ⟨e1, h1, h2⟩ := od_spec hc0
  have q1 := tz_unique (x := (2:Int) ^ k) (o := 1) (k := k) (by omega) (by decide) hp
  have q2 := tz_unique (x := (2:Int) ^ k) (o := tm * od c) (k := tz c) (by rw [Int.mul_assoc, ← e1]; exact hc) (by rw [Int.mul_emod, ho, h1]; decide) hp
  have q3 : tm * od c = 1 := q2.2.trans q1.2.symm
  have q4 : tm * 1 ≤ tm * od c := Int.mul_le_mul_of_nonneg_left (by omega) (by omega)
  omega
/-- tm's bits are tb; then the quotient has its place -/
theorem dq_bounds {tm : Int} (h : 1 < tm) (ho : tm % 2 = 1) {P j : Nat} (hj : j = P + bl tm) : 2 ^ P ≤ 2 ^ j / tm ∧ (2:Int) ^ j / tm < 2 ^ (P + 1) := by
  have hlo := bl_ge (x := tm) (by omega)
  have hhi := bl_lt (x := tm) (by omega)
  have hb := bl_pos (x := tm) (by omega)
  have hp := two_pow_pos P
  subst hj
  constructor
  · refine le_div_of (by omega) ?_
    rw [Int.pow_add]
    exact Int.mul_le_mul_of_nonneg_left (by omega) (by omega)
  · refine lt_of_div (by omega) ?_
    have e : P + bl tm = (P + 1) + (bl tm - 1) := by omega
    rw [e, Int.pow_add]
    refine Int.mul_lt_mul_of_pos_left ?_ (two_pow_pos _)
    rcases Int.lt_or_eq_of_le hlo with q | q
    · exact q
    · exfalso
      rcases Nat.eq_zero_or_pos (bl tm - 1) with z | z
      · rw [z] at q; simp at q; omega
      · have e2 : bl tm - 1 = (bl tm - 1 - 1) + 1 := by omega
        rw [e2, Int.pow_succ] at q
        omega
theorem dM_eq (tm e : Int) (h : 0 < tm) : dM tm e = 2 * (2 ^ e.toNat / tm) + 1 := by
  unfold dM
  rw [show (2:Int) ^ (1:Int).toNat = 2 from rfl, Int.one_mul, fdiv_pos_eq h]; omega
theorem rT_div (q : Int) (k : Nat) : (2 * q + 1) / 2 ^ (k + 1) = q / 2 ^ k := by
  rw [Int.pow_succ, Int.mul_comm ((2:Int) ^ k), ← Int.ediv_ediv_of_nonneg (show (0:Int) ≤ 2 by decide), show (2 * q + 1) / 2 = q by omega]
theorem odd_mask (q : Int) (k : Nat) : (2 * q + 1) % 2 ^ (k + 1) ≠ 0 := by
  intro hz
  obtain ⟨c, hc⟩ := Int.dvd_of_emod_eq_zero hz
  rw [Int.pow_succ, Int.mul_comm ((2:Int) ^ k), Int.mul_assoc] at hc
  omega
theorem rn_sticky {q : Int} (hq : 0 ≤ q) (k : Nat) : rn (2 * q + 1) ((k : Int) + 1 + 1) = if q / 2 ^ k % 2 = 1 then q / 2 ^ k / 2 + 1 else q / 2 ^ k / 2 := by
  have e1 : ((k : Int) + 1 + 1 - 1).toNat = k + 1 := by omega
  have hT : rT (2 * q + 1) ((k : Int) + 1 + 1) = q / 2 ^ k := by unfold rT; rw [e1, fdiv_pow, rT_div]
  have h0 : 0 ≤ q / 2 ^ k := Int.ediv_nonneg hq (Int.le_of_lt (two_pow_pos k))
  unfold rn
  rw [hT, e1, show (2:Int) ^ (1:Int).toNat = 2 from rfl, fdiv_pos_eq (by decide)]
  have hm := odd_mask q k
  have hc : (Builtin.bitAnd (q / 2 ^ k) 1 ≠ 0 ∧ (Builtin.bitAnd (q / 2 ^ k) 2 ≠ 0 ∨ Builtin.bitAnd (2 * q + 1) (1 * 2 ^ (k + 1) - 1) ≠ 0)) ↔ (q / 2 ^ k % 2 = 1) := by
    rw [band_one h0, Int.one_mul, band_mask (by omega)]
    constructor
    · intro x; omega
    · intro x; exact ⟨by omega, Or.inr hm⟩
  simp only [hc]
theorem div_same {tm prec : Int} (h : 1 < tm) (ho : tm % 2 = 1) (hp : 0 < prec) :
    nM (dM tm (prec - 1 + bl tm + 5)) prec = nM (dM tm (prec + bl tm + 5)) prec ∧ nE (dM tm (prec + bl tm + 5)) prec = nE (dM tm (prec - 1 + bl tm + 5)) prec + 1 ∧ nB (dM tm (prec - 1 + bl tm + 5)) prec = nB (dM tm (prec + bl tm + 5)) prec := by
  obtain ⟨j, hj⟩ : ∃ j : Nat, prec = (j : Int) + 1 := ⟨(prec - 1).toNat, by omega⟩
  subst hj
  rw [dM_eq _ _ (by omega), dM_eq _ _ (by omega)]
  have e1 : ((j : Int) + 1 - 1 + bl tm + 5).toNat = (j + 5) + bl tm := by omega
  have e2 : ((j : Int) + 1 + bl tm + 5).toNat = (j + 6) + bl tm := by omega
  rw [e1, e2]
  obtain ⟨a1, a2⟩ := dq_bounds h ho (P := j + 5) rfl
  obtain ⟨b1, b2⟩ := dq_bounds h ho (P := j + 6) rfl
  have hq : (2:Int) ^ (j + 5 + bl tm) / tm = 2 ^ (j + 6 + bl tm) / tm / 2 := by
    rw [show j + 6 + bl tm = (j + 5 + bl tm) + 1 by omega, Int.pow_succ, Int.ediv_ediv_of_nonneg (by omega), Int.mul_comm tm, Int.mul_comm _ (2:Int), Int.mul_ediv_mul_of_pos _ _ (by decide)]
  rw [hq] at a1 a2
  rw [hq]
  generalize (2:Int) ^ (j + 6 + bl tm) / tm = q at *
  have p5 : (2:Int) ^ (j + 6) = 2 ^ (j + 5) * 2 := Int.pow_succ ..
  have p6 : (2:Int) ^ (j + 7) = 2 ^ (j + 6) * 2 := Int.pow_succ ..
  have p7 : (2:Int) ^ (j + 8) = 2 ^ (j + 7) * 2 := Int.pow_succ ..
  have f1 : bl (2 * (q / 2) + 1) = (j + 6) + 1 := by
    refine bl_eq (by omega) ?_
    show 2 * (q / 2) + 1 < 2 ^ (j + 7)
    have : q / 2 < 2 ^ (j + 6) := a2
    omega
  have f2 : bl (2 * q + 1) = (j + 7) + 1 := by
    refine bl_eq (by omega) ?_
    show 2 * q + 1 < 2 ^ (j + 8)
    have : q < 2 ^ (j + 7) := b2
    omega
  have hp0 := two_pow_pos (j + 6)
  have hr : nR (2 * (q / 2) + 1) ((j : Int) + 1) = nR (2 * q + 1) ((j : Int) + 1) := by
    unfold nR
    rw [f1, f2, if_pos (by push_cast; omega), if_pos (by push_cast; omega)]
    rw [show ((j + 6 + 1 : Nat) : Int) - ((j : Int) + 1) = ((4 : Nat) : Int) + 1 + 1 by push_cast; omega, show ((j + 7 + 1 : Nat) : Int) - ((j : Int) + 1) = ((5 : Nat) : Int) + 1 + 1 by push_cast; omega]
    rw [rn_sticky (by omega), rn_sticky (by omega)]
    have : q / 2 / 2 ^ 4 = q / 2 ^ 5 := by rw [show (2:Int) ^ 4 = 16 from rfl, show (2:Int) ^ 5 = 32 from rfl]; omega
    rw [this]
  refine ⟨by unfold nM; rw [hr], ?_, by unfold nB nM; rw [hr]⟩
  unfold nE
  rw [hr, f1, f2, if_pos (by push_cast; omega), if_pos (by push_cast; omega)]
  push_cast; omega
theorem nM_pow {k : Nat} {prec : Int} (hp : 0 < prec) (hk : prec ≤ k) : nM (2 ^ k) prec = 1 ∧ nE (2 ^ k) prec = k ∧ nB (2 ^ k) prec = 1 := by
  have hb : bl ((2:Int) ^ k) = k + 1 := intBits_two_pow k
  obtain ⟨j, hj⟩ : ∃ j : Nat, (k : Int) + 1 - prec = (j : Int) + 1 := ⟨((k : Int) - prec).toNat, by omega⟩
  have hr : nR (2 ^ k) prec = 2 ^ (prec.toNat - 1) := by
    unfold nR
    rw [hb, if_pos (by push_cast; omega)]
    rw [show ((k + 1 : Nat) : Int) - prec = (j : Int) + 1 by push_cast; omega]
    have hT : rT ((2:Int) ^ k) ((j : Int) + 1) = 2 ^ (k - j) := by
      unfold rT
      rw [show ((j : Int) + 1 - 1).toNat = j by omega, fdiv_pow]
      rw [show (2:Int) ^ k = 2 ^ (k - j) * 2 ^ j by rw [← Int.pow_add]; congr 1; omega]
      exact Int.mul_ediv_cancel _ (Int.ne_of_gt (two_pow_pos j))
    unfold rn
    rw [hT, show k - j = (prec.toNat - 1) + 1 by omega, Int.pow_succ]
    have h0 := two_pow_pos (prec.toNat - 1)
    rw [if_neg (by rw [band_one (by omega)]; omega), show (2:Int) ^ (1:Int).toNat = 2 from rfl, fdiv_pos_eq (by decide)]
    omega
  have hz := tz_unique (x := (2:Int) ^ (prec.toNat - 1)) (o := 1) (k := prec.toNat - 1) (by omega) (by decide) (two_pow_pos _)
  have hM : nM (2 ^ k) prec = 1 := by unfold nM; rw [hr]; exact hz.2.symm
  refine ⟨hM, ?_, ?_⟩
  · unfold nE
    rw [hr, hb, if_pos (by push_cast; omega), ← hz.1]
    push_cast; omega
  · unfold nB; rw [hM]; rfl
theorem nM_one {prec : Int} (hp : 0 < prec) : nM 1 prec = 1 ∧ nE 1 prec = 0 ∧ nB 1 prec = 1 := by
  have hr : nR 1 prec = 1 := if_neg (by rw [show bl 1 = 1 from rfl]; omega)
  have hz := odd_od (x := 1) (by decide) (by decide)
  have hM : nM 1 prec = 1 := by unfold nM; rw [hr]; exact hz.1
  refine ⟨hM, ?_, by unfold nB; rw [hM]; rfl⟩
  unfold nE
  rw [hr, if_neg (by rw [show bl 1 = 1 from rfl]; omega), hz.2]; rfl
end
section
open PySem PySem.W PyProof.Rows
/-- the floor of the root -/
def sqN : Nat → Nat
  | 0 => 0
  | n + 1 => if (sqN n + 1) * (sqN n + 1) ≤ n + 1 then sqN n + 1 else sqN n
theorem sqN_spec (n : Nat) : sqN n * sqN n ≤ n ∧ n < (sqN n + 1) * (sqN n + 1) := by
  induction n with
  | zero => exact ⟨Nat.le_refl _, by decide⟩
  | succ n ih =>
    unfold sqN
    obtain ⟨h1, h2⟩ := ih
    generalize sqN n = r at h1 h2 ⊢
    by_cases h : (r + 1) * (r + 1) ≤ n + 1
    · rw [if_pos h]
      refine ⟨h, ?_⟩
      have : (r + 1 + 1) * (r + 1 + 1) = (r + 1) * (r + 1) + (r + 1) + (r + 1) + 1 := by grind
      omega
    · rw [if_neg h]; omega
def sq (x : Int) : Int := (sqN x.toNat : Nat)
theorem sq_nonneg (x : Int) : 0 ≤ sq x := Int.natCast_nonneg _
theorem sq_le {x : Int} (h : 0 ≤ x) : sq x * sq x ≤ x := by
  have := (sqN_spec x.toNat).1
  have e : sq x * sq x = ((sqN x.toNat * sqN x.toNat : Nat) : Int) := by unfold sq; push_cast; rfl
  rw [e]; omega
theorem lt_sq {x : Int} (h : 0 ≤ x) : x < (sq x + 1) * (sq x + 1) := by
  have := (sqN_spec x.toNat).2
  have e : (sq x + 1) * (sq x + 1) = (((sqN x.toNat + 1) * (sqN x.toNat + 1) : Nat) : Int) := by unfold sq; push_cast; rfl
  rw [e]; omega
theorem sq_pos {x : Int} (h : 0 < x) : 1 ≤ sq x := by
  have h0 := sq_nonneg x
  have h1 := lt_sq (x := x) (by omega)
  refine Int.not_lt.mp fun hh => ?_
  have : sq x = 0 := by omega
  rw [this] at h1; omega
theorem band_one' (x : Int) : Builtin.bitAnd x 1 = x % 2 := by
  rcases Int.lt_or_le x 0 with h | h
  · unfold Builtin.bitAnd
    rw [decide_eq_false (show ¬ (0:Int) ≤ x by omega), decide_eq_true (show (0:Int) ≤ 1 by decide)]
    show (1:Int) - (((1:Int).toNat &&& (Builtin.bitNot x).toNat : Nat) : Int) = _
    rw [Nat.and_comm]
    show (1:Int) - (((Builtin.bitNot x).toNat &&& 1 : Nat) : Int) = _
    rw [Nat.and_one_is_mod]
    unfold Builtin.bitNot
    omega
  · exact band_one h
/-- mpf_sqrt's parts, for a mantissa and its count of bits brought to an even exponent -/
def sS (bc prec : Int) : Int := (if 2 * prec - bc + 4 > 4 then 2 * prec - bc + 4 else 4) + Builtin.bitAnd (if 2 * prec - bc + 4 > 4 then 2 * prec - bc + 4 else 4) 1
def sX (man bc prec : Int) : Int := man * 2 ^ (sS bc prec).toNat
def sQ (man bc prec : Int) : Int := if sX man bc prec - sq (sX man bc prec) * sq (sX man bc prec) ≠ 0 then sq (sX man bc prec) * 2 ^ (1:Int).toNat + 1 else sq (sX man bc prec)
def sH (man bc prec : Int) : Int := if sX man bc prec - sq (sX man bc prec) * sq (sX man bc prec) ≠ 0 then sS bc prec + 2 else sS bc prec
/-- what comes back: mantissa, exponent for the even exponent e, count of bits -/
def rM (man bc prec : Int) : Int := nM (sQ man bc prec) prec
def rE (man bc prec e : Int) : Int := (e - sH man bc prec).fdiv (2:Int) + nE (sQ man bc prec) prec
def rB (man bc prec : Int) : Int := nB (sQ man bc prec) prec
theorem sS_even (bc prec : Int) : sS bc prec % 2 = 0 ∧ 4 ≤ sS bc prec ∧ 2 * prec - bc + 4 ≤ sS bc prec ∧ sS bc prec ≤ max 4 (2 * prec - bc + 4) + 1 := by
  unfold sS
  rw [band_one']
  split <;> omega
inductive Asc (s n t : Int) : List Int → Prop
  | one : Asc s n t [t]
  | cons {y : Int} {r : List Int} : Asc s n t (y :: r) → s * n < y → Asc s n t ((y.fdiv n + 2) :: y :: r)
theorem asc_last {s n t : Int} {xs : List Int} (h : Asc s n t xs) : ∃ ys, xs = ys ++ [t] := by
  induction h with
  | one => exact ⟨[], rfl⟩
  | cons _ _ ih => obtain ⟨ys, e⟩ := ih; exact ⟨_ :: ys, by rw [e]; rfl⟩
theorem asc_or {s n t : Int} {xs : List Int} (h : Asc s n t xs) : xs = [t] ∨ s * n < t := by
  induction h with
  | one => exact .inl rfl
  | cons _ hy ih =>
    rcases ih with ih | ih
    · injection ih with e1 e2; subst e1; exact .inr hy
    · exact .inr ih
theorem asc_len {s n t : Int} {xs : List Int} (h : Asc s n t xs) (hs : 8 ≤ s) (hn : 2 ≤ n) : ∃ y r, xs = y :: r ∧ (r.length : Int) + y ≤ t := by
  induction h with
  | one => exact ⟨_, _, rfl, by simp⟩
  | @cons y r _ hy ih =>
    obtain ⟨y', r', e, hl⟩ := ih
    injection e with e1 e2
    subst e1 e2
    refine ⟨_, _, rfl, ?_⟩
    have hge : 16 ≤ s * n := by
      have := Int.mul_le_mul hs hn (by decide) (by omega)
      omega
    have h1 := Int.mul_ediv_add_emod y n
    have h2 := Int.emod_nonneg y (show n ≠ 0 by omega)
    have h4 : 0 ≤ y / n := Int.ediv_nonneg (by omega) (by omega)
    have h3 : 2 * (y / n) ≤ n * (y / n) := Int.mul_le_mul_of_nonneg_right hn h4
    rw [fdiv_pos_eq (by omega), List.length_cons]
    push_cast
    omega
/-- two neighbours -/
theorem asc_pair {s n t y z : Int} {r : List Int} (h : Asc s n t (y :: z :: r)) (hs : 8 ≤ s) (hn : 2 ≤ n) : s < y ∧ y < z ∧ z < n * y ∧ n * y ≤ z + 2 * n ∧ Asc s n t (z :: r) ∧ y = z / n + 2 ∧ s * n < z := by
  cases h with
  | cons h hz =>
    have hge : 16 ≤ s * n := by
      have := Int.mul_le_mul hs hn (by decide) (by omega)
      omega
    have h1 := Int.mul_ediv_add_emod z n
    have h2 := Int.emod_nonneg z (show n ≠ 0 by omega)
    have h5 := Int.emod_lt_of_pos z (show 0 < n by omega)
    have h4 : 0 ≤ z / n := Int.ediv_nonneg (by omega) (by omega)
    have h3 : 2 * (z / n) ≤ n * (z / n) := Int.mul_le_mul_of_nonneg_right hn h4
    have h6 : s ≤ z / n := le_div_of (by omega) (by omega)
    rw [fdiv_pos_eq (by omega)]
    have h7 : n * (z / n + 2) = n * (z / n) + 2 * n := by grind
    rw [h7]
    exact ⟨by omega, by omega, by omega, by omega, h, rfl, hz⟩
def GS (s n t : Int) (xs : List Int) : Prop := Asc s n t xs ∧ ∃ y r, xs = y :: r ∧ y ≤ s * n
end
section
open PySem PySem.W PyProof.Rows
/-- to_fixed of (0, man, ex, _) at w bits -/
def tf (man ex w : Int) : Int := if ex + w ≥ 0 then man * 2 ^ (ex + w).toNat else man.fdiv (2 ^ (-(ex + w)).toNat)
theorem tf_spec {man : Int} {c w : Nat} (hm : 0 ≤ man) : tf man (-(c : Int)) w * 2 ^ c ≤ man * 2 ^ w ∧ man * 2 ^ w < (tf man (-(c : Int)) w + 1) * 2 ^ c := by
  have hc := two_pow_pos c
  unfold tf
  by_cases h : -(c : Int) + w ≥ 0
  · rw [if_pos h]
    have e : w = (-(c : Int) + w).toNat + c := by omega
    have e2 : (2:Int) ^ w = 2 ^ (-(c : Int) + w).toNat * 2 ^ c := by rw [← Int.pow_add, ← e]
    rw [e2, ← Int.mul_assoc]
    refine ⟨Int.le_refl _, ?_⟩
    rw [Int.add_mul]; omega
  · rw [if_neg h]
    have e : c = (-(-(c : Int) + w)).toNat + w := by omega
    have e2 : (2:Int) ^ c = 2 ^ (-(-(c : Int) + w)).toNat * 2 ^ w := by rw [← Int.pow_add, ← e]
    have hk := two_pow_pos (-(-(c : Int) + w)).toNat
    have hw := two_pow_pos w
    rw [e2, fdiv_pow]
    generalize (2:Int) ^ (-(-(c : Int) + w)).toNat = K at *
    have h1 := Int.mul_ediv_add_emod man K
    have h2 := Int.emod_nonneg man (Int.ne_of_gt hk)
    have h3 := Int.emod_lt_of_pos man hk
    generalize man / K = q at *
    constructor
    · rw [← Int.mul_assoc]
      exact Int.mul_le_mul_of_nonneg_right (by rw [Int.mul_comm]; omega) (Int.le_of_lt hw)
    · rw [← Int.mul_assoc]
      refine Int.mul_lt_mul_of_pos_right ?_ hw
      rw [Int.add_mul, Int.one_mul, Int.mul_comm q]; omega
theorem pos_of_mul_lt {a b c : Int} (hc : 0 < c) (h : a * c < b * c) : a < b := Int.lt_of_mul_lt_mul_right h (Int.le_of_lt hc)
/-- what goes into one: the start -/
theorem over_start {man C W F r : Int} (hW : 2 ≤ W) (hWe : W % 2 = 0) (hC : 0 < C) (hm : 0 < man) (hlo : C ≤ 2 * man) (hF1 : F * C ≤ man * W) (hF2 : man * W < (F + 1) * C)
    (hr1 : r * F ≤ W * W) (hr2 : W * W < (r + 1) * F) (hr : 0 ≤ r) : r * man - W * C < 16 * man ∧ W * C - r * man < 16 * man := by
  have hW0 : 0 < W := by omega
  have hFl : W / 2 ≤ F := by
    refine Int.not_lt.mp fun hh => ?_
    have h1 : (F + 1) * C ≤ (W / 2) * C := Int.mul_le_mul_of_nonneg_right (by omega) (by omega)
    have h2 : C * W ≤ 2 * man * W := Int.mul_le_mul_of_nonneg_right hlo (by omega)
    have h3 : 2 * ((W / 2) * C) = W * C := by
      have : W = 2 * (W / 2) := by omega
      calc 2 * ((W / 2) * C) = (2 * (W / 2)) * C := by grind
        _ = W * C := by rw [← this]
    have h4 : C * W = W * C := Int.mul_comm ..
    have h5 : 2 * man * W = 2 * (man * W) := Int.mul_assoc ..
    omega
  have hr3 : r ≤ 2 * W := by
    refine Int.not_lt.mp fun hh => ?_
    have h1 : (2 * W + 1) * (W / 2) ≤ r * F := Int.mul_le_mul (by omega) hFl (by omega) (by omega)
    have h2 : (2 * W + 1) * (W / 2) = W * (2 * (W / 2)) + W / 2 := by grind
    rw [h2, show 2 * (W / 2) = W by omega] at h1
    omega
  constructor
  · refine pos_of_mul_lt hW0 ?_
    have h1 : r * (man * W) ≤ r * ((F + 1) * C) := Int.mul_le_mul_of_nonneg_left (Int.le_of_lt hF2) hr
    have h2 : r * ((F + 1) * C) = (r * F) * C + r * C := by grind
    have h3 : (r * F) * C ≤ W * W * C := Int.mul_le_mul_of_nonneg_right hr1 (by omega)
    have h4 : r * C ≤ 2 * W * (2 * man) := Int.mul_le_mul hr3 hlo (by omega) (by omega)
    have h5 : (r * man - W * C) * W = r * (man * W) - W * W * C := by grind
    have h6 : 2 * W * (2 * man) = 4 * (man * W) := by grind
    have h7 : 16 * man * W = 16 * (man * W) := Int.mul_assoc ..
    have h8 : 0 < man * W := Int.mul_pos hm hW0
    omega
  · refine pos_of_mul_lt hW0 ?_
    have h1 : W * W * C < (r + 1) * F * C := Int.mul_lt_mul_of_pos_right hr2 hC
    have h2 : (r + 1) * F * C = (r + 1) * (F * C) := Int.mul_assoc ..
    have h3 : (r + 1) * (F * C) ≤ (r + 1) * (man * W) := Int.mul_le_mul_of_nonneg_left hF1 (by omega)
    have h5 : (W * C - r * man) * W = W * W * C - r * (man * W) := by grind
    have h6 : (r + 1) * (man * W) = r * (man * W) + man * W := by grind
    have h7 : 16 * man * W = 16 * (man * W) := Int.mul_assoc ..
    have h8 : 0 < man * W := Int.mul_pos hm hW0
    omega
/-- and a round -/
theorem over_round {man C W W0 D F r0 G g H h : Int} (hW0 : 2048 ≤ W0) (hD : 1 ≤ D) (hW : W = W0 * D) (hC : 0 < C) (hm : 0 < man) (hmC : man < C) (hlo : C ≤ 2 * man) (hquad : 2048 * W ≤ W0 * W0)
    (hF1 : F * C ≤ man * W) (hF2 : man * W < (F + 1) * C) (hi1 : r0 * man - W0 * C < 16 * man) (hi2 : W0 * C - r0 * man < 16 * man)
    (hG : F * (r0 * D) = W * G + g) (hg0 : 0 ≤ g) (hg1 : g < W) (hH : r0 * D * (W - G) = W * H + h) (hh0 : 0 ≤ h) (hh1 : h < W) :
    (r0 * D + H) * man - W * C < 16 * man ∧ W * C - (r0 * D + H) * man < 16 * man ∧ 0 ≤ r0 * D ∧ r0 * D ≤ 3 * W := by
  have hWp : 0 < W := by rw [hW]; exact Int.mul_pos (by omega) (by omega)
  have hWD : 16 * D ≤ W := by rw [hW]; exact Int.mul_le_mul_of_nonneg_right (by omega) (by omega)
  -- e1
  have e1 : W * C - r0 * D * man = D * (W0 * C - r0 * man) := by rw [hW]; grind
  have b1 : D * (W0 * C - r0 * man) < D * (16 * man) := Int.mul_lt_mul_of_pos_left hi2 (by omega)
  have b2 : D * (r0 * man - W0 * C) < D * (16 * man) := Int.mul_lt_mul_of_pos_left hi1 (by omega)
  have b3 : D * (r0 * man - W0 * C) = -(D * (W0 * C - r0 * man)) := by grind
  rw [b3] at b2
  generalize hr1 : r0 * D = r1 at *
  generalize he : D * (W0 * C - r0 * man) = e at *
  have hDm : D * (16 * man) = 16 * D * man := by grind
  rw [hDm] at b1 b2
  have hWm : 16 * D * man ≤ W * man := Int.mul_le_mul_of_nonneg_right hWD (by omega)
  have hWmC : W * man ≤ W * C := Int.mul_le_mul_of_nonneg_left (by omega) (by omega)
  have hr0 : 0 ≤ r1 := by
    refine Int.not_lt.mp fun hh => ?_
    have : r1 * man ≤ 0 := Int.mul_nonpos_of_nonpos_of_nonneg (by omega) (by omega)
    omega
  have hr3 : r1 ≤ 3 * W := by
    refine Int.not_lt.mp fun hh => ?_
    have h1 : (3 * W + 1) * man ≤ r1 * man := Int.mul_le_mul_of_nonneg_right (by omega) (by omega)
    have h2 : W * C ≤ W * (2 * man) := Int.mul_le_mul_of_nonneg_left hlo (by omega)
    have h3 : (3 * W + 1) * man = 3 * (W * man) + man := by grind
    have h4 : W * (2 * man) = 2 * (W * man) := by grind
    omega
  refine ⟨?_, ?_, hr0, hr3⟩
  all_goals
    have hWC : 0 < W * C := Int.mul_pos hWp hC
    -- t
    have ht : W * ((W - G) * C - e) = r1 * (man * W - F * C) + g * C := by
      have k1 : W * ((W - G) * C - e) = W * (W * C) - (W * G) * C - W * e := by grind
      have k2 : W * G = F * r1 - g := by omega
      have k3 : W * e = W * (W * C) - W * (r1 * man) := by rw [← e1]; grind
      rw [k1, k2, k3]; grind
    have key : W * C * ((r1 + H) * man - W * C) = man * r1 * ((W - G) * C - e) - e * e - man * C * h := by
      have k1 : W * C * ((r1 + H) * man - W * C) = C * man * (W * r1) + C * man * (W * H) - W * C * (W * C) := by grind
      have k2 : W * H = r1 * (W - G) - h := by omega
      have k4 : r1 * man = W * C - e := by omega
      have k5 : man * r1 * ((W - G) * C - e) = (r1 * man) * ((W - G) * C) - (r1 * man) * e := by grind
      have k6 : C * man * (W * r1) = W * C * (r1 * man) := by grind
      have k7 : C * man * (r1 * (W - G) - h) = (r1 * man) * ((W - G) * C) - man * C * h := by grind
      rw [k1, k2, k5, k6, k7, k4]; grind
    generalize (W - G) * C - e = t at *
    have hf0 : 0 ≤ man * W - F * C := by omega
    have hf1 : man * W - F * C < C := by rw [Int.add_mul] at hF2; omega
    have ht0 : 0 ≤ t := by
      refine Int.not_lt.mp fun hh => ?_
      have q1 : W * t < 0 := Int.mul_neg_of_pos_of_neg hWp hh
      have q2 : 0 ≤ r1 * (man * W - F * C) := Int.mul_nonneg hr0 hf0
      have q3 : 0 ≤ g * C := Int.mul_nonneg hg0 (by omega)
      omega
    have ht1 : W * t ≤ r1 * C + W * C := by
      have q2 : r1 * (man * W - F * C) ≤ r1 * C := Int.mul_le_mul_of_nonneg_left (by omega) hr0
      have q3 : g * C ≤ W * C := Int.mul_le_mul_of_nonneg_right (by omega) (by omega)
      omega
    have ht2 : t ≤ 4 * C := by
      refine Int.le_of_mul_le_mul_left ?_ hWp
      have q1 : r1 * C ≤ 3 * W * C := Int.mul_le_mul_of_nonneg_right hr3 (by omega)
      have q2 : 3 * W * C = 3 * (W * C) := Int.mul_assoc ..
      have q3 : W * (4 * C) = 4 * (W * C) := by grind
      omega
  · -- above
    refine Int.lt_of_mul_lt_mul_left ?_ (Int.le_of_lt hWC)
    rw [key]
    have q1 : man * r1 * t ≤ man * (3 * W) * (4 * C) := Int.mul_le_mul (Int.mul_le_mul_of_nonneg_left hr3 (by omega)) ht2 ht0 (Int.mul_nonneg (by omega) (by omega))
    have q2 : man * (3 * W) * (4 * C) = 12 * (W * C * man) := by grind
    have q3 : W * C * (16 * man) = 16 * (W * C * man) := by grind
    have q4 : 0 ≤ e * e := by
      rcases Int.le_total 0 e with z | z
      · exact Int.mul_nonneg z z
      · exact Int.mul_nonneg_of_nonpos_of_nonpos z z
    have q5 : 0 ≤ man * C * h := Int.mul_nonneg (Int.mul_nonneg (by omega) (by omega)) hh0
    have q6 : 0 < W * C * man := Int.mul_pos hWC hm
    omega
  · -- below
    refine Int.lt_of_mul_lt_mul_left ?_ (Int.le_of_lt hWC)
    have k0 : W * C * (W * C - (r1 + H) * man) = -(W * C * ((r1 + H) * man - W * C)) := by grind
    rw [k0, key]
    have q1 : 0 ≤ man * r1 * t := Int.mul_nonneg (Int.mul_nonneg (by omega) hr0) ht0
    have q2 : man * C * h ≤ man * C * W := Int.mul_le_mul_of_nonneg_left (by omega) (Int.mul_nonneg (by omega) (by omega))
    have q3 : man * C * W = W * C * man := by grind
    have q4 : e * e ≤ (16 * D * man) * (16 * D * man) := by
      rcases Int.le_total 0 e with z | z
      · exact Int.mul_le_mul (by omega) (by omega) z (by omega)
      · have : (-e) * (-e) ≤ (16 * D * man) * (16 * D * man) := Int.mul_le_mul (by omega) (by omega) (by omega) (by omega)
        rw [Int.neg_mul_neg] at this; exact this
    have q5 : W0 * W0 * (8 * ((16 * D * man) * (16 * D * man))) ≤ W0 * W0 * (W * C * man) := by
      have z1 : W0 * W0 * (8 * ((16 * D * man) * (16 * D * man))) = 2048 * W * (W * man * man) := by rw [hW]; grind
      have z2 : 2048 * W * (W * man * man) ≤ W0 * W0 * (W * man * man) := Int.mul_le_mul_of_nonneg_right hquad (Int.mul_nonneg (Int.mul_nonneg (by omega) (by omega)) (by omega))
      have z3 : W0 * W0 * (W * man * man) ≤ W0 * W0 * (W * C * man) := Int.mul_le_mul_of_nonneg_left (by
        have z4 : W * man * man ≤ W * C * man := Int.mul_le_mul_of_nonneg_right (by omega) (by omega)
        exact z4) (Int.mul_nonneg (by omega) (by omega))
      omega
    have q6 : 8 * ((16 * D * man) * (16 * D * man)) ≤ W * C * man := Int.le_of_mul_le_mul_left q5 (Int.mul_pos (by omega) (by omega))
    have q7 : W * C * (16 * man) = 16 * (W * C * man) := by grind
    have q8 : 0 < W * C * man := Int.mul_pos hWC hm
    omega
/-- r is what man * 2 ^ -c goes into one, at w bits, but for sixteen units -/
def INV (man : Int) (c : Nat) (w r : Int) : Prop := r * man - 2 ^ w.toNat * 2 ^ c < 16 * man ∧ 2 ^ w.toNat * 2 ^ c - r * man < 16 * man
theorem INV_bits {man : Int} {c : Nat} {w r : Int} (hw : 5 ≤ w) (hm : 0 < man) (hmC : man < 2 ^ c) (hlo : 2 ^ c ≤ 2 * man) (h : INV man c w r) : 0 < r ∧ r < 2 ^ (w.toNat + 2) := by
  obtain ⟨h1, h2⟩ := h
  have hW := two_pow_pos w.toNat
  have h32 : (2:Int) ^ 5 ≤ 2 ^ w.toNat := pow_le (by omega)
  have e5 : (2:Int) ^ 5 = 32 := rfl
  have e4 : (2:Int) ^ (w.toNat + 2) = 4 * 2 ^ w.toNat := by rw [Int.pow_add]; omega
  rw [e4]
  generalize (2:Int) ^ w.toNat = W at *
  generalize (2:Int) ^ c = C at *
  have q1 : 32 * C ≤ W * C := Int.mul_le_mul_of_nonneg_right (by omega) (by omega)
  have q2 : W * C ≤ W * (2 * man) := Int.mul_le_mul_of_nonneg_left hlo (by omega)
  constructor
  · refine Int.not_le.mp fun hh => ?_
    have : r * man ≤ 0 := Int.mul_nonpos_of_nonpos_of_nonneg hh (by omega)
    omega
  · refine Int.lt_of_mul_lt_mul_right (a := man) ?_ (by omega)
    have q3 : W * (2 * man) = 2 * (W * man) := by grind
    have q4 : 4 * W * man = 4 * (W * man) := Int.mul_assoc ..
    have q5 : 32 * man ≤ W * man := Int.mul_le_mul_of_nonneg_right (by omega) (by omega)
    omega
theorem INV_intBits {man : Int} {c : Nat} {w r : Int} (hw : 5 ≤ w) (hm : 0 < man) (hmC : man < 2 ^ c) (hlo : 2 ^ c ≤ 2 * man) (h : INV man c w r) : (Builtin.Int.intBits r : Int) ≤ w + 2 := by
  obtain ⟨h1, h2⟩ := INV_bits hw hm hmC hlo h
  have : Builtin.Int.intBits r ≤ w.toNat + 2 := bl_le_of_lt (by omega) h2
  omega
theorem over_start' {man : Int} {c : Nat} {ex w : Int} (hex : ex = -(c : Int)) (hw : 1 ≤ w) (hw2 : w ≤ 1000) (hm : 0 < man) (hmC : man < 2 ^ c) (hlo : 2 ^ c ≤ 2 * man) :
    tf man ex w ≠ 0 ∧ Builtin.divisionGoesByPylong (1 * 2 ^ (2 * w).toNat) (tf man ex w) = false ∧ INV man c w ((1 * (2:Int) ^ (2 * w).toNat).fdiv (tf man ex w)) := by
  obtain ⟨v, rfl⟩ : ∃ v : Nat, w = v := ⟨w.toNat, by omega⟩
  subst hex
  obtain ⟨f1, f2⟩ := tf_spec (man := man) (c := c) (w := v) (by omega)
  have hW := two_pow_pos v
  have hC := two_pow_pos c
  have hWe : (2:Int) ^ v % 2 = 0 ∧ 2 ≤ (2:Int) ^ v := by
    obtain ⟨u, rfl⟩ : ∃ u, v = u + 1 := ⟨v - 1, by omega⟩
    have := two_pow_pos u
    rw [Int.pow_succ]; omega
  have hN : man * 2 ^ v < 2 ^ c * 2 ^ v := Int.mul_lt_mul_of_pos_right hmC hW
  have hFW : tf man (-(c : Int)) v < 2 ^ v := by
    refine Int.lt_of_mul_lt_mul_right (a := 2 ^ c) ?_ (by omega)
    rw [Int.mul_comm (2 ^ v)]; omega
  have hF0 : 0 < tf man (-(c : Int)) v := by
    refine Int.not_le.mp fun hh => ?_
    have h1 : (tf man (-(c : Int)) v + 1) * 2 ^ c ≤ 1 * 2 ^ c := Int.mul_le_mul_of_nonneg_right (by omega) (by omega)
    have h2 : man * 2 ≤ man * 2 ^ v := Int.mul_le_mul_of_nonneg_left hWe.2 (by omega)
    omega
  refine ⟨by omega, noPy (k := v) (by have := cast_pow v; omega) (by omega), ?_⟩
  have e2 : (2 * (v : Int)).toNat = v + v := by omega
  rw [e2, Int.one_mul, fdiv_pos_eq hF0, Int.pow_add]
  have d1 := Int.mul_ediv_add_emod (2 ^ v * 2 ^ v) (tf man (-(c : Int)) v)
  have d2 := Int.emod_nonneg (2 ^ v * 2 ^ v) (Int.ne_of_gt hF0)
  have d3 := Int.emod_lt_of_pos (2 ^ v * 2 ^ v) hF0
  rw [Int.mul_comm (tf man (-(c : Int)) v)] at d1
  have d4 : 0 ≤ (2:Int) ^ v * 2 ^ v / tf man (-(c : Int)) v := Int.ediv_nonneg (Int.le_of_lt (Int.mul_pos hW hW)) (by omega)
  have key := over_start (man := man) (C := 2 ^ c) (W := 2 ^ v) (F := tf man (-(c : Int)) v) (r := 2 ^ v * 2 ^ v / tf man (-(c : Int)) v) hWe.2 hWe.1 hC hm hlo f1 f2 (by omega) (by rw [Int.add_mul, Int.one_mul]; omega) d4
  unfold INV
  rw [Int.toNat_natCast]
  exact key
theorem over_round' {man : Int} {c : Nat} {ex w0 p r : Int} (hex : ex = -(c : Int)) (hw0 : 11 ≤ w0) (hlt : w0 < p + 8) (hq : p + 8 ≤ 2 * w0 - 11) (hw2 : p + 8 ≤ 1000) (hm : 0 < man) (hmC : man < 2 ^ c) (hlo : 2 ^ c ≤ 2 * man) (hi : INV man c w0 r) :
    IntMulOk (tf man ex (p + 8)) (r * 2 ^ (p + 8 - w0).toNat) ∧
    IntMulOk (r * 2 ^ (p + 8 - w0).toNat) (1 * 2 ^ (p + 8).toNat - (tf man ex (p + 8) * (r * 2 ^ (p + 8 - w0).toNat)).fdiv (2 ^ (p + 8).toNat)) ∧
    INV man c (p + 8) (r * 2 ^ (p + 8 - w0).toNat + (r * 2 ^ (p + 8 - w0).toNat * (1 * 2 ^ (p + 8).toNat - (tf man ex (p + 8) * (r * 2 ^ (p + 8 - w0).toNat)).fdiv (2 ^ (p + 8).toNat))).fdiv (2 ^ (p + 8).toNat)) := by
  obtain ⟨v, hv⟩ : ∃ v : Nat, p + 8 = v := ⟨(p + 8).toNat, by omega⟩
  obtain ⟨u, rfl⟩ : ∃ u : Nat, w0 = u := ⟨w0.toNat, by omega⟩
  rw [hv]
  rw [hv] at hlt hq hw2
  subst hex
  obtain ⟨f1, f2⟩ := tf_spec (man := man) (c := c) (w := v) (by omega)
  have hW := two_pow_pos v
  have hC := two_pow_pos c
  obtain ⟨i1, i2⟩ := hi
  rw [Int.toNat_natCast] at i1 i2
  have ed : ((v : Int) - u).toNat = v - u := by omega
  rw [ed, Int.toNat_natCast, Int.one_mul, fdiv_pow, fdiv_pow]
  have hWD : (2:Int) ^ v = 2 ^ u * 2 ^ (v - u) := by rw [← Int.pow_add]; congr 1; omega
  have hu : (2:Int) ^ 11 ≤ 2 ^ u := pow_le (by omega)
  have e11 : (2:Int) ^ 11 = 2048 := rfl
  have hquad : 2048 * (2:Int) ^ v ≤ 2 ^ u * 2 ^ u := by
    rw [← e11, ← Int.pow_add, ← Int.pow_add]
    exact pow_le (by omega)
  have hD := two_pow_pos (v - u)
  have g1 := Int.mul_ediv_add_emod (tf man (-(c : Int)) v * (r * 2 ^ (v - u))) (2 ^ v)
  have g2 := Int.emod_nonneg (tf man (-(c : Int)) v * (r * 2 ^ (v - u))) (Int.ne_of_gt hW)
  have g3 := Int.emod_lt_of_pos (tf man (-(c : Int)) v * (r * 2 ^ (v - u))) hW
  have hN : man * 2 ^ v < 2 ^ c * 2 ^ v := Int.mul_lt_mul_of_pos_right hmC hW
  have hFW : tf man (-(c : Int)) v < 2 ^ v := by
    refine Int.lt_of_mul_lt_mul_right (a := 2 ^ c) ?_ (by omega)
    rw [Int.mul_comm (2 ^ v)]; omega
  have hF0 : 0 ≤ tf man (-(c : Int)) v := by
    refine Int.not_lt.mp fun hh => ?_
    have h1 : (tf man (-(c : Int)) v + 1) * 2 ^ c ≤ 0 := Int.mul_nonpos_of_nonpos_of_nonneg (by omega) (by omega)
    have : 0 ≤ man * 2 ^ v := Int.mul_nonneg (by omega) (by omega)
    omega
  generalize hGd : tf man (-(c : Int)) v * (r * 2 ^ (v - u)) / 2 ^ v = G at *
  generalize tf man (-(c : Int)) v * (r * 2 ^ (v - u)) % 2 ^ v = g at *
  have k1 := Int.mul_ediv_add_emod (r * 2 ^ (v - u) * (2 ^ v - G)) (2 ^ v)
  have k2 := Int.emod_nonneg (r * 2 ^ (v - u) * (2 ^ v - G)) (Int.ne_of_gt hW)
  have k3 := Int.emod_lt_of_pos (r * 2 ^ (v - u) * (2 ^ v - G)) hW
  have key := over_round (man := man) (C := 2 ^ c) (W := 2 ^ v) (W0 := 2 ^ u) (D := 2 ^ (v - u)) (F := tf man (-(c : Int)) v) (r0 := r) (G := G) (g := g) (H := r * 2 ^ (v - u) * (2 ^ v - G) / 2 ^ v) (h := r * 2 ^ (v - u) * (2 ^ v - G) % 2 ^ v)
    (by omega) (by omega) hWD hC hm hmC hlo hquad f1 f2 i1 i2 (by omega) g2 g3 (by omega) k2 k3
  obtain ⟨r1, r2, r3, r4⟩ := key
  have hb1 : Builtin.Int.intBits (r * 2 ^ (v - u)) ≤ v + 2 := bl_le_of_lt r3 (by
    have : (2:Int) ^ (v + 2) = 4 * 2 ^ v := by rw [Int.pow_add]; omega
    omega)
  have hb2 : Builtin.Int.intBits (tf man (-(c : Int)) v) ≤ v := bl_le_of_lt hF0 hFW
  have hb3 : Builtin.Int.intBits (2 ^ v - G) ≤ v + 2 := by
    have hG0 : 0 ≤ G := by rw [← hGd]; exact Int.ediv_nonneg (Int.mul_nonneg hF0 r3) (by omega)
    have hG1 : G ≤ 3 * 2 ^ v := by
      rw [← hGd]
      have z1 : tf man (-(c : Int)) v * (r * 2 ^ (v - u)) ≤ 2 ^ v * (r * 2 ^ (v - u)) := Int.mul_le_mul_of_nonneg_right (by omega) r3
      have z2 : tf man (-(c : Int)) v * (r * 2 ^ (v - u)) / 2 ^ v ≤ 2 ^ v * (r * 2 ^ (v - u)) / 2 ^ v := Int.ediv_le_ediv hW z1
      rw [Int.mul_ediv_cancel_left _ (Int.ne_of_gt hW)] at z2
      omega
    refine intBits_le ?_
    have z3 : ((2 ^ (v + 2) : Nat) : Int) = 4 * 2 ^ v := by rw [cast_pow, Int.pow_add]; omega
    omega
  refine ⟨mulOk_of_bits hb2 hb1 (by omega), mulOk_of_bits hb1 hb3 (by omega), ?_⟩
  unfold INV
  rw [Int.toNat_natCast]
  exact ⟨r1, r2⟩
theorem over_test {man : Int} {c : Nat} {ex w r : Int} (hex : ex = -(c : Int)) (hw : 5 ≤ w) (hw2 : w ≤ 1000) (hc : c ≤ 1000) (hm : 0 < man) (hmC : man < 2 ^ c) (hlo : 2 ^ c ≤ 2 * man) (h : INV man c w r) :
    IntMulOk r man ∧ (if r * man - 1 * 2 ^ (w + -ex).toNat < 0 then -(r * man - 1 * 2 ^ (w + -ex).toNat) else r * man - 1 * 2 ^ (w + -ex).toNat) < man * 2 ^ (8:Int).toNat := by
  have hb := INV_intBits hw hm hmC hlo h
  obtain ⟨h1, h2⟩ := h
  have e : (w + -ex).toNat = w.toNat + c := by omega
  have e8 : (2:Int) ^ (8:Int).toNat = 256 := rfl
  rw [e, Int.one_mul, Int.pow_add, e8]
  have hb2 : Builtin.Int.intBits man ≤ c := bl_le_of_lt (by omega) hmC
  refine ⟨mulOk_of_bits (Nat.le_refl _) hb2 (by omega), ?_⟩
  split <;> omega
end
section
open PySem PySem.W PyProof.Rows
theorem sq_mono {a b : Int} (ha : 0 ≤ a) (h : a ≤ b) : a * a ≤ b * b := Int.mul_le_mul h h ha (by omega)
theorem lt_of_sq_lt {a b : Int} (hb : 0 ≤ b) (h : a * a < b * b) : a < b := by
  refine Int.not_le.mp fun hh => ?_
  have := sq_mono hb hh
  omega
/-- what the root goes into one: the start -/
theorem root_start {man C W F G s : Int} (hW : 4096 ≤ W) (hW4 : W % 4 = 0) (hC : 0 < C) (hm : 0 < man) (hmC : man < C) (hlo : C ≤ 4 * man) (hF1 : F * C ≤ man * W) (hF2 : man * W < (F + 1) * C)
    (hG0 : 0 ≤ G) (hG1 : G * G ≤ F * W) (hG2 : F * W < (G + 1) * (G + 1)) (hs1 : s * G ≤ W * W) (hs2 : W * W < (s + 1) * G) (hs0 : 0 ≤ s) :
    (s - 32) * (s - 32) * man < W * W * C ∧ W * W * C < (s + 32) * (s + 32) * man ∧ W ≤ s := by
  have hW0 : 0 < W := by omega
  -- F
  have hFl : W / 4 ≤ F := by
    refine Int.not_lt.mp fun hh => ?_
    have h1 : (F + 1) * C ≤ (W / 4) * C := Int.mul_le_mul_of_nonneg_right (by omega) (by omega)
    have h2 : C * W ≤ 4 * man * W := Int.mul_le_mul_of_nonneg_right hlo (by omega)
    have h3 : 4 * ((W / 4) * C) = C * W := by
      have : 4 * (W / 4) = W := by omega
      calc 4 * ((W / 4) * C) = C * (4 * (W / 4)) := by grind
        _ = C * W := by rw [this]
    have h5 : 4 * man * W = 4 * (man * W) := Int.mul_assoc ..
    omega
  have hFu : F < W := by
    refine Int.lt_of_mul_lt_mul_right (a := C) ?_ (by omega)
    have : man * W < C * W := Int.mul_lt_mul_of_pos_right hmC hW0
    rw [Int.mul_comm W C]; omega
  have hGl : W / 2 ≤ G := by
    have h1 : (W / 2) * (W / 2) ≤ F * W := by
      have e : W = 4 * (W / 4) := by omega
      have e2 : W / 2 = 2 * (W / 4) := by omega
      have h2 : (W / 4) * W ≤ F * W := Int.mul_le_mul_of_nonneg_right hFl (by omega)
      have h3 : (W / 2) * (W / 2) = (W / 4) * (4 * (W / 4)) := by rw [e2]; grind
      rw [h3, ← e]; exact h2
    have h4 : W / 2 < G + 1 := lt_of_sq_lt (by omega) (by omega)
    omega
  have hGu : G < W := by
    refine lt_of_sq_lt (by omega) ?_
    have : F * W < W * W := Int.mul_lt_mul_of_pos_right hFu hW0
    omega
  have hsl : W ≤ s := by
    refine Int.not_lt.mp fun hh => ?_
    have : (s + 1) * G ≤ W * W := Int.mul_le_mul (by omega) (by omega) hG0 (by omega)
    omega
  have hsu : s ≤ 2 * W := by
    refine Int.not_lt.mp fun hh => ?_
    have h1 : (2 * W + 1) * (W / 2) ≤ s * G := Int.mul_le_mul (by omega) hGl (by omega) (by omega)
    have h2 : (2 * W + 1) * (W / 2) = W * (2 * (W / 2)) + W / 2 := by grind
    rw [h2, show 2 * (W / 2) = W by omega] at h1
    omega
  refine ⟨?_, ?_, hsl⟩
  · -- below
    have k1 : (s - 32) * (G + 2) ≤ W * W := by
      have : (s - 32) * (G + 2) = s * G + 2 * s - 32 * G - 64 := by grind
      omega
    have k2 : (s - 32) * (G + 2) * ((s - 32) * (G + 2)) ≤ W * W * (W * W) := sq_mono (Int.mul_nonneg (by omega) (by omega)) k1
    have k3 : man * W * W < (G + 2) * (G + 2) * C := by
      have z1 : man * W * W < (F + 1) * C * W := Int.mul_lt_mul_of_pos_right hF2 hW0
      have z2 : (F + 1) * C * W = (F * W + W) * C := by grind
      have z3 : (F * W + W) * C ≤ ((G + 2) * (G + 2)) * C := by
        refine Int.mul_le_mul_of_nonneg_right ?_ (by omega)
        have : (G + 2) * (G + 2) = (G + 1) * (G + 1) + 2 * G + 3 := by grind
        omega
      omega
    have k4 : 0 < (s - 32) * (s - 32) := Int.mul_pos (by omega) (by omega)
    have k5 : (s - 32) * (s - 32) * (man * W * W) < (s - 32) * (s - 32) * ((G + 2) * (G + 2) * C) := Int.mul_lt_mul_of_pos_left k3 k4
    have k6 : (s - 32) * (s - 32) * ((G + 2) * (G + 2) * C) = ((s - 32) * (G + 2) * ((s - 32) * (G + 2))) * C := by grind
    have k7 : ((s - 32) * (G + 2) * ((s - 32) * (G + 2))) * C ≤ W * W * (W * W) * C := Int.mul_le_mul_of_nonneg_right k2 (by omega)
    refine Int.lt_of_mul_lt_mul_right (a := W * W) ?_ (Int.le_of_lt (Int.mul_pos hW0 hW0))
    have k8 : (s - 32) * (s - 32) * man * (W * W) = (s - 32) * (s - 32) * (man * W * W) := by grind
    have k9 : W * W * C * (W * W) = W * W * (W * W) * C := by grind
    omega
  · -- above
    have hGp : 0 < G := by omega
    have k1 : W * W * (W * W) < (s + 1) * G * ((s + 1) * G) := by
      have z1 : W * W * (W * W) < (s + 1) * G * (W * W) := Int.mul_lt_mul_of_pos_right hs2 (Int.mul_pos hW0 hW0)
      have z2 : (s + 1) * G * (W * W) ≤ (s + 1) * G * ((s + 1) * G) := Int.mul_le_mul_of_nonneg_left (by omega) (Int.mul_nonneg (by omega) hG0)
      omega
    have k2 : (s + 1) * G * ((s + 1) * G) = (s + 1) * (s + 1) * (G * G) := by grind
    have k3 : (s + 1) * (s + 1) * (G * G) ≤ (s + 1) * (s + 1) * (F * W) := Int.mul_le_mul_of_nonneg_left hG1 (Int.mul_nonneg (by omega) (by omega))
    have k4 : W * W * (W * W) * C < (s + 1) * (s + 1) * (F * W) * C := Int.mul_lt_mul_of_pos_right (by omega) hC
    have k5 : (s + 1) * (s + 1) * (F * W) * C = (s + 1) * (s + 1) * W * (F * C) := by grind
    have k6 : (s + 1) * (s + 1) * W * (F * C) ≤ (s + 1) * (s + 1) * W * (man * W) := Int.mul_le_mul_of_nonneg_left hF1 (Int.mul_nonneg (Int.mul_nonneg (by omega) (by omega)) (by omega))
    have k7 : (s + 1) * (s + 1) ≤ (s + 32) * (s + 32) := sq_mono (by omega) (by omega)
    have k8 : (s + 1) * (s + 1) * man ≤ (s + 32) * (s + 32) * man := Int.mul_le_mul_of_nonneg_right k7 (by omega)
    have k9 : W * W * C < (s + 1) * (s + 1) * man := by
      refine Int.lt_of_mul_lt_mul_right (a := W * W) ?_ (Int.le_of_lt (Int.mul_pos hW0 hW0))
      have z1 : W * W * C * (W * W) = W * W * (W * W) * C := by grind
      have z2 : (s + 1) * (s + 1) * man * (W * W) = (s + 1) * (s + 1) * W * (man * W) := by grind
      omega
    omega
/-- and a round -/
theorem root_round {man C W W0 D F s0 a Sq G g H h : Int} (hW0 : 2048 ≤ W0) (hD : 1 ≤ D) (hW : W = W0 * D) (hC : 0 < C) (hm : 0 < man) (hmC : man < C) (hlo : C ≤ 4 * man) (hquad : 2048 * W ≤ W0 * W0)
    (hF0 : 0 ≤ F) (hF1 : F * C ≤ man * W) (hF2 : man * W < (F + 1) * C) (hs0 : 32 ≤ s0) (hi1 : (s0 - 32) * (s0 - 32) * man < W0 * W0 * C) (hi2 : W0 * W0 * C < (s0 + 32) * (s0 + 32) * man)
    (hS : s0 * D * (s0 * D) = W * Sq + a) (ha0 : 0 ≤ a) (ha1 : a < W) (hG : F * Sq = W * G + g) (hg0 : 0 ≤ g) (hg1 : g < W)
    (hH : s0 * D * (W - G) = 2 * W * H + h) (hh0 : 0 ≤ h) (hh1 : h < 2 * W) :
    (s0 * D + H - 32) * (s0 * D + H - 32) * man < W * W * C ∧ W * W * C < (s0 * D + H + 32) * (s0 * D + H + 32) * man ∧ 32 ≤ s0 * D + H ∧ 0 ≤ s0 * D ∧ s0 * D ≤ 3 * W := by
  have hWp : 0 < W := by rw [hW]; exact Int.mul_pos (by omega) (by omega)
  have hWD : 2048 * D ≤ W := by rw [hW]; exact Int.mul_le_mul_of_nonneg_right hW0 (by omega)
  -- D ≤ W0 / 2048
  have hDW : 2048 * D ≤ W0 := by
    refine Int.le_of_mul_le_mul_right (a := W0) ?_ (by omega)
    have : 2048 * D * W0 = 2048 * W := by rw [hW]; grind
    omega
  have ht1 : (s0 * D - 32 * D) * (s0 * D - 32 * D) * man < W * W * C := by
    have z : (s0 * D - 32 * D) * (s0 * D - 32 * D) * man = D * D * ((s0 - 32) * (s0 - 32) * man) := by grind
    have z2 : W * W * C = D * D * (W0 * W0 * C) := by rw [hW]; grind
    rw [z, z2]
    exact Int.mul_lt_mul_of_pos_left hi1 (Int.mul_pos (by omega) (by omega))
  have ht2 : W * W * C < (s0 * D + 32 * D) * (s0 * D + 32 * D) * man := by
    have z : (s0 * D + 32 * D) * (s0 * D + 32 * D) * man = D * D * ((s0 + 32) * (s0 + 32) * man) := by grind
    have z2 : W * W * C = D * D * (W0 * W0 * C) := by rw [hW]; grind
    rw [z, z2]
    exact Int.mul_lt_mul_of_pos_left hi2 (Int.mul_pos (by omega) (by omega))
  have htb : 32 * D ≤ s0 * D := Int.mul_le_mul_of_nonneg_right hs0 (by omega)
  generalize htd : s0 * D = t at *
  generalize hbd : 32 * D = b at *
  have hb0 : 0 < b := by omega
  have hbW : 64 * b ≤ W := by omega
  have hWC : 0 < W * C := Int.mul_pos hWp hC
  have hWWC : 0 < W * W * C := by rw [Int.mul_assoc]; exact Int.mul_pos hWp hWC
  -- t ≤ 3 W
  have htu : t - b < 2 * W := by
    refine lt_of_sq_lt (by omega) ?_
    refine Int.lt_of_mul_lt_mul_right (a := man) ?_ (by omega)
    have z : W * W * C ≤ W * W * (4 * man) := Int.mul_le_mul_of_nonneg_left hlo (Int.mul_nonneg (by omega) (by omega))
    have z2 : 2 * W * (2 * W) * man = W * W * (4 * man) := by grind
    omega
  have htl : W < t + b := by
    refine lt_of_sq_lt (by omega) ?_
    refine Int.lt_of_mul_lt_mul_right (a := man) ?_ (by omega)
    have z : W * W * man < W * W * C := Int.mul_lt_mul_of_pos_left hmC (Int.mul_pos hWp hWp)
    omega
  have ht3 : t ≤ 3 * W := by omega
  have hth : W ≤ 2 * t := by omega
  have ht0 : 0 ≤ t := by omega
  -- E
  have hE : ∃ E, E = W * W * C - man * (t * t) := ⟨_, rfl⟩
  obtain ⟨E, hEd⟩ := hE
  have hEu : E ≤ W * W * C := by
    have : 0 ≤ man * (t * t) := Int.mul_nonneg (by omega) (Int.mul_nonneg ht0 ht0)
    omega
  have hE1 : -(2 * (t * b) * man) ≤ E := by
    have z : (t - b) * (t - b) * man = man * (t * t) - 2 * (t * b) * man + b * b * man := by grind
    have z2 : 0 ≤ b * b * man := Int.mul_nonneg (Int.mul_nonneg (by omega) (by omega)) (by omega)
    omega
  have hE2 : E ≤ 3 * (t * b) * man := by
    have z : (t + b) * (t + b) * man = man * (t * t) + 2 * (t * b) * man + b * b * man := by grind
    have z2 : b * b * man ≤ t * b * man := Int.mul_le_mul_of_nonneg_right (Int.mul_le_mul_of_nonneg_right htb (by omega)) (by omega)
    have z3 : 3 * (t * b) * man = 2 * (t * b) * man + t * b * man := by grind
    omega
  have hEl : -(W * W * C) ≤ E := by
    have z1 : 2 * (t * b) * man ≤ 2 * (3 * W * b) * C := by
      refine Int.mul_le_mul ?_ (by omega) (by omega) ?_
      · exact Int.mul_le_mul_of_nonneg_left (Int.mul_le_mul_of_nonneg_right ht3 (by omega)) (by decide)
      · exact Int.mul_nonneg (by decide) (Int.mul_nonneg (by omega) (by omega))
    have z2 : 2 * (3 * W * b) * C = (6 * b) * (W * C) := by grind
    have z3 : (6 * b) * (W * C) ≤ W * (W * C) := Int.mul_le_mul_of_nonneg_right (by omega) (by omega)
    have z4 : W * (W * C) = W * W * C := (Int.mul_assoc ..).symm
    omega
  -- v
  have hv : ∃ v, v = W * (W - G) * C - E := ⟨_, rfl⟩
  obtain ⟨v, hvd⟩ := hv
  have hWv : W * v = (man * W - F * C) * (t * t) + F * C * a + g * W * C := by
    have k1 : W * G = F * Sq - g := by omega
    have k2 : W * Sq = t * t - a := by omega
    have k3 : W * v = W * W * (W * C) - (W * G) * (W * C) - W * E := by rw [hvd]; grind
    have k4 : (F * Sq - g) * (W * C) = F * C * (W * Sq) - g * W * C := by grind
    rw [k3, k1, k4, k2, hEd]; grind
  have hf0 : 0 ≤ man * W - F * C := by omega
  have hf1 : man * W - F * C < C := by rw [Int.add_mul] at hF2; omega
  have hv0 : 0 ≤ v := by
    refine Int.not_lt.mp fun hh => ?_
    have q1 : W * v < 0 := Int.mul_neg_of_pos_of_neg hWp hh
    have q2 : 0 ≤ (man * W - F * C) * (t * t) := Int.mul_nonneg hf0 (Int.mul_nonneg ht0 ht0)
    have q3 : 0 ≤ F * C * a := Int.mul_nonneg (Int.mul_nonneg hF0 (by omega)) ha0
    have q4 : 0 ≤ g * W * C := Int.mul_nonneg (Int.mul_nonneg hg0 (by omega)) (by omega)
    omega
  have hv1 : v ≤ 11 * (W * C) := by
    refine Int.le_of_mul_le_mul_left ?_ hWp
    have q1 : t * t ≤ 3 * W * (3 * W) := sq_mono ht0 ht3
    have q2 : (man * W - F * C) * (t * t) ≤ C * (3 * W * (3 * W)) := Int.mul_le_mul (by omega) q1 (Int.mul_nonneg ht0 ht0) (by omega)
    have q3 : F * C * a ≤ man * W * W := Int.mul_le_mul hF1 (by omega) ha0 (Int.mul_nonneg (by omega) (by omega))
    have q3' : man * W * W ≤ C * W * W := Int.mul_le_mul_of_nonneg_right (Int.mul_le_mul_of_nonneg_right (by omega) (by omega)) (by omega)
    have q4 : g * W * C ≤ W * W * C := Int.mul_le_mul_of_nonneg_right (Int.mul_le_mul_of_nonneg_right (by omega) (by omega)) (by omega)
    have q5 : C * (3 * W * (3 * W)) = 9 * (W * W * C) := by grind
    have q6 : C * W * W = W * W * C := by grind
    have q7 : W * (11 * (W * C)) = 11 * (W * W * C) := by grind
    omega
  -- the step, times K
  have hK : ∃ K, K = 2 * (W * W * C) := ⟨_, rfl⟩
  obtain ⟨K, hKd⟩ := hK
  have hKp : 0 < K := by omega
  have hstep : K * (t + H) = t * (K + E) + (t * v - W * C * h) := by
    have k1 : 2 * W * H = t * (W - G) - h := by omega
    have k2 : K * (t + H) = K * t + W * C * (2 * W * H) := by rw [hKd]; grind
    have k3 : W * C * (t * (W - G) - h) = t * (W * (W - G) * C) - W * C * h := by grind
    have k4 : W * (W - G) * C = E + v := by omega
    rw [k2, k1, k3, k4]; grind
  have hq1 : t * v ≤ 17 * K := by
    have z1 : t * v ≤ 3 * W * (11 * (W * C)) := Int.mul_le_mul ht3 hv1 hv0 (by omega)
    have z2 : 3 * W * (11 * (W * C)) = 33 * (W * W * C) := by grind
    omega
  have hq2 : W * C * h ≤ K := by
    have z1 : W * C * h ≤ W * C * (2 * W) := Int.mul_le_mul_of_nonneg_left (by omega) (by omega)
    have z2 : W * C * (2 * W) = 2 * (W * W * C) := by grind
    omega
  have hq0 : 0 ≤ t * v := Int.mul_nonneg ht0 hv0
  have hq3 : 0 ≤ W * C * h := Int.mul_nonneg (by omega) hh0
  have hKE : K ≤ 2 * (K + E) := by omega
  have hKEu : 2 * (K + E) ≤ 3 * K := by omega
  -- t² man
  have htm : 2 * (t * t * man) = K - 2 * E := by rw [hKd, hEd]; grind
  -- E² is small
  have hEE : 2 * (E * E) ≤ 31 * (K * (t * man)) := by
    have z0 : 0 ≤ t * b * man := Int.mul_nonneg (Int.mul_nonneg ht0 (by omega)) (by omega)
    have z1 : E * E ≤ 3 * (t * b) * man * (3 * (t * b) * man) := by
      rcases Int.le_total 0 E with z | z
      · exact sq_mono z hE2
      · have e3 : 3 * (t * b) * man = 3 * (t * b * man) := by grind
        have e2 : 2 * (t * b) * man = 2 * (t * b * man) := by grind
        have := sq_mono (a := -E) (b := 3 * (t * b) * man) (by omega) (by omega)
        rw [Int.neg_mul_neg] at this; exact this
    have z2 : 3 * (t * b) * man * (3 * (t * b) * man) = (9 * (b * b) * (t * man)) * (t * man) := by grind
    have z3 : 9 * (b * b) * (t * man) ≤ 14 * K := by
      have y1 : t * man ≤ 3 * W * C := Int.mul_le_mul ht3 (by omega) (by omega) (by omega)
      have y2 : 9 * (b * b) * (t * man) ≤ 9 * (b * b) * (3 * W * C) := Int.mul_le_mul_of_nonneg_left y1 (Int.mul_nonneg (by decide) (Int.mul_nonneg (by omega) (by omega)))
      have y3 : b * b ≤ W := by
        have x1 : b * b = 32 * D * (32 * D) := by rw [hbd]
        have x2 : 32 * D * (32 * D) = (1024 * D) * D := by grind
        have x3 : (1024 * D) * D ≤ W0 * D := Int.mul_le_mul_of_nonneg_right (by omega) (by omega)
        omega
      have y4 : 9 * (b * b) * (3 * W * C) = (27 * (b * b)) * (W * C) := by grind
      have y5 : (27 * (b * b)) * (W * C) ≤ (27 * W) * (W * C) := Int.mul_le_mul_of_nonneg_right (by omega) (by omega)
      have y6 : (27 * W) * (W * C) = 27 * (W * W * C) := by grind
      omega
    have z4 : (9 * (b * b) * (t * man)) * (t * man) ≤ 14 * K * (t * man) := Int.mul_le_mul_of_nonneg_right z3 (Int.mul_nonneg ht0 (by omega))
    have z5 : 14 * K * (t * man) = 14 * (K * (t * man)) := Int.mul_assoc ..
    have z6 : 0 ≤ K * (t * man) := Int.mul_nonneg (by omega) (Int.mul_nonneg ht0 (by omega))
    omega
  -- the cube
  have hcube : 2 * (t * (K + E) * (t * (K + E)) * man) = K * K * K - 3 * (K * (E * E)) - 2 * (E * (E * E)) := by
    have z1 : 2 * (t * (K + E) * (t * (K + E)) * man) = (2 * (t * t * man)) * ((K + E) * (K + E)) := by grind
    rw [z1, htm]; grind
  have hE3 : -(K * (E * E)) ≤ 2 * (E * (E * E)) ∧ 2 * (E * (E * E)) ≤ K * (E * E) := by
    have z0 : 0 ≤ E * E := by
      rcases Int.le_total 0 E with z | z
      · exact Int.mul_nonneg z z
      · exact Int.mul_nonneg_of_nonpos_of_nonpos z z
    have z1 : (-(2 * E)) * (E * E) ≤ K * (E * E) := Int.mul_le_mul_of_nonneg_right (by omega) z0
    have z2 : (2 * E) * (E * E) ≤ K * (E * E) := Int.mul_le_mul_of_nonneg_right (by omega) z0
    have z3 : (-(2 * E)) * (E * E) = -(2 * (E * (E * E))) := by grind
    have z4 : (2 * E) * (E * E) = 2 * (E * (E * E)) := Int.mul_assoc ..
    omega
  have hEE0 : 0 ≤ E * E := by
    rcases Int.le_total 0 E with z | z
    · exact Int.mul_nonneg z z
    · exact Int.mul_nonneg_of_nonpos_of_nonpos z z
  have hKEE : 0 ≤ K * (E * E) := Int.mul_nonneg (by omega) hEE0
  have htKE : 0 ≤ t * (K + E) := Int.mul_nonneg ht0 (by omega)
  have htKE2 : K * t ≤ 2 * (t * (K + E)) := by
    have : K * t ≤ 2 * (K + E) * t := Int.mul_le_mul_of_nonneg_right hKE ht0
    have e : 2 * (K + E) * t = 2 * (t * (K + E)) := by grind
    omega
  have hlow : 32 ≤ t + H := by
    refine Int.le_of_mul_le_mul_left (a := K) ?_ hKp
    rw [hstep]
    have z1 : K * 100 ≤ K * t := Int.mul_le_mul_of_nonneg_left (by omega) (by omega)
    omega
  have hKK : 0 < K * K := Int.mul_pos hKp hKp
  have hfin : K * K * (W * W * C) * 2 = K * K * K := by rw [hKd]; grind
  refine ⟨?_, ?_, hlow, ht0, ht3⟩
  · -- below
    refine Int.lt_of_mul_lt_mul_left (a := K * K) ?_ (by omega)
    have z1 : K * (t + H - 32) ≤ t * (K + E) - 15 * K := by
      have : K * (t + H - 32) = K * (t + H) - 32 * K := by grind
      omega
    have z2 : 0 ≤ K * (t + H - 32) := Int.mul_nonneg (by omega) (by omega)
    have z3 : K * (t + H - 32) * (K * (t + H - 32)) * man ≤ (t * (K + E) - 15 * K) * (t * (K + E) - 15 * K) * man := Int.mul_le_mul_of_nonneg_right (sq_mono z2 z1) (by omega)
    have z4 : K * K * ((t + H - 32) * (t + H - 32) * man) = K * (t + H - 32) * (K * (t + H - 32)) * man := by grind
    have z5 : (t * (K + E) - 15 * K) * (t * (K + E) - 15 * K) * man = t * (K + E) * (t * (K + E)) * man - (30 * (t * (K + E)) - 225 * K) * (K * man) := by grind
    have z6 : 0 < (30 * (t * (K + E)) - 225 * K) * (K * man) := by
      refine Int.mul_pos ?_ (Int.mul_pos hKp hm)
      have : K * 100 ≤ K * t := Int.mul_le_mul_of_nonneg_left (by omega) (by omega)
      omega
    omega
  · -- above
    refine Int.lt_of_mul_lt_mul_left (a := K * K) ?_ (by omega)
    have z1 : t * (K + E) + 31 * K ≤ K * (t + H + 32) := by
      have : K * (t + H + 32) = K * (t + H) + 32 * K := by grind
      omega
    have z2 : 0 ≤ t * (K + E) + 31 * K := by omega
    have z3 : (t * (K + E) + 31 * K) * (t * (K + E) + 31 * K) * man ≤ K * (t + H + 32) * (K * (t + H + 32)) * man := Int.mul_le_mul_of_nonneg_right (sq_mono z2 z1) (by omega)
    have z4 : K * K * ((t + H + 32) * (t + H + 32) * man) = K * (t + H + 32) * (K * (t + H + 32)) * man := by grind
    have z5 : (t * (K + E) + 31 * K) * (t * (K + E) + 31 * K) * man = t * (K + E) * (t * (K + E)) * man + 62 * (t * (K + E)) * (K * man) + 961 * (K * K * man) := by grind
    have z6 : K * t * (K * man) ≤ 2 * (t * (K + E)) * (K * man) := Int.mul_le_mul_of_nonneg_right htKE2 (Int.mul_nonneg (by omega) (by omega))
    have z7 : 62 * (t * (K + E)) * (K * man) = 31 * (2 * (t * (K + E)) * (K * man)) := by grind
    have z8 : K * (2 * (E * E)) ≤ K * (31 * (K * (t * man))) := Int.mul_le_mul_of_nonneg_left hEE (by omega)
    have z9 : K * (31 * (K * (t * man))) = 31 * (K * t * (K * man)) := by grind
    have z10 : K * (2 * (E * E)) = 2 * (K * (E * E)) := by grind
    have z11 : 0 < K * K * man := Int.mul_pos hKK hm
    omega
end
section
open PySem PySem.W PyProof.Rows
/-- s is what the root of man * 2 ^ -c goes into one, at w bits, but for 32 units -/
def INR (man : Int) (c : Nat) (w s : Int) : Prop := (s - 32) * (s - 32) * man < 2 ^ w.toNat * 2 ^ w.toNat * 2 ^ c ∧ 2 ^ w.toNat * 2 ^ w.toNat * 2 ^ c < (s + 32) * (s + 32) * man ∧ 32 ≤ s
theorem INR_bounds {man : Int} {c : Nat} {w s : Int} (hw : 12 ≤ w) (hm : 0 < man) (hmC : man < 2 ^ c) (hlo : 2 ^ c ≤ 4 * man) (h : INR man c w s) : 2 ^ w.toNat < s + 32 ∧ s < 3 * 2 ^ w.toNat ∧ 4000 ≤ s := by
  obtain ⟨h1, h2, h3⟩ := h
  have h12 : (2:Int) ^ 12 ≤ 2 ^ w.toNat := pow_le (by omega)
  have e12 : (2:Int) ^ 12 = 4096 := rfl
  generalize (2:Int) ^ w.toNat = W at *
  generalize (2:Int) ^ c = C at *
  have hWW : 0 < W * W := Int.mul_pos (by omega) (by omega)
  have k1 : W < s + 32 := by
    refine lt_of_sq_lt (by omega) ?_
    refine Int.lt_of_mul_lt_mul_right (a := man) ?_ (by omega)
    have z : W * W * man < W * W * C := Int.mul_lt_mul_of_pos_left hmC hWW
    omega
  have k2 : s - 32 < 2 * W := by
    refine lt_of_sq_lt (by omega) ?_
    refine Int.lt_of_mul_lt_mul_right (a := man) ?_ (by omega)
    have z : W * W * C ≤ W * W * (4 * man) := Int.mul_le_mul_of_nonneg_left hlo (by omega)
    have z2 : 2 * W * (2 * W) * man = W * W * (4 * man) := by grind
    omega
  exact ⟨k1, by omega, by omega⟩
theorem INR_bits {man : Int} {c : Nat} {w s : Int} (hw : 12 ≤ w) (hm : 0 < man) (hmC : man < 2 ^ c) (hlo : 2 ^ c ≤ 4 * man) (h : INR man c w s) : (Builtin.Int.intBits s : Int) ≤ w + 2 := by
  obtain ⟨_, h2, h3⟩ := INR_bounds hw hm hmC hlo h
  have : Builtin.Int.intBits s ≤ w.toNat + 2 := bl_le_of_lt (by omega) (by
    have : (2:Int) ^ (w.toNat + 2) = 4 * 2 ^ w.toNat := by rw [Int.pow_add]; omega
    omega)
  omega
theorem tf_bounds {man : Int} {c : Nat} {v : Nat} (hv : 2 ≤ v) (hm : 0 < man) (hmC : man < 2 ^ c) (hlo : 2 ^ c ≤ 4 * man) : 0 < tf man (-(c : Int)) v ∧ tf man (-(c : Int)) v < 2 ^ v := by
  obtain ⟨f1, f2⟩ := tf_spec (man := man) (c := c) (w := v) (by omega)
  have hW := two_pow_pos v
  have hC := two_pow_pos c
  have h2 : (2:Int) ^ 2 ≤ 2 ^ v := pow_le hv
  have e2 : (2:Int) ^ 2 = 4 := rfl
  constructor
  · refine Int.not_le.mp fun hh => ?_
    have h1 : (tf man (-(c : Int)) v + 1) * 2 ^ c ≤ 1 * 2 ^ c := Int.mul_le_mul_of_nonneg_right (by omega) (by omega)
    have h2 : man * 4 ≤ man * 2 ^ v := Int.mul_le_mul_of_nonneg_left (by omega) (by omega)
    omega
  · refine Int.lt_of_mul_lt_mul_right (a := 2 ^ c) ?_ (by omega)
    have hN : man * 2 ^ v < 2 ^ c * 2 ^ v := Int.mul_lt_mul_of_pos_right hmC hW
    rw [Int.mul_comm (2 ^ v)]; omega
theorem root_start' {man : Int} {c : Nat} {ex w : Int} (hex : ex = -(c : Int)) (hw : 12 ≤ w) (hw2 : w ≤ 1000) (hm : 0 < man) (hmC : man < 2 ^ c) (hlo : 2 ^ c ≤ 4 * man) :
    0 < tf man ex w ∧ (Builtin.Int.intBits (tf man ex w) : Int) ≤ w ∧ sq (tf man ex w * 2 ^ w.toNat) ≠ 0 ∧ Builtin.divisionGoesByPylong (1 * 2 ^ (2 * w).toNat) (sq (tf man ex w * 2 ^ w.toNat)) = false ∧ INR man c w ((1 * (2:Int) ^ (2 * w).toNat).fdiv (sq (tf man ex w * 2 ^ w.toNat))) := by
  obtain ⟨v, rfl⟩ : ∃ v : Nat, w = v := ⟨w.toNat, by omega⟩
  subst hex
  obtain ⟨f1, f2⟩ := tf_spec (man := man) (c := c) (w := v) (by omega)
  obtain ⟨b1, b2⟩ := tf_bounds (man := man) (c := c) (v := v) (by omega) hm hmC hlo
  have hW := two_pow_pos v
  have hC := two_pow_pos c
  have h12 : (2:Int) ^ 12 ≤ 2 ^ v := pow_le (by omega)
  have e12 : (2:Int) ^ 12 = 4096 := rfl
  have h4 : (2:Int) ^ v % 4 = 0 := by
    obtain ⟨u, rfl⟩ : ∃ u, v = u + 2 := ⟨v - 2, by omega⟩
    rw [Int.pow_add]; omega
  rw [Int.toNat_natCast]
  have hX : 0 < tf man (-(c : Int)) v * 2 ^ v := Int.mul_pos b1 hW
  have g0 := sq_pos hX
  have g1 := sq_le (x := tf man (-(c : Int)) v * 2 ^ v) (by omega)
  have g2 := lt_sq (x := tf man (-(c : Int)) v * 2 ^ v) (by omega)
  have hbit : Builtin.Int.intBits (tf man (-(c : Int)) v) ≤ v := bl_le_of_lt (by omega) b2
  refine ⟨b1, by omega, by omega, ?_, ?_⟩
  · refine noPy (k := v + v) ?_ (by omega)
    have z1 : tf man (-(c : Int)) v * 2 ^ v ≤ 2 ^ v * 2 ^ v := Int.mul_le_mul_of_nonneg_right (by omega) (by omega)
    have z2 := sq_le_self (by omega) g1
    have z3 := cast_pow (v + v)
    rw [Int.pow_add] at z3
    omega
  · generalize sq (tf man (-(c : Int)) v * 2 ^ v) = G at *
    have e2 : (2 * (v : Int)).toNat = v + v := by omega
    rw [e2, Int.one_mul, fdiv_pos_eq (by omega), Int.pow_add]
    have d1 := Int.mul_ediv_add_emod (2 ^ v * 2 ^ v) G
    have d2 := Int.emod_nonneg (2 ^ v * 2 ^ v) (show G ≠ 0 by omega)
    have d3 := Int.emod_lt_of_pos (2 ^ v * 2 ^ v) (show 0 < G by omega)
    have d4 : 0 ≤ (2:Int) ^ v * 2 ^ v / G := Int.ediv_nonneg (Int.le_of_lt (Int.mul_pos hW hW)) (by omega)
    rw [Int.mul_comm G] at d1
    obtain ⟨k1, k2, k3⟩ := root_start (man := man) (C := 2 ^ c) (W := 2 ^ v) (F := tf man (-(c : Int)) v) (G := G) (s := 2 ^ v * 2 ^ v / G) (by omega) h4 hC hm hmC hlo f1 f2 (by omega) g1 g2 (by omega) (by rw [Int.add_mul, Int.one_mul]; omega) d4
    unfold INR
    rw [Int.toNat_natCast]
    exact ⟨k1, k2, by omega⟩
theorem root_round' {man : Int} {c : Nat} {ex w0 p s : Int} (hex : ex = -(c : Int)) (hw0 : 12 ≤ w0) (hlt : w0 < p + 8) (hq : p + 8 ≤ 2 * w0 - 11) (hw2 : p + 8 ≤ 1000) (hm : 0 < man) (hmC : man < 2 ^ c) (hlo : 2 ^ c ≤ 4 * man) (hi : INR man c w0 s) :
    IntMulOk (s * 2 ^ (p + 8 - w0).toNat) (s * 2 ^ (p + 8 - w0).toNat) ∧
    IntMulOk (tf man ex (p + 8)) ((s * 2 ^ (p + 8 - w0).toNat * (s * 2 ^ (p + 8 - w0).toNat)).fdiv (2 ^ (p + 8).toNat)) ∧
    IntMulOk (s * 2 ^ (p + 8 - w0).toNat) (1 * 2 ^ (p + 8).toNat - (tf man ex (p + 8) * ((s * 2 ^ (p + 8 - w0).toNat * (s * 2 ^ (p + 8 - w0).toNat)).fdiv (2 ^ (p + 8).toNat))).fdiv (2 ^ (p + 8).toNat)) ∧
    INR man c (p + 8) (s * 2 ^ (p + 8 - w0).toNat + (s * 2 ^ (p + 8 - w0).toNat * (1 * 2 ^ (p + 8).toNat - (tf man ex (p + 8) * ((s * 2 ^ (p + 8 - w0).toNat * (s * 2 ^ (p + 8 - w0).toNat)).fdiv (2 ^ (p + 8).toNat))).fdiv (2 ^ (p + 8).toNat))).fdiv (2 ^ (p + 8 + 1).toNat)) := by
  obtain ⟨v, hv⟩ : ∃ v : Nat, p + 8 = v := ⟨(p + 8).toNat, by omega⟩
  obtain ⟨u, rfl⟩ : ∃ u : Nat, w0 = u := ⟨w0.toNat, by omega⟩
  rw [hv]
  rw [hv] at hlt hq hw2
  subst hex
  obtain ⟨f1, f2⟩ := tf_spec (man := man) (c := c) (w := v) (by omega)
  obtain ⟨b1, b2⟩ := tf_bounds (man := man) (c := c) (v := v) (by omega) hm hmC hlo
  have hW := two_pow_pos v
  have hC := two_pow_pos c
  obtain ⟨i1, i2, i3⟩ := hi
  rw [Int.toNat_natCast] at i1 i2
  have ed : ((v : Int) - u).toNat = v - u := by omega
  have ed2 : ((v : Int) + 1).toNat = v + 1 := by omega
  rw [ed, ed2, Int.toNat_natCast, Int.one_mul, fdiv_pow, fdiv_pow, fdiv_pow]
  have hWD : (2:Int) ^ v = 2 ^ u * 2 ^ (v - u) := by rw [← Int.pow_add]; congr 1; omega
  have hu : (2:Int) ^ 11 ≤ 2 ^ u := pow_le (by omega)
  have e11 : (2:Int) ^ 11 = 2048 := rfl
  have hquad : 2048 * (2:Int) ^ v ≤ 2 ^ u * 2 ^ u := by
    rw [← e11, ← Int.pow_add, ← Int.pow_add]
    exact pow_le (by omega)
  have hD := two_pow_pos (v - u)
  have hv1 : (2:Int) ^ (v + 1) = 2 * 2 ^ v := by rw [Int.pow_succ]; omega
  rw [hv1]
  have a1 := Int.mul_ediv_add_emod (s * 2 ^ (v - u) * (s * 2 ^ (v - u))) (2 ^ v)
  have a2 := Int.emod_nonneg (s * 2 ^ (v - u) * (s * 2 ^ (v - u))) (Int.ne_of_gt hW)
  have a3 := Int.emod_lt_of_pos (s * 2 ^ (v - u) * (s * 2 ^ (v - u))) hW
  generalize hSq : s * 2 ^ (v - u) * (s * 2 ^ (v - u)) / 2 ^ v = Sq at *
  generalize s * 2 ^ (v - u) * (s * 2 ^ (v - u)) % 2 ^ v = a at *
  have g1 := Int.mul_ediv_add_emod (tf man (-(c : Int)) v * Sq) (2 ^ v)
  have g2 := Int.emod_nonneg (tf man (-(c : Int)) v * Sq) (Int.ne_of_gt hW)
  have g3 := Int.emod_lt_of_pos (tf man (-(c : Int)) v * Sq) hW
  generalize hGd : tf man (-(c : Int)) v * Sq / 2 ^ v = G at *
  generalize tf man (-(c : Int)) v * Sq % 2 ^ v = g at *
  have k1 := Int.mul_ediv_add_emod (s * 2 ^ (v - u) * (2 ^ v - G)) (2 * 2 ^ v)
  have k2 := Int.emod_nonneg (s * 2 ^ (v - u) * (2 ^ v - G)) (show (2:Int) * 2 ^ v ≠ 0 by omega)
  have k3 := Int.emod_lt_of_pos (s * 2 ^ (v - u) * (2 ^ v - G)) (show (0:Int) < 2 * 2 ^ v by omega)
  obtain ⟨r1, r2, r3, r4, r5⟩ := root_round (man := man) (C := 2 ^ c) (W := 2 ^ v) (W0 := 2 ^ u) (D := 2 ^ (v - u)) (F := tf man (-(c : Int)) v) (s0 := s) (a := a) (Sq := Sq) (G := G) (g := g) (H := s * 2 ^ (v - u) * (2 ^ v - G) / (2 * 2 ^ v)) (h := s * 2 ^ (v - u) * (2 ^ v - G) % (2 * 2 ^ v))
    (by omega) (by omega) hWD hC hm hmC hlo hquad (by omega) f1 f2 i3 i1 i2 (by omega) a2 a3 (by omega) g2 g3 (by omega) k2 k3
  have e4 : (2:Int) ^ (v + 2) = 4 * 2 ^ v := by rw [Int.pow_add]; omega
  have e5 : (2:Int) ^ (v + 4) = 16 * 2 ^ v := by rw [Int.pow_add]; omega
  have hb1 : Builtin.Int.intBits (s * 2 ^ (v - u)) ≤ v + 2 := bl_le_of_lt r4 (by omega)
  have hb2 : Builtin.Int.intBits (tf man (-(c : Int)) v) ≤ v := bl_le_of_lt (by omega) b2
  have hSq0 : 0 ≤ Sq := by rw [← hSq]; exact Int.ediv_nonneg (Int.mul_nonneg r4 r4) (by omega)
  have hSq1 : Sq ≤ 9 * 2 ^ v := by
    have z1 : s * 2 ^ (v - u) * (s * 2 ^ (v - u)) ≤ 3 * 2 ^ v * (3 * 2 ^ v) := sq_mono r4 r5
    refine Int.le_of_mul_le_mul_left (a := 2 ^ v) ?_ hW
    have z2 : (2:Int) ^ v * (9 * 2 ^ v) = 3 * 2 ^ v * (3 * 2 ^ v) := by grind
    omega
  have hb4 : Builtin.Int.intBits Sq ≤ v + 4 := bl_le_of_lt hSq0 (by omega)
  have hb3 : Builtin.Int.intBits (2 ^ v - G) ≤ v + 4 := by
    have hG0 : 0 ≤ G := by rw [← hGd]; exact Int.ediv_nonneg (Int.mul_nonneg (by omega) hSq0) (by omega)
    have hG1 : G ≤ 9 * 2 ^ v := by
      refine Int.le_of_mul_le_mul_left (a := 2 ^ v) ?_ hW
      have z1 : tf man (-(c : Int)) v * Sq ≤ 2 ^ v * (9 * 2 ^ v) := Int.mul_le_mul (by omega) hSq1 hSq0 (by omega)
      omega
    refine intBits_le ?_
    have z3 : ((2 ^ (v + 4) : Nat) : Int) = 16 * 2 ^ v := by rw [cast_pow, Int.pow_add]; omega
    omega
  refine ⟨mulOk_of_bits hb1 hb1 (by omega), mulOk_of_bits hb2 hb4 (by omega), mulOk_of_bits hb1 hb3 (by omega), ?_⟩
  unfold INR
  rw [Int.toNat_natCast]
  exact ⟨r1, r2, r3⟩
theorem root_test {man : Int} {c : Nat} {ex w s : Int} (hex : ex = -(c : Int)) (hw : 12 ≤ w) (hw2 : w ≤ 1000) (hc : c ≤ 1000) (hm : 0 < man) (hmC : man < 2 ^ c) (hlo : 2 ^ c ≤ 4 * man) (h : INR man c w s) :
    IntMulOk ((s - 256) ^ (2:Int).toNat) man ∧ IntMulOk ((s + 256) ^ (2:Int).toNat) man ∧ (Builtin.Int.intBits (s - 256) : Int) * 2 ≤ 2 ^ 27 ∧ (Builtin.Int.intBits (s + 256) : Int) * 2 ≤ 2 ^ 27 ∧
    (s - 256) ^ (2:Int).toNat * man < 1 * 2 ^ (2 * w + -ex).toNat ∧ 1 * 2 ^ (2 * w + -ex).toNat < (s + 256) ^ (2:Int).toNat * man := by
  obtain ⟨b1, b2, b3⟩ := INR_bounds hw hm hmC hlo h
  obtain ⟨h1, h2, h3⟩ := h
  have e : (2 * w + -ex).toNat = w.toNat + w.toNat + c := by omega
  have e2 : (2:Int).toNat = 2 := rfl
  have ep : ∀ x : Int, x ^ 2 = x * x := fun x => by rw [Int.pow_succ, Int.pow_succ, Int.pow_zero, Int.one_mul]
  rw [e, e2, Int.one_mul, Int.pow_add, Int.pow_add, ep, ep]
  have e4 : (2:Int) ^ (w.toNat + 2) = 4 * 2 ^ w.toNat := by rw [Int.pow_add]; omega
  have h12 : (2:Int) ^ 12 ≤ 2 ^ w.toNat := pow_le (by omega)
  have e12 : (2:Int) ^ 12 = 4096 := rfl
  have q1 : Builtin.Int.intBits (s - 256) ≤ w.toNat + 2 := bl_le_of_lt (by omega) (by omega)
  have q2 : Builtin.Int.intBits (s + 256) ≤ w.toNat + 2 := bl_le_of_lt (by omega) (by omega)
  have hb2 : Builtin.Int.intBits man ≤ c := bl_le_of_lt (by omega) hmC
  have z1 : (s - 256) * (s - 256) ≤ (s - 32) * (s - 32) := sq_mono (by omega) (by omega)
  have z2 : (s + 32) * (s + 32) ≤ (s + 256) * (s + 256) := sq_mono (by omega) (by omega)
  have z3 : (s - 256) * (s - 256) * man ≤ (s - 32) * (s - 32) * man := Int.mul_le_mul_of_nonneg_right z1 (by omega)
  have z4 : (s + 32) * (s + 32) * man ≤ (s + 256) * (s + 256) * man := Int.mul_le_mul_of_nonneg_right z2 (by omega)
  refine ⟨mulOk_of_bits (bits_mul q1 q1) hb2 (by omega), mulOk_of_bits (bits_mul q2 q2) hb2 (by omega), by omega, by omega, by omega, by omega⟩
end
section
open PySem PySem.W PyProof.Rows
def lsh (x n : Int) : Int := if n ≥ 0 then x * 2 ^ n.toNat else x.fdiv (2 ^ (-n).toNat)
def rsh (x n : Int) : Int := if n ≥ 0 then x.fdiv (2 ^ n.toNat) else x * 2 ^ (-n).toNat
def BackOK (w9 x9 : Int) (p : Int × Int) : Prop := 12 ≤ p.1 ∧ p.1 ≤ w9 ∧ (Builtin.Int.intBits p.2 : Int) ≤ 5000 ∧ ¬ ((if lsh x9 (p.1 - w9) - p.2 < 0 then -(lsh x9 (p.1 - w9) - p.2) else lsh x9 (p.1 - w9) - p.2) > 260)
theorem rsh_eq {x n : Int} (h : n ≤ 0) : rsh x n = x * 2 ^ (-n).toNat := by
  unfold rsh
  by_cases h0 : n ≥ 0
  · have : n = 0 := by omega
    subst this
    simp
  · rw [if_neg h0]
theorem lsh_eq {x n : Int} (h : n ≤ 0) : lsh x n = x / 2 ^ (-n).toNat := by
  unfold lsh
  by_cases h0 : n ≥ 0
  · have : n = 0 := by omega
    subst this
    simp
  · rw [if_neg h0, fdiv_pow]
theorem close_of {x x9 D J : Int} (hD : 1 ≤ D) (hJ : 0 ≤ J) (h1 : x9 - J < D * (x + J)) (h2 : D * (x - J) < x9 + J) : x9 / D - x < 2 * J ∧ x - x9 / D ≤ 2 * J := by
  have a1 := Int.mul_ediv_add_emod x9 D
  have a2 := Int.emod_nonneg x9 (show D ≠ 0 by omega)
  have a3 := Int.emod_lt_of_pos x9 (show 0 < D by omega)
  have a4 : J ≤ D * J := by have := Int.mul_le_mul_of_nonneg_right hD hJ; omega
  generalize x9 / D = q at *
  have e1 : D * (x + J) = D * x + D * J := Int.mul_add ..
  have e2 : D * (x - J) = D * x - D * J := Int.mul_sub ..
  have e3 : D * (x + 2 * J) = D * x + 2 * (D * J) := by rw [Int.mul_add, Int.mul_left_comm]
  have e4 : D * (x - 2 * J) = D * x - 2 * (D * J) := by rw [Int.mul_sub, Int.mul_left_comm]
  have e5 : D * (q + 1) = D * q + D := by rw [Int.mul_add, Int.mul_one]
  have b1 : D * q < D * (x + 2 * J) := by omega
  have b2 : D * (x - 2 * J) < D * (q + 1) := by omega
  have c1 := Int.lt_of_mul_lt_mul_left b1 (by omega)
  have c2 := Int.lt_of_mul_lt_mul_left b2 (by omega)
  omega
theorem back_of {w w9 x x9 J : Int} (h12 : 12 ≤ w) (hw : w ≤ w9) (hb : (Builtin.Int.intBits x : Int) ≤ 5000) (hJ : 0 ≤ J) (hJ2 : J ≤ 130) (h1 : x9 - J < 2 ^ (w9 - w).toNat * (x + J)) (h2 : 2 ^ (w9 - w).toNat * (x - J) < x9 + J) : BackOK w9 x9 (w, x) := by
  have e : (-(w - w9)).toNat = (w9 - w).toNat := by omega
  have hp := two_pow_pos (w9 - w).toNat
  obtain ⟨c1, c2⟩ := close_of (by omega) hJ h1 h2
  refine ⟨h12, hw, hb, ?_⟩
  show ¬ ((if lsh x9 (w - w9) - x < 0 then -(lsh x9 (w - w9) - x) else lsh x9 (w - w9) - x) > 260)
  rw [lsh_eq (by omega), e]
  split <;> omega
theorem back_over {man : Int} {c : Nat} {w w9 x x9 : Int} (h12 : 12 ≤ w) (hw : w ≤ w9) (hw9 : w9 ≤ 1000) (hm : 0 < man) (hmC : man < 2 ^ c) (hlo : 2 ^ c ≤ 2 * man) (h : INV man c w x) (h9 : INV man c w9 x9) : BackOK w9 x9 (w, x) := by
  have hb := INV_intBits (by omega) hm hmC hlo h
  obtain ⟨a1, a2⟩ := h
  obtain ⟨b1, b2⟩ := h9
  have e : w9.toNat = (w9 - w).toNat + w.toNat := by omega
  rw [e, Int.pow_add, Int.mul_assoc] at b1 b2
  have hD := two_pow_pos (w9 - w).toNat
  refine back_of (J := 16) h12 hw (by omega) (by decide) (by decide) ?_ ?_
  · generalize (2:Int) ^ (w9 - w).toNat = D at *
    generalize (2:Int) ^ w.toNat * 2 ^ c = K at *
    refine Int.lt_of_mul_lt_mul_right (a := man) ?_ (by omega)
    have z : D * K ≤ D * ((x + 16) * man) := Int.mul_le_mul_of_nonneg_left (by rw [Int.add_mul]; omega) (by omega)
    rw [Int.mul_assoc, Int.sub_mul]
    omega
  · generalize (2:Int) ^ (w9 - w).toNat = D at *
    generalize (2:Int) ^ w.toNat * 2 ^ c = K at *
    refine Int.lt_of_mul_lt_mul_right (a := man) ?_ (by omega)
    have z : D * ((x - 16) * man) ≤ D * K := Int.mul_le_mul_of_nonneg_left (by rw [Int.sub_mul]; omega) (by omega)
    rw [Int.mul_assoc, Int.add_mul]
    omega
theorem back_root {man : Int} {c : Nat} {w w9 x x9 : Int} (h12 : 12 ≤ w) (hw : w ≤ w9) (hw9 : w9 ≤ 1000) (hm : 0 < man) (hmC : man < 2 ^ c) (hlo : 2 ^ c ≤ 4 * man) (h : INR man c w x) (h9 : INR man c w9 x9) : BackOK w9 x9 (w, x) := by
  have hb := INR_bits h12 hm hmC hlo h
  obtain ⟨a1, a2, a3⟩ := h
  obtain ⟨b1, b2, b3⟩ := h9
  have e : w9.toNat = (w9 - w).toNat + w.toNat := by omega
  have hD := two_pow_pos (w9 - w).toNat
  have e2 : (2:Int) ^ w9.toNat * 2 ^ w9.toNat * 2 ^ c = 2 ^ (w9 - w).toNat * 2 ^ (w9 - w).toNat * (2 ^ w.toNat * 2 ^ w.toNat * 2 ^ c) := by
    rw [e, Int.pow_add]; simp only [Int.mul_assoc, Int.mul_left_comm]
  rw [e2] at b1 b2
  refine back_of (J := 32) h12 hw (by omega) (by decide) (by decide) ?_ ?_
  · generalize (2:Int) ^ (w9 - w).toNat = D at *
    generalize (2:Int) ^ w.toNat * 2 ^ w.toNat * 2 ^ c = K at *
    have z0 : 0 ≤ D * (x + 32) := Int.mul_nonneg (by omega) (by omega)
    refine lt_of_sq_lt z0 (Int.lt_of_mul_lt_mul_right (a := man) ?_ (by omega))
    have z : D * D * K ≤ D * D * ((x + 32) * (x + 32) * man) := Int.mul_le_mul_of_nonneg_left (by omega) (Int.mul_nonneg (by omega) (by omega))
    have e3 : D * (x + 32) * (D * (x + 32)) * man = D * D * ((x + 32) * (x + 32) * man) := by simp only [Int.mul_assoc, Int.mul_left_comm]
    omega
  · generalize (2:Int) ^ (w9 - w).toNat = D at *
    generalize (2:Int) ^ w.toNat * 2 ^ w.toNat * 2 ^ c = K at *
    refine lt_of_sq_lt (by omega) (Int.lt_of_mul_lt_mul_right (a := man) ?_ (by omega))
    have z : D * D * ((x - 32) * (x - 32) * man) ≤ D * D * K := Int.mul_le_mul_of_nonneg_left (by omega) (Int.mul_nonneg (by omega) (by omega))
    have e3 : D * (x - 32) * (D * (x - 32)) * man = D * D * ((x - 32) * (x - 32) * man) := by simp only [Int.mul_assoc, Int.mul_left_comm]
    omega
end
section
open PySem PySem.W PyProof.Rows
/-- what mpf_sub and mpf_lt behind it need -/
def SubOK (sm se tm te T : Int) : Prop := 0 < sm ∧ 0 < tm ∧ (Builtin.Int.intBits sm : Int) ≤ 5000 ∧ (Builtin.Int.intBits tm : Int) ≤ 5000 ∧ se - te ≤ 5000 ∧ te - se ≤ 5000 ∧
  (sm * 2 ^ (se - min se te).toNat - tm * 2 ^ (te - min se te).toNat ≠ 0 → (Builtin.Int.intBits (sm * 2 ^ (se - min se te).toNat - tm * 2 ^ (te - min se te).toNat) : Int) + min se te ≤ T)
theorem sub_bits {u se N R : Int} {i H w k : Nat} (hN : N = u * 2 ^ i) (hse : se = i - H) (hR : 0 < R) (h1 : (N * 2 ^ w - R * 2 ^ H) * 2 ^ k < 2 ^ (H + w)) (h2 : (R * 2 ^ H - N * 2 ^ w) * 2 ^ k < 2 ^ (H + w)) :
    u * 2 ^ (se - min se ((tz R : Int) - w)).toNat - od R * 2 ^ (((tz R : Int) - w) - min se ((tz R : Int) - w)).toNat ≠ 0 →
    (Builtin.Int.intBits (u * 2 ^ (se - min se ((tz R : Int) - w)).toNat - od R * 2 ^ (((tz R : Int) - w) - min se ((tz R : Int) - w)).toNat) : Int) + min se ((tz R : Int) - w) ≤ -(k : Int) := by
  obtain ⟨eR, _, _⟩ := od_spec hR
  generalize hem : min se ((tz R : Int) - w) = em
  have hem1 : em ≤ se := by omega
  have hem2 : em ≤ (tz R : Int) - w := by omega
  have hem3 : em = se ∨ em = (tz R : Int) - w := by omega
  have ha : (se - em).toNat + ((H + w : Int) + em).toNat = i + w := by omega
  have hb : ((tz R : Int) - w - em).toNat + ((H + w : Int) + em).toNat = tz R + H := by omega
  generalize hK : ((H + w : Int) + em).toNat = K at *
  generalize (se - em).toNat = a at *
  generalize ((tz R : Int) - w - em).toNat = b at *
  have eD : (u * 2 ^ a - od R * 2 ^ b) * 2 ^ K = N * 2 ^ w - R * 2 ^ H := by
    rw [Int.sub_mul, Int.mul_assoc, Int.mul_assoc, ← Int.pow_add, ← Int.pow_add, ha, hb, Int.pow_add, Int.pow_add, ← Int.mul_assoc, ← Int.mul_assoc, ← hN, ← eR]
  generalize u * 2 ^ a - od R * 2 ^ b = D at *
  intro hD
  rw [← eD] at h1
  have e3 : R * 2 ^ H - N * 2 ^ w = -D * 2 ^ K := by rw [Int.neg_mul, eD]; omega
  rw [e3] at h2
  rw [Int.mul_assoc, ← Int.pow_add] at h1 h2
  have hlt : K + k < H + w := by
    refine Nat.lt_of_not_le fun hle => ?_
    have hp := pow_le (i := H + w) (j := K + k) hle
    have hpp := two_pow_pos (K + k)
    rcases Int.lt_or_gt_of_ne hD with h | h
    · have : 1 * 2 ^ (K + k) ≤ -D * 2 ^ (K + k) := Int.mul_le_mul_of_nonneg_right (by omega) (by omega)
      omega
    · have : 1 * 2 ^ (K + k) ≤ D * 2 ^ (K + k) := Int.mul_le_mul_of_nonneg_right (by omega) (by omega)
      omega
  have e4 : H + w = (H + w - (K + k)) + (K + k) := by omega
  rw [e4, Int.pow_add 2 (H + w - (K + k)) (K + k)] at h1 h2
  have g1 := Int.lt_of_mul_lt_mul_right h1 (Int.le_of_lt (two_pow_pos _))
  have g2 := Int.lt_of_mul_lt_mul_right h2 (Int.le_of_lt (two_pow_pos _))
  have hbl : Builtin.Int.intBits D ≤ H + w - (K + k) := by
    refine intBits_le ?_
    have := cast_pow (H + w - (K + k))
    omega
  omega
theorem od_bits {x : Int} (h : 0 < x) : Builtin.Int.intBits (od x) + tz x = Builtin.Int.intBits x := (bl_od h).symm
/-- nM and nE, taken together, are nR at a power of two -/
theorem nM_scale {Q prec : Int} (hQ : 0 < Q) (hp : 0 < prec) :
    ∃ n : Nat, (n : Int) = (if (bl Q : Int) - prec > 0 then (bl Q : Int) - prec else 0) ∧ 0 < nR Q prec ∧ 0 < nM Q prec ∧ nE Q prec = n + tz (nR Q prec) ∧ nM Q prec * 2 ^ (n + tz (nR Q prec)) = nR Q prec * 2 ^ n ∧
      2 * (nR Q prec * 2 ^ n - Q) ≤ 2 ^ n ∧ 2 * (Q - nR Q prec * 2 ^ n) ≤ 2 ^ n ∧ nR Q prec ≤ 2 ^ prec.toNat ∧ (n = 0 → nR Q prec = Q) := by
  by_cases hn : (bl Q : Int) - prec > 0
  · have e1 : nR Q prec = rn Q (bl Q - prec) := if_pos hn
    obtain ⟨b1, b2⟩ := rn_bounds hQ hp hn
    obtain ⟨c1, c2⟩ := rn_near hQ hn
    have h0 : 0 < nR Q prec := by rw [e1]; have := two_pow_pos (prec.toNat - 1); omega
    obtain ⟨d1, _, d3⟩ := od_spec h0
    refine ⟨((bl Q : Int) - prec).toNat, by rw [if_pos hn]; omega, h0, d3, ?_, ?_, by rw [e1]; exact c1, by rw [e1]; exact c2, by rw [e1]; exact b2, fun hz => by omega⟩
    · unfold nE; rw [if_pos hn]; omega
    · rw [Int.pow_add, Int.mul_comm (2 ^ _) (2 ^ _), ← Int.mul_assoc]
      show od (nR Q prec) * 2 ^ tz (nR Q prec) * _ = _
      rw [← d1]
  · have e1 : nR Q prec = Q := if_neg hn
    have h0 : 0 < nR Q prec := by rw [e1]; exact hQ
    obtain ⟨d1, _, d3⟩ := od_spec h0
    refine ⟨0, by rw [if_neg hn]; rfl, h0, d3, ?_, ?_, by rw [e1]; simp, by rw [e1]; simp, ?_, fun _ => e1⟩
    · unfold nE; rw [if_neg hn]; omega
    · rw [Nat.zero_add, Int.pow_zero, Int.mul_one]
      exact d1.symm
    · rw [e1]
      have h1 := bl_lt (x := Q) (by omega)
      have h2 := pow_le (i := bl Q) (j := prec.toNat) (by omega)
      omega
end
section
open PySem PySem.W PyProof.Rows
theorem od_le {x : Int} (h : 0 < x) : od x ≤ x ∧ Builtin.Int.intBits (od x) ≤ Builtin.Int.intBits x ∧ tz x ≤ Builtin.Int.intBits x := by
  obtain ⟨e, _, h3⟩ := od_spec h
  have hb := od_bits h
  refine ⟨?_, by omega, by omega⟩
  have := Int.mul_le_mul_of_nonneg_left (show (1:Int) ≤ 2 ^ tz x by have := two_pow_pos (tz x); omega) (show 0 ≤ od x by omega)
  omega
theorem sub_ok {u se N R tg te : Int} {i H w k : Nat} (hu : 0 < u) (hub : (Builtin.Int.intBits u : Int) ≤ 4000) (hi : i ≤ 2000) (hH : H ≤ 2000) (hw : w ≤ 2000) (hRb : (Builtin.Int.intBits R : Int) ≤ 2000) (hN : N = u * 2 ^ i) (hse : se = i - H) (hR : 0 < R) (hte : te = (tz R : Int) - w) (h1 : (N * 2 ^ w - R * 2 ^ H) * 2 ^ k < 2 ^ (H + w)) (h2 : (R * 2 ^ H - N * 2 ^ w) * 2 ^ k < 2 ^ (H + w)) (hT : tg = -(k : Int)) :
    SubOK u se (od R) te tg := by
  obtain ⟨a1, a2, a3⟩ := od_le hR
  obtain ⟨_, _, h3⟩ := od_spec hR
  subst hte hT
  exact ⟨hu, h3, by omega, by omega, by omega, by omega, sub_bits hN hse hR h1 h2⟩
theorem inv_R {M R w : Int} {b : Nat} (hw : 12 ≤ w) (hw2 : w ≤ 1000) (hm : 0 < M) (hmC : M < 2 ^ b) (hlo : 2 ^ b ≤ 2 * M) (h : INV M b w R) : 0 < R ∧ (Builtin.Int.intBits R : Int) ≤ 2000 := by
  have := INV_intBits (by omega) hm hmC hlo h
  exact ⟨(INV_bits (by omega) hm hmC hlo h).1, by omega⟩
theorem q_fin {N R : Int} {t : Nat} (ht : 1 ≤ t) (h1 : 4 * N - R < 512) (h2 : R - 4 * N < 512) : (N * 2 ^ (t + 8) - R * 2 ^ (t + 6)) * 2 ^ (t - 1) < 2 ^ (t + 6 + (t + 8)) ∧ (R * 2 ^ (t + 6) - N * 2 ^ (t + 8)) * 2 ^ (t - 1) < 2 ^ (t + 6 + (t + 8)) := by
  have e1 : (2:Int) ^ (t + 8) = 4 * 2 ^ (t + 6) := by
    have : t + 8 = (t + 6) + 2 := by omega
    rw [this, Int.pow_add]; omega
  have e2 : (2:Int) ^ (t + 6 + (t + 8)) = 512 * (2 ^ (t + 6) * 2 ^ (t - 1)) := by
    have : t + 6 + (t + 8) = 9 + ((t + 6) + (t - 1)) := by omega
    rw [this, Int.pow_add, Int.pow_add]; rfl
  have hp : 0 < (2:Int) ^ (t + 6) * 2 ^ (t - 1) := Int.mul_pos (two_pow_pos _) (two_pow_pos _)
  have e3 : N * (4 * 2 ^ (t + 6)) - R * 2 ^ (t + 6) = (4 * N - R) * 2 ^ (t + 6) := by rw [Int.sub_mul, Int.mul_comm 4 N, Int.mul_assoc]
  have e4 : R * 2 ^ (t + 6) - N * (4 * 2 ^ (t + 6)) = (R - 4 * N) * 2 ^ (t + 6) := by rw [Int.sub_mul, Int.mul_comm 4 N, Int.mul_assoc]
  rw [e1, e2, e3, e4, Int.mul_assoc, Int.mul_assoc]
  exact ⟨Int.mul_lt_mul_of_pos_right h1 hp, Int.mul_lt_mul_of_pos_right h2 hp⟩
theorem q_sub {M R tg : Int} {b : Nat} (hM : 0 < M) (ho : M % 2 = 1) (hb : b = bl M) (hb2 : b ≤ 1000) (ht : 4 ≤ tg) (ht2 : tg ≤ 303) (h : INV M b (tg + 8) R) :
    SubOK (qM M b tg) (qE M b tg + b) (od R) ((tz R : Int) - (tg + 8)) (1 - tg) := by
  have hmC : M < 2 ^ b := by rw [hb]; exact bl_lt (by omega)
  have hlo : 2 ^ b ≤ 2 * M := by
    have h1 := bl_ge hM
    have h2 := bl_pos hM
    have : b = (bl M - 1) + 1 := by omega
    rw [this, Int.pow_succ]; omega
  obtain ⟨hR, hRb⟩ := inv_R (by omega) (by omega) hM hmC hlo h
  obtain ⟨a1, a2⟩ := h
  obtain ⟨t, rfl⟩ : ∃ t : Nat, tg = t := ⟨tg.toNat, by omega⟩
  have et : ((t : Int) + 8).toNat = t + 8 := by omega
  rw [et] at a1 a2
  have eG : (2:Int) ^ (t + 8) = 256 * 2 ^ t := by rw [Int.pow_add]; omega
  by_cases h1 : M = 1
  · have e1 : qM M b t = 1 := if_pos h1
    have e2 : qE M b t = 0 := if_pos h1
    have eb : b = 1 := by rw [hb, h1]; rfl
    rw [e1, e2]
    have hN : (2:Int) ^ (t + 7) = 128 * 2 ^ t := by rw [Int.pow_add]; omega
    obtain ⟨f1, f2⟩ := q_fin (N := 2 ^ (t + 7)) (R := R) (t := t) (by omega) (by rw [hN]; rw [eb, h1, eG] at a2; omega) (by rw [hN]; rw [eb, h1, eG] at a1; omega)
    exact sub_ok (i := t + 7) (by decide) (by decide) (by omega) (by omega) (by omega) hRb (by rw [Int.one_mul]) (by omega) hR (by omega) f1 f2 (by omega)
  · have hM1 : 1 < M := by omega
    have e1 : qM M b t = nM (dM M (t + b + 5)) t := if_neg h1
    have e2 : qE M b t = nE (dM M (t + b + 5)) t - (t + b + 5 + 1) := if_neg h1
    have ed := dM_eq M (t + b + 5) hM
    have ej : ((t : Int) + b + 5).toNat = (t + 5) + bl M := by omega
    rw [ej] at ed
    obtain ⟨d1, d2⟩ := dq_bounds hM1 ho (P := t + 5) rfl
    have g1 := Int.mul_ediv_add_emod ((2:Int) ^ (t + 5 + bl M)) M
    have g2 := Int.emod_nonneg ((2:Int) ^ (t + 5 + bl M)) (show M ≠ 0 by omega)
    have g3 := Int.emod_lt_of_pos ((2:Int) ^ (t + 5 + bl M)) hM
    have ejp : (2:Int) ^ (t + 5 + bl M) = 32 * (2 ^ t * 2 ^ b) := by rw [Int.pow_add, Int.pow_add, ← hb, Int.mul_comm (2 ^ t) (2 ^ 5), Int.mul_assoc]; rfl
    have e5 : (2:Int) ^ (t + 5) = 32 * 2 ^ t := by rw [Int.pow_add]; omega
    have e6 : (2:Int) ^ (t + 5 + 1) = 64 * 2 ^ t := by rw [Int.pow_add, Int.pow_add]; omega
    have hp := two_pow_pos t
    generalize hq : (2:Int) ^ (t + 5 + bl M) / M = q at *
    have hQ0 : 0 < dM M (t + b + 5) := by rw [ed]; omega
    obtain ⟨n, n1, n2, n3, n4, n5, n6, n7, n8, n9⟩ := nM_scale hQ0 (show (0:Int) < t by omega)
    have hbQ : bl (dM M (t + b + 5)) ≤ t + 7 := by
      refine bl_le_of_lt (by omega) ?_
      have e7 : (2:Int) ^ (t + 7) = 128 * 2 ^ t := by rw [Int.pow_add]; omega
      rw [e7, ed]; omega
    have hn7 : n ≤ 7 := by
      have : (n : Int) ≤ 7 := by rw [n1]; split <;> omega
      omega
    have hpn : (2:Int) ^ n ≤ 128 := by have := pow_le hn7; exact this
    obtain ⟨o1, o2, o3⟩ := od_le n2
    rw [Int.toNat_natCast] at n8
    have hnb : Builtin.Int.intBits (nR (dM M (t + b + 5)) t) ≤ t + 1 := by
      refine bl_le_of_lt (by omega) ?_
      rw [Int.pow_succ]; omega
    rw [eG] at a1 a2
    have a3 : R * M < (8 * q + 24) * M := by
      rw [Int.add_mul, Int.mul_assoc 8 q M, Int.mul_comm q M]
      rw [Int.mul_assoc] at a1
      omega
    have a4 : (8 * q - 16) * M < R * M := by
      rw [Int.sub_mul, Int.mul_assoc 8 q M, Int.mul_comm q M]
      rw [Int.mul_assoc] at a2
      omega
    have a5 := Int.lt_of_mul_lt_mul_right a3 (by omega)
    have a6 := Int.lt_of_mul_lt_mul_right a4 (by omega)
    obtain ⟨f1, f2⟩ := q_fin (N := nR (dM M (t + b + 5)) t * 2 ^ n) (R := R) (t := t) (by omega) (by omega) (by omega)
    rw [e1, e2]
    have hub : Builtin.Int.intBits (nM (dM M (t + b + 5)) t) ≤ t + 1 := Nat.le_trans o2 hnb
    exact sub_ok (i := n + tz (nR (dM M (t + b + 5)) t)) n3 (by omega) (by omega) (by omega) (by omega) hRb n5.symm (by rw [n4]; push_cast; omega) hR (by omega) f1 f2 (by omega)
end
section
open PySem PySem.W PyProof.Rows
/-- mpf_sqrt's parts for any exponent -/
def uM (man bc prec e : Int) : Int := if e % 2 = 1 then rM (man * 2 ^ (1:Int).toNat) (bc + 1) prec else if man = 1 then 1 else rM man bc prec
def uE (man bc prec e : Int) : Int := if e % 2 = 1 then rE (man * 2 ^ (1:Int).toNat) (bc + 1) prec (e - 1) else if man = 1 then e.fdiv 2 else rE man bc prec e
def uB (man bc prec e : Int) : Int := if e % 2 = 1 then rB (man * 2 ^ (1:Int).toNat) (bc + 1) prec else if man = 1 then 1 else rB man bc prec
theorem uE_shift (man bc prec e j : Int) : uE man bc prec (e + 2 * j) = uE man bc prec e + j := by
  unfold uE rE
  have h : (e + 2 * j) % 2 = e % 2 := by omega
  rw [h]
  by_cases ho : e % 2 = 1
  · rw [if_pos ho, if_pos ho, fdiv_pos_eq (by decide), fdiv_pos_eq (by decide)]; omega
  · rw [if_neg ho, if_neg ho]
    by_cases h1 : man = 1
    · rw [if_pos h1, if_pos h1, fdiv_pos_eq (by decide), fdiv_pos_eq (by decide)]; omega
    · rw [if_neg h1, if_neg h1, fdiv_pos_eq (by decide), fdiv_pos_eq (by decide)]; omega
theorem uM_shift (man bc prec e j : Int) : uM man bc prec (e + 2 * j) = uM man bc prec e ∧ uB man bc prec (e + 2 * j) = uB man bc prec e := by
  unfold uM uB
  have h : (e + 2 * j) % 2 = e % 2 := by omega
  rw [h]; exact ⟨rfl, rfl⟩
theorem le_of_sq_le {a b : Int} (hb : 0 ≤ b) (h : a * a ≤ b * b) : a ≤ b := by
  refine Int.not_lt.mp fun hlt => ?_
  have := Int.mul_lt_mul_of_pos_left (show b < a from hlt) (show 0 < a by omega)
  have h2 := Int.mul_le_mul_of_nonneg_right (show b ≤ a by omega) hb
  have h3 := Int.mul_lt_mul_of_pos_right (show b < a from hlt) (show 0 < a by omega)
  have h4 : b * b ≤ a * b := h2
  rw [Int.mul_comm a b] at h4
  omega
theorem root_lo {man C W F R Q S2 H2 : Int} (hm : 0 < man) (hW : 0 < W) (hS : 0 < S2) (hF : 0 ≤ F) (hC : 0 < C) (hR : 0 ≤ R) (hQ : 0 ≤ Q) (hH : 0 < H2) (hF1 : F * C ≤ man * W) (hR1 : R * R ≤ F * W) (hq : man * S2 ≤ (Q + 1) * (Q + 1)) (he : H2 * H2 = S2 * C) : R * H2 ≤ (Q + 1) * W := by
  refine le_of_sq_le (Int.mul_nonneg (by omega) (by omega)) ?_
  have e1 : R * H2 * (R * H2) = R * R * (S2 * C) := by rw [← he]; simp only [Int.mul_assoc, Int.mul_left_comm]
  have e2 : F * W * (S2 * C) = F * C * (W * S2) := by simp only [Int.mul_assoc, Int.mul_left_comm, Int.mul_comm]
  have e3 : man * W * (W * S2) = man * S2 * (W * W) := by simp only [Int.mul_assoc, Int.mul_left_comm, Int.mul_comm]
  have e4 : (Q + 1) * W * ((Q + 1) * W) = (Q + 1) * (Q + 1) * (W * W) := by simp only [Int.mul_assoc, Int.mul_left_comm]
  rw [e1, e4]
  have a1 : R * R * (S2 * C) ≤ F * W * (S2 * C) := Int.mul_le_mul_of_nonneg_right hR1 (Int.le_of_lt (Int.mul_pos hS hC))
  have a2 : F * C * (W * S2) ≤ man * W * (W * S2) := Int.mul_le_mul_of_nonneg_right hF1 (Int.le_of_lt (Int.mul_pos hW hS))
  have a3 : man * S2 * (W * W) ≤ (Q + 1) * (Q + 1) * (W * W) := Int.mul_le_mul_of_nonneg_right hq (Int.le_of_lt (Int.mul_pos hW hW))
  rw [e2] at a1; rw [e3] at a2
  omega
theorem root_ge {W F R : Int} (hW : 6 ≤ W) (hF : W < 4 * (F + 1)) (hR : 0 ≤ R) (hR2 : F * W < (R + 1) * (R + 1)) : (F + 1) * W ≤ (R + 3) * (R + 3) := by
  have h1 : W ≤ 4 * (R + 1) := by
    refine Int.not_lt.mp fun hlt => ?_
    have a1 := Int.mul_lt_mul_of_pos_left hlt (show 0 < W by omega)
    have a2 := Int.mul_lt_mul_of_pos_right hlt (show 0 < 4 * (R + 1) by omega)
    have a3 : 4 * (R + 1) * (4 * (R + 1)) = 16 * ((R + 1) * (R + 1)) := (fun x : Int => show 4 * x * (4 * x) = 16 * (x * x) by rw [Int.mul_assoc, Int.mul_left_comm x 4 x, ← Int.mul_assoc]; rfl) (R + 1)
    have a4 : W * (4 * (R + 1)) < W * W := a1
    have a5 : 16 * (F * W) < W * W := by
      rw [a3] at a2
      rw [Int.mul_comm W] at a4
      omega
    have a6 : 16 * F * W < W * W := by rw [Int.mul_assoc]; exact a5
    have a7 := Int.lt_of_mul_lt_mul_right a6 (by omega)
    omega
  have e1 : (R + 3) * (R + 3) = (R + 1) * (R + 1) + 4 * (R + 1) + 4 := by
    have : R + 3 = (R + 1) + 2 := by omega
    rw [this]
    generalize R + 1 = x
    rw [Int.add_mul, Int.mul_add]; omega
  rw [e1, Int.add_mul, Int.one_mul]
  omega
theorem root_hi {man C W F R Q S2 H2 : Int} (hm : 0 < man) (hW : 6 ≤ W) (hS : 0 < S2) (hF : 0 ≤ F) (hC : 0 < C) (hR : 0 ≤ R) (hQ : 0 < Q) (hH : 0 < H2) (hF2 : man * W < (F + 1) * C) (hlo : C ≤ 4 * man) (hR2 : F * W < (R + 1) * (R + 1)) (hq : (Q - 1) * (Q - 1) ≤ man * S2) (he : H2 * H2 = S2 * C) : (Q - 1) * W < (R + 3) * H2 := by
  have hFW : W < 4 * (F + 1) := by
    have a1 : (F + 1) * C ≤ (F + 1) * (4 * man) := Int.mul_le_mul_of_nonneg_left hlo (by omega)
    have a2 : man * W < man * (4 * (F + 1)) := by
      have : (F + 1) * (4 * man) = man * (4 * (F + 1)) := by simp only [Int.mul_comm, Int.mul_left_comm]
      omega
    exact Int.lt_of_mul_lt_mul_left a2 (by omega)
  have hg := root_ge hW hFW hR hR2
  refine lt_of_sq_lt (Int.mul_nonneg (by omega) (by omega)) ?_
  have e1 : (Q - 1) * W * ((Q - 1) * W) = (Q - 1) * (Q - 1) * (W * W) := by simp only [Int.mul_assoc, Int.mul_left_comm]
  have e2 : man * S2 * (W * W) = man * W * (W * S2) := by simp only [Int.mul_assoc, Int.mul_left_comm, Int.mul_comm]
  have e3 : (F + 1) * C * (W * S2) = (F + 1) * W * (S2 * C) := by simp only [Int.mul_assoc, Int.mul_left_comm, Int.mul_comm]
  have e4 : (R + 3) * H2 * ((R + 3) * H2) = (R + 3) * (R + 3) * (S2 * C) := by rw [← he]; simp only [Int.mul_assoc, Int.mul_left_comm]
  rw [e1, e4]
  have a1 : (Q - 1) * (Q - 1) * (W * W) ≤ man * S2 * (W * W) := Int.mul_le_mul_of_nonneg_right hq (Int.le_of_lt (Int.mul_pos (by omega) (by omega)))
  have a2 : man * W * (W * S2) < (F + 1) * C * (W * S2) := Int.mul_lt_mul_of_pos_right hF2 (Int.mul_pos (by omega) hS)
  have a3 : (F + 1) * W * (S2 * C) ≤ (R + 3) * (R + 3) * (S2 * C) := Int.mul_le_mul_of_nonneg_right hg (Int.le_of_lt (Int.mul_pos hS hC))
  rw [e2] at a1; rw [e3] at a2
  omega
theorem s_fin {Q N R : Int} {t H : Nat} (hH : t + 2 ≤ H) (h1 : R * 2 ^ H ≤ (Q + 1) * 2 ^ (t + 8)) (h2 : (Q - 1) * 2 ^ (t + 8) < (R + 3) * 2 ^ H) (n1 : 2 * (N - Q) ≤ 2 ^ (H - t)) (n2 : 2 * (Q - N) ≤ 2 ^ (H - t)) :
    (N * 2 ^ (t + 8) - R * 2 ^ H) * 2 ^ t < 2 ^ (H + (t + 8)) ∧ (R * 2 ^ H - N * 2 ^ (t + 8)) * 2 ^ t < 2 ^ (H + (t + 8)) := by
  have eW : (2:Int) ^ (t + 8) = 256 * 2 ^ t := by rw [Int.pow_add]; omega
  have eX : (2:Int) ^ H = 2 ^ (H - t) * 2 ^ t := by rw [← Int.pow_add]; congr 1; omega
  have hJ : (4:Int) ≤ 2 ^ (H - t) := by have := pow_le (i := 2) (j := H - t) (by omega); exact this
  have hG := two_pow_pos t
  rw [Int.pow_add 2 H (t + 8), eW]
  rw [eW] at h1 h2
  rw [eX] at h1 h2 ⊢
  clear eX eW
  generalize (2:Int) ^ t = G at *
  generalize (2:Int) ^ (H - t) = J at *
  have b1 : 2 * (N - Q) * (128 * G) ≤ J * (128 * G) := Int.mul_le_mul_of_nonneg_right n1 (by omega)
  have b2 : 2 * (Q - N) * (128 * G) ≤ J * (128 * G) := Int.mul_le_mul_of_nonneg_right n2 (by omega)
  have e1 : N * (256 * G) = 256 * (N * G) := Int.mul_left_comm ..
  have e2 : (Q + 1) * (256 * G) = 256 * (Q * G) + 256 * G := by rw [Int.add_mul, Int.one_mul, Int.mul_left_comm]
  have e3 : (Q - 1) * (256 * G) = 256 * (Q * G) - 256 * G := by rw [Int.sub_mul, Int.one_mul, Int.mul_left_comm]
  have e4 : (R + 3) * (J * G) = R * (J * G) + 3 * (J * G) := Int.add_mul ..
  have e5 : 2 * (N - Q) * (128 * G) = 256 * (N * G) - 256 * (Q * G) := by rw [Int.mul_assoc, Int.mul_left_comm (N - Q) 128 G, ← Int.mul_assoc, Int.sub_mul, Int.mul_sub]; rfl
  have e6 : 2 * (Q - N) * (128 * G) = 256 * (Q * G) - 256 * (N * G) := by rw [Int.mul_assoc, Int.mul_left_comm (Q - N) 128 G, ← Int.mul_assoc, Int.sub_mul, Int.mul_sub]; rfl
  have e7 : J * (128 * G) = 128 * (J * G) := Int.mul_left_comm ..
  rw [e5, e7] at b1
  rw [e6, e7] at b2
  rw [e2] at h1
  rw [e3, e4] at h2
  have c1 : N * (256 * G) - R * (J * G) ≤ 131 * (J * G) + 256 * G := by rw [e1]; omega
  have c2 : R * (J * G) - N * (256 * G) ≤ 131 * (J * G) + 256 * G := by rw [e1]; omega
  have c3 : (131 * (J * G) + 256 * G) * G < J * G * (256 * G) := by
    have d1 : 4 * (G * G) ≤ J * (G * G) := Int.mul_le_mul_of_nonneg_right hJ (Int.le_of_lt (Int.mul_pos hG hG))
    have d2 : 0 < G * G := Int.mul_pos hG hG
    simp only [Int.add_mul, Int.mul_assoc, Int.mul_left_comm _ (256:Int)]
    omega
  have c4 := Int.mul_le_mul_of_nonneg_right c1 (Int.le_of_lt hG)
  have c5 := Int.mul_le_mul_of_nonneg_right c2 (Int.le_of_lt hG)
  omega
end
section
open PySem PySem.W PyProof.Rows
theorem sQ_facts {man : Int} {bc tg : Int} (hm : 0 < man) :
    0 < sQ man bc tg ∧ (sQ man bc tg - 1) * (sQ man bc tg - 1) ≤ man * 2 ^ (sH man bc tg).toNat ∧ man * 2 ^ (sH man bc tg).toNat ≤ (sQ man bc tg + 1) * (sQ man bc tg + 1) ∧
    sH man bc tg % 2 = 0 ∧ 4 ≤ sH man bc tg ∧ 2 * tg - bc + 4 ≤ sH man bc tg ∧ sH man bc tg ≤ max 4 (2 * tg - bc + 4) + 3 ∧
    ∀ (c H : Nat), man < 2 ^ c → 2 * (H : Int) = sH man bc tg + c → sQ man bc tg < 2 ^ H := by
  obtain ⟨s1, s2, s3, s4⟩ := sS_even bc tg
  have hX : 0 < sX man bc tg := Int.mul_pos hm (two_pow_pos _)
  have q0 := sq_pos hX
  have q1 := sq_le (x := sX man bc tg) (by omega)
  have q2 := lt_sq (x := sX man bc tg) (by omega)
  have hXe : sX man bc tg = man * 2 ^ (sS bc tg).toNat := rfl
  by_cases hx : sX man bc tg - sq (sX man bc tg) * sq (sX man bc tg) ≠ 0
  · have eQ : sQ man bc tg = sq (sX man bc tg) * 2 ^ (1:Int).toNat + 1 := if_pos hx
    have eH : sH man bc tg = sS bc tg + 2 := if_pos hx
    have e1 : (2:Int) ^ (1:Int).toNat = 2 := rfl
    rw [eQ, eH, e1]
    have e2 : (sS bc tg + 2).toNat = (sS bc tg).toNat + 2 := by omega
    have e3 : man * 2 ^ (sS bc tg + 2).toNat = 4 * sX man bc tg := by rw [e2, Int.pow_add, ← Int.mul_assoc, ← hXe]; omega
    rw [e3]
    generalize sX man bc tg = X at *
    generalize sq X = q at *
    have e4 : (q * 2 + 1 - 1) * (q * 2 + 1 - 1) = 4 * (q * q) := by
      have : q * 2 + 1 - 1 = 2 * q := by omega
      rw [this, Int.mul_assoc, Int.mul_left_comm q 2 q, ← Int.mul_assoc]; rfl
    have e5 : (q * 2 + 1 + 1) * (q * 2 + 1 + 1) = 4 * ((q + 1) * (q + 1)) := by
      have : q * 2 + 1 + 1 = 2 * (q + 1) := by omega
      rw [this, Int.mul_assoc, Int.mul_left_comm (q + 1) 2 (q + 1), ← Int.mul_assoc]; rfl
    refine ⟨by omega, by omega, by omega, by omega, by omega, by omega, by omega, fun c H hc hH => ?_⟩
    have hH1 : H = (H - 1) + 1 := by omega
    have e6 : (2:Int) ^ (H - 1) * 2 ^ (H - 1) = 2 ^ c * 2 ^ (sS bc tg).toNat := by rw [← Int.pow_add, ← Int.pow_add]; congr 1; omega
    have h2 : X < 2 ^ (H - 1) * 2 ^ (H - 1) := by
      rw [e6, hXe]; exact Int.mul_lt_mul_of_pos_right hc (two_pow_pos _)
    have h3 : q < 2 ^ (H - 1) := lt_of_sq_lt (Int.le_of_lt (two_pow_pos _)) (by omega)
    rw [hH1, Int.pow_succ]
    omega
  · have hx0 : sX man bc tg = sq (sX man bc tg) * sq (sX man bc tg) := by omega
    have eQ : sQ man bc tg = sq (sX man bc tg) := if_neg hx
    have eH : sH man bc tg = sS bc tg := if_neg hx
    rw [eQ, eH, ← hXe]
    refine ⟨by omega, ?_, ?_, s1, s2, s3, by omega, fun c H hc hH => ?_⟩
    · exact Int.le_trans (sq_mono (by omega) (by omega)) q1
    · omega
    · have e6 : (2:Int) ^ H * 2 ^ H = 2 ^ c * 2 ^ (sS bc tg).toNat := by rw [← Int.pow_add, ← Int.pow_add]; congr 1; omega
      have h2 : sX man bc tg < 2 ^ H * 2 ^ H := by
        rw [e6, hXe]; exact Int.mul_lt_mul_of_pos_right hc (two_pow_pos _)
      exact lt_of_sq_lt (Int.le_of_lt (two_pow_pos _)) (by omega)
theorem root_size {F : Int} {w : Nat} (hF : 0 < F) (hFw : F < 2 ^ w) (hw : w ≤ 1000) : 0 < sq (F * 2 ^ w) ∧ (Builtin.Int.intBits (sq (F * 2 ^ w)) : Int) ≤ w := by
  have hX : 0 < F * 2 ^ w := Int.mul_pos hF (two_pow_pos _)
  have q0 := sq_pos hX
  have q1 := sq_le (x := F * 2 ^ w) (by omega)
  have h2 : F * 2 ^ w < 2 ^ w * 2 ^ w := Int.mul_lt_mul_of_pos_right hFw (two_pow_pos _)
  have h3 : sq (F * 2 ^ w) < 2 ^ w := lt_of_sq_lt (Int.le_of_lt (two_pow_pos _)) (by omega)
  have h4 : bl (sq (F * 2 ^ w)) ≤ w := bl_le_of_lt (by omega) h3
  have h5 : Builtin.Int.intBits (sq (F * 2 ^ w)) ≤ w := h4
  omega
/-- the root of a part whose exponent is even -/
theorem near_gen {man F bc : Int} {c t : Nat} (hm : 0 < man) (hmC : man < 2 ^ c) (hlo : 2 ^ c ≤ 4 * man) (hc2 : c % 2 = 0) (hc : c ≤ 1000) (hbc : bc ≤ c) (hbc0 : 0 ≤ bc) (ht : 4 ≤ t) (ht2 : t ≤ 303) (hF : 0 < F) (hFw : F < 2 ^ (t + 8)) (hF1 : F * 2 ^ c ≤ man * 2 ^ (t + 8)) (hF2 : man * 2 ^ (t + 8) < (F + 1) * 2 ^ c) :
    SubOK (rM man bc t) (rE man bc t (-(c : Int))) (od (sq (F * 2 ^ (t + 8)))) ((tz (sq (F * 2 ^ (t + 8))) : Int) - ((t : Int) + 8)) (-(t : Int)) := by
  obtain ⟨f0, f1, f2, f3, f4, f5, f6, f7⟩ := sQ_facts (bc := bc) (tg := t) hm
  obtain ⟨r1, r2⟩ := root_size hF hFw (by omega)
  have hX : 0 < F * 2 ^ (t + 8) := Int.mul_pos hF (two_pow_pos _)
  have q1 := sq_le (x := F * 2 ^ (t + 8)) (by omega)
  have q2 := lt_sq (x := F * 2 ^ (t + 8)) (by omega)
  obtain ⟨H, hH⟩ : ∃ H : Nat, 2 * (H : Int) = sH man bc t + c := ⟨((sH man bc t + c) / 2).toNat, by omega⟩
  have hHt : t + 2 ≤ H := by omega
  have hQH := f7 c H hmC hH
  have he : (2:Int) ^ H * 2 ^ H = 2 ^ (sH man bc t).toNat * 2 ^ c := by rw [← Int.pow_add, ← Int.pow_add]; congr 1; omega
  have h256 : (2:Int) ^ 8 ≤ 2 ^ (t + 8) := pow_le (by omega)
  have e256 : (2:Int) ^ 8 = 256 := rfl
  have g1 := root_lo hm (two_pow_pos (t + 8)) (two_pow_pos _) (Int.le_of_lt hF) (two_pow_pos c) (Int.le_of_lt r1) (Int.le_of_lt f0) (two_pow_pos H) hF1 q1 f2 he
  have g2 := root_hi hm (by omega) (two_pow_pos _) (Int.le_of_lt hF) (two_pow_pos c) (Int.le_of_lt r1) f0 (two_pow_pos H) hF2 hlo q2 f1 he
  obtain ⟨n, n1, n2, n3, n4, n5, n6, n7, n8, n9⟩ := nM_scale f0 (show (0:Int) < t by omega)
  rw [Int.toNat_natCast] at n8
  have hbQ : bl (sQ man bc t) ≤ H := bl_le_of_lt (by omega) hQH
  have hnH : n ≤ H - t := by
    have : (n : Int) ≤ H - t := by rw [n1]; split <;> omega
    omega
  have hpn := pow_le hnH
  obtain ⟨s1, s2⟩ := s_fin (N := nR (sQ man bc t) t * 2 ^ n) hHt g1 g2 (by omega) (by omega)
  obtain ⟨o1, o2, o3⟩ := od_le n2
  have hnb : Builtin.Int.intBits (nR (sQ man bc t) t) ≤ t + 1 := by
    refine bl_le_of_lt (by omega) ?_
    have := two_pow_pos t
    rw [Int.pow_succ]; omega
  have hub : Builtin.Int.intBits (nM (sQ man bc t) t) ≤ t + 1 := Nat.le_trans o2 hnb
  exact sub_ok (i := n + tz (nR (sQ man bc t) t)) n3 (by show (Builtin.Int.intBits (nM (sQ man bc t) t) : Int) ≤ 4000; omega) (by omega) (by omega) (by omega) (by push_cast at r2; omega) n5.symm (by unfold rE; rw [n4, fdiv_pos_eq (by decide)]; push_cast; omega) r1 (by push_cast; rfl) s1 s2 rfl
theorem near_sub {M : Int} {b c t : Nat} (hM : 0 < M) (hb : b = bl M) (hc : c = b ∨ c = b + 1) (hb2 : b ≤ 900) (ht : 4 ≤ t) (ht2 : t ≤ 303) :
    SubOK (uM M b t (-(c : Int))) (uE M b t (-(c : Int))) (od (sq (tf M (-(c : Int)) ((t + 8 : Nat) : Int) * 2 ^ (t + 8)))) ((tz (sq (tf M (-(c : Int)) ((t + 8 : Nat) : Int) * 2 ^ (t + 8))) : Int) - ((t : Int) + 8)) (-(t : Int)) := by
  have hmB : M < 2 ^ b := by rw [hb]; exact bl_lt (by omega)
  have hbl : 2 ^ b ≤ 2 * M := by
    have h1 := bl_ge hM
    have h2 := bl_pos hM
    have : b = (bl M - 1) + 1 := by omega
    rw [this, Int.pow_succ]; omega
  have hb1 : 1 ≤ b := by rw [hb]; exact bl_pos hM
  have hmC : M < 2 ^ c := by
    have := pow_le (i := b) (j := c) (by omega)
    omega
  have hlo : 2 ^ c ≤ 4 * M := by
    rcases hc with rfl | rfl
    · omega
    · rw [Int.pow_succ]; omega
  obtain ⟨F1, F2⟩ := tf_bounds (v := t + 8) (by omega) hM hmC hlo
  obtain ⟨F3, F4⟩ := tf_spec (man := M) (c := c) (w := t + 8) (by omega)
  generalize tf M (-(c : Int)) ((t + 8 : Nat) : Int) = F at *
  unfold uM uE
  by_cases ho : (-(c : Int)) % 2 = 1
  · rw [if_pos ho, if_pos ho]
    have e1 : (2:Int) ^ (1:Int).toNat = 2 := rfl
    have e2 : -(c : Int) - 1 = -((c + 1 : Nat) : Int) := by push_cast; omega
    rw [e1, e2]
    have e5 : ∀ a : Int, a * 2 ^ (c + 1) = 2 * (a * 2 ^ c) := fun a => by rw [Int.pow_succ 2 c, ← Int.mul_assoc, Int.mul_comm]
    have e6 : M * 2 * 2 ^ (t + 8) = 2 * (M * 2 ^ (t + 8)) := by rw [Int.mul_right_comm, Int.mul_comm]
    refine near_gen (man := M * 2) (c := c + 1) (by omega) (by rw [Int.pow_succ]; omega) (by rw [Int.pow_succ]; omega) (by omega) (by omega) (by omega) (by omega) ht ht2 F1 F2 ?_ ?_
    · rw [e5, e6]; omega
    · rw [e5, e6]; omega
  · rw [if_neg ho, if_neg ho]
    by_cases h1 : M = 1
    · have eb : b = 1 := by rw [hb, h1]; rfl
      have ec : c = 2 := by omega
      subst h1 ec
      rw [if_pos rfl, if_pos rfl]
      have hX : 0 < F * 2 ^ (t + 8) := Int.mul_pos F1 (two_pow_pos _)
      have q1 := sq_le (x := F * 2 ^ (t + 8)) (by omega)
      have q2 := lt_sq (x := F * 2 ^ (t + 8)) (by omega)
      obtain ⟨r1, r2⟩ := root_size F1 F2 (by omega)
      have hQ0 := two_pow_pos (t + 2)
      have hsq : (1:Int) * 2 ^ (t + 2 + (t + 2)) = 2 ^ (t + 2) * 2 ^ (t + 2) := by rw [Int.one_mul, Int.pow_add]
      have he : (2:Int) ^ (t + 3) * 2 ^ (t + 3) = 2 ^ (t + 2 + (t + 2)) * 2 ^ 2 := by rw [← Int.pow_add, ← Int.pow_add]; congr 1; omega
      have h256 : (2:Int) ^ 8 ≤ 2 ^ (t + 8) := pow_le (by omega)
      have e256 : (2:Int) ^ 8 = 256 := rfl
      have g1 := root_lo (by decide) (two_pow_pos (t + 8)) (two_pow_pos _) (Int.le_of_lt F1) (two_pow_pos 2) (Int.le_of_lt r1) (Int.le_of_lt hQ0) (two_pow_pos (t + 3)) F3 q1 (by rw [hsq]; exact sq_mono (by omega) (by omega)) he
      have g2 := root_hi (by decide) (by omega) (two_pow_pos _) (Int.le_of_lt F1) (two_pow_pos 2) (Int.le_of_lt r1) hQ0 (two_pow_pos (t + 3)) F4 (by decide) q2 (by rw [hsq]; exact sq_mono (by omega) (by omega)) he
      have hpp := two_pow_pos (t + 3 - t)
      obtain ⟨s1, s2⟩ := s_fin (N := 2 ^ (t + 2)) (t := t) (H := t + 3) (by omega) g1 g2 (by omega) (by omega)
      exact sub_ok (i := t + 2) (by decide) (by decide) (by omega) (by omega) (by omega) (by push_cast at r2; omega) (by rw [Int.one_mul]) (by rw [fdiv_pos_eq (by decide)]; push_cast; omega) r1 (by push_cast; rfl) s1 s2 rfl
    · rw [if_neg h1, if_neg h1]
      exact near_gen hM hmC hlo (by omega) (by omega) (by omega) (by omega) ht ht2 F1 F2 F3 F4
/-- the last round's root against the part, and the package's -/
theorem root264 {M s : Int} {c t : Nat} (hM : 0 < M) (hmC : M < 2 ^ c) (hlo : 2 ^ c ≤ 4 * M) (ht : 4 ≤ t) (h : INR M c ((t : Int) + 8) s) {F g R : Int} (hF : F = tf M (-(c : Int)) ((t + 8 : Nat) : Int)) (hg : g = (F * s) / 2 ^ (t + 8)) (hR : R = sq (F * 2 ^ (t + 8))) : g - R ≤ 264 ∧ R - g ≤ 264 := by
  obtain ⟨b1, b2, b3⟩ := INR_bounds (by omega) hM hmC hlo h
  obtain ⟨h1, h2, h3⟩ := h
  have et : ((t : Int) + 8).toNat = t + 8 := by omega
  rw [et] at h1 h2 b1 b2
  obtain ⟨F1, F2⟩ := tf_bounds (v := t + 8) (by omega) hM hmC hlo
  obtain ⟨F3, F4⟩ := tf_spec (man := M) (c := c) (w := t + 8) (by omega)
  rw [← hF] at F1 F2 F3 F4
  have hX : 0 < F * 2 ^ (t + 8) := Int.mul_pos F1 (two_pow_pos _)
  have q0 := sq_pos hX
  have q1 := sq_le (x := F * 2 ^ (t + 8)) (by omega)
  have q2 := lt_sq (x := F * 2 ^ (t + 8)) (by omega)
  rw [← hR] at q0 q1 q2
  have hW := two_pow_pos (t + 8)
  have hC := two_pow_pos c
  clear hF hR
  generalize (2:Int) ^ (t + 8) = W at *
  generalize (2:Int) ^ c = C at *
  have d1 := Int.mul_ediv_add_emod (F * s) W
  have d2 := Int.emod_nonneg (F * s) (show W ≠ 0 by omega)
  have d3 := Int.emod_lt_of_pos (F * s) hW
  rw [← hg] at d1
  clear hg
  have k1 : F * (s - 32) < (R + 1) * W := by
    refine lt_of_sq_lt (Int.mul_nonneg (by omega) (by omega)) (Int.lt_of_mul_lt_mul_right (a := M) ?_ (by omega))
    have a1 : F * F * ((s - 32) * (s - 32) * M) < F * F * (W * W * C) := Int.mul_lt_mul_of_pos_left h1 (Int.mul_pos F1 F1)
    have a2 : F * C * (F * (W * W)) ≤ M * W * (F * (W * W)) := Int.mul_le_mul_of_nonneg_right F3 (Int.le_of_lt (Int.mul_pos F1 (Int.mul_pos hW hW)))
    have a3 : F * W * (M * (W * W)) < (R + 1) * (R + 1) * (M * (W * W)) := Int.mul_lt_mul_of_pos_right q2 (Int.mul_pos hM (Int.mul_pos hW hW))
    have e1 : F * (s - 32) * (F * (s - 32)) * M = F * F * ((s - 32) * (s - 32) * M) := by simp only [Int.mul_assoc, Int.mul_left_comm]
    have e2 : F * F * (W * W * C) = F * C * (F * (W * W)) := by simp only [Int.mul_assoc, Int.mul_left_comm, Int.mul_comm]
    have e3 : M * W * (F * (W * W)) = F * W * (M * (W * W)) := by simp only [Int.mul_assoc, Int.mul_left_comm]
    have e4 : (R + 1) * W * ((R + 1) * W) * M = (R + 1) * (R + 1) * (M * (W * W)) := by simp only [Int.mul_assoc, Int.mul_left_comm, Int.mul_comm]
    rw [e1, e4]; rw [e2] at a1; rw [e3] at a2
    omega
  have k2 : R * W < (F + 1) * (s + 32) := by
    refine lt_of_sq_lt (Int.mul_nonneg (by omega) (by omega)) (Int.lt_of_mul_lt_mul_right (a := C) ?_ (by omega))
    have a1 : R * R * (W * W * C) ≤ F * W * (W * W * C) := Int.mul_le_mul_of_nonneg_right q1 (Int.le_of_lt (Int.mul_pos (Int.mul_pos hW hW) hC))
    have a2 : F * W * (W * W * C) < F * W * ((s + 32) * (s + 32) * M) := Int.mul_lt_mul_of_pos_left h2 (Int.mul_pos F1 hW)
    have a3 : M * W * (F * ((s + 32) * (s + 32))) < (F + 1) * C * (F * ((s + 32) * (s + 32))) := Int.mul_lt_mul_of_pos_right F4 (Int.mul_pos F1 (Int.mul_pos (by omega) (by omega)))
    have a4 : F * ((F + 1) * C * ((s + 32) * (s + 32))) ≤ (F + 1) * ((F + 1) * C * ((s + 32) * (s + 32))) := Int.mul_le_mul_of_nonneg_right (by omega) (Int.mul_nonneg (Int.mul_nonneg (by omega) (by omega)) (Int.mul_nonneg (by omega) (by omega)))
    have e1 : R * W * (R * W) * C = R * R * (W * W * C) := by simp only [Int.mul_assoc, Int.mul_left_comm]
    have e2 : F * W * ((s + 32) * (s + 32) * M) = M * W * (F * ((s + 32) * (s + 32))) := by simp only [Int.mul_assoc, Int.mul_left_comm, Int.mul_comm]
    have e3 : (F + 1) * C * (F * ((s + 32) * (s + 32))) = F * ((F + 1) * C * ((s + 32) * (s + 32))) := by simp only [Int.mul_assoc, Int.mul_left_comm]
    have e4 : (F + 1) * (s + 32) * ((F + 1) * (s + 32)) * C = (F + 1) * ((F + 1) * C * ((s + 32) * (s + 32))) := by simp only [Int.mul_assoc, Int.mul_left_comm, Int.mul_comm]
    rw [e1, e4]; rw [e2] at a2; rw [e3] at a3
    omega
  have k3 : F * (s - 32) = F * s - 32 * F := by rw [Int.mul_sub, Int.mul_comm F 32]
  have k4 : (F + 1) * (s + 32) = F * s + 32 * F + s + 32 := by rw [Int.add_mul, Int.mul_add, Int.one_mul, Int.mul_comm F 32]; omega
  have m1 : W * g < W * (R + 33) := by
    rw [Int.mul_add, Int.mul_comm W R, Int.mul_comm W 33]
    rw [Int.add_mul, Int.one_mul, k3] at k1
    omega
  have m2 : W * R < W * (g + 40) := by
    rw [Int.mul_add, Int.mul_comm W R, Int.mul_comm W 40]
    rw [k4] at k2
    omega
  have m3 := Int.lt_of_mul_lt_mul_left m1 (by omega)
  have m4 := Int.lt_of_mul_lt_mul_left m2 (by omega)
  omega
end
section
set_option maxRecDepth 100000
open PySem PySem.W PySem.Spec PySem.Calls PyProof.Rows
theorem frames_mem {env : Env} {L b : Addr} {outer : List Env} (hf : env.frame = some L) (hm : b ∈ (env :: outer).filterMap (·.frame)) : b = L ∨ b ∈ outer.filterMap (·.frame) := by
  rw [List.filterMap_cons, hf] at hm
  exact List.mem_cons.mp hm
/-- the ground of a call whose callee may turn the frames' slots: what stands for the callee, and what its end hands back -/
theorem ground_turn {A₀ A : Around} {s : Shared} {base h₀ : Heap} {outer : List Env} {L : Addr} {m : Str → Option Value} {env : Env} {news : List (Addr × Obj)} {K : Frag}
    {p : Program} {loose : List Str} {mean : ExcName → Option Value} {mg mb : Str → Option Value} {R : Result → Shared → Prop}
    (B : Below A₀ base outer h₀) (F : Fr h₀ L s.heap m) (N : News h₀ L s.heap news) (XB : K.In base) (TB : Top p loose mean mg mb base) (D : KtsDicts (outer.filterMap (·.frame)) h₀)
    (hA : A.frames = some (env :: outer)) (hf : env.frame = some L) (hke : env.scope.kind = .function) :
    Fr h₀ L (hideAll s.heap (news.map (·.1))) m ∧ Below A base (env :: outer) (hideAll s.heap (news.map (·.1))) ∧ h₀.StaysIn (hideAll s.heap (news.map (·.1))) ∧
      KtsDicts ((env :: outer).filterMap (·.frame)) (hideAll s.heap (news.map (·.1))) ∧
      ∀ v s', LeaveS ((env :: outer).filterMap (·.frame)) A₀ base outer K p loose mean mg mb h₀ h₀ L m (hideAll s.heap (news.map (·.1))) R v s' → R (.ok (.ret v)) s' := by
  obtain ⟨FG, BG, st, lv⟩ := groundX (R := R) B F N hA hf hke
  obtain ⟨oL, es, ep, hLg, hLd, hLk, hLf⟩ := FG.ns
  have nL₀ : h₀.get? L = none := kts_self F
  refine ⟨FG, BG, st, fun b hb => ?_, fun v s' hl => ?_⟩
  · rcases frames_mem hf hb with rfl | hb
    · exact ⟨oL, es, ep, hLg, hLd⟩
    · obtain ⟨o, es', n', ho', hd'⟩ := D b hb
      exact ⟨o, es', n', st b o ho', hd'⟩
  · rcases hl with ⟨L', m', news', F', N', k⟩ | ⟨g', L', m', news', T', F', N', k⟩
    · exact lv v s' ⟨L', m', news', F', N', k⟩
    · have apart : ∀ b o, h₀.get? b = some o → b ∉ outer.filterMap (·.frame) → b ∉ (env :: outer).filterMap (·.frame) := fun b o e nm q => by
        rcases frames_mem hf q with z | z
        · rw [z, nL₀] at e; cases e
        · exact nm z
      obtain ⟨sl, hs⟩ := T'.up hLg
      obtain ⟨T₁, S₁⟩ := kts_turn_at (h := s'.heap) (fs := outer.filterMap (·.frame)) (g := h₀)
        (fun b hb => by obtain ⟨_, o, ho', _⟩ := B.frames.mem hb; exact ⟨o, ho'⟩)
        (fun b o e nm => F'.keep b o (T'.other b o (st b o e) (apart b o e nm)))
        (fun b o e hm => by obtain ⟨sl', hs'⟩ := T'.up (st b o e); exact ⟨sl', F'.keep _ _ hs'⟩)
      have B₃ : Below A₀ base outer (ktsHeap s'.heap (outer.filterMap (·.frame)) h₀) := ⟨B.stack, fun b o e => T₁.other b o (B.stays b o e) (fun hm => by
        rw [(B.frames.mem hm).1] at e
        cases e), B.frames.of_keeps fun b o e _ => by
        obtain ⟨sl', hs'⟩ := T₁.up e
        exact ⟨_, hs', rfl⟩⟩
      refine k _ T₁ ⟨⟨_, es, ep, F'.keep _ _ hs, hLd, hLk, hLf⟩, S₁, by rw [T₁.size]; exact F.above⟩ (fun p hp => ⟨(N' p hp).1, fun q => ?_, T₁.none_ _ ?_⟩) B₃ (XB.keeps B₃.stays) (TB.keeps B₃.stays) (D.turn T₁)
      · have := (N' p hp).2.2; rw [q, hs] at this; cases this
      · cases q : h₀.get? p.1 with
        | none => rfl
        | some o =>
          obtain ⟨sl', hs'⟩ := T'.up (st _ _ q)
          have := (N' p hp).2.2
          rw [hs'] at this
          cases this
section
variable {prog : Program} {w : World} {A₀ A : Around} {s : Shared} {base h₀ : Heap} {outer : List Env} {L : Addr} {m : Str → Option Value} {env : Env} {news : List (Addr × Obj)} {K : Frag} {p : Program} {loose : List Str} {mean : ExcName → Option Value} {mg mb : Str → Option Value}
    {R : Result → Shared → Prop} {name qual : Str} {params : Arguments} {body : List Stmt} {scope : Scope} {dV kV doc pm cdv ct oc : Value} {an od : Option Addr} {osl : Array (Option Value)} {f : Addr} {args : Args} {binds : List (Str × Value)}
theorem code_turn (B : Below A₀ base outer h₀) (F : Fr h₀ L s.heap m) (X₀ : K.In h₀) (N : News h₀ L s.heap news) (T : Top p loose mean mg mb h₀) (XB : K.In base) (TB : Top p loose mean mg mb base) (D : KtsDicts (outer.filterMap (·.frame)) h₀)
    (hA : A.frames = some (env :: outer)) (hf : env.frame = some L) (hke : env.scope.kind = .function)
    (ho : K.lookup f = some ⟨oc, od, .func (fnOf name qual params body scope dV kV doc pm an cdv ct), osl⟩) (hcd : codeIn K cdv qual = true) (hroom : A.depth < recursionLimit)
    (hbind : BindsTo s (fnOf name qual params body scope dV kV doc pm an cdv ct) args binds) (hloc : ∀ y ∈ binds, scope.names.lookup y.1 = some .local)
    (h : ∀ g L' h₁, Fr h₀ L g m → Fr g L' h₁ (fun y => binds.reverse.lookup y) → News g L' h₁ news → Below A base (env :: outer) g → K.In g → Top p loose mean mg mb g → KtsDicts ((env :: outer).filterMap (·.frame)) g →
      wpAny (model prog w) (A.deeper (envOf qual scope L' f cdv)) (execs body (envOf qual scope L' f cdv))
        (fun fl s' => LeaveS ((env :: outer).filterMap (·.frame)) A₀ base outer K p loose mean mg mb h₀ h₀ L m g R (match fl with | .ret v => v | _ => .none) s')
        (fun e s' => wpAny (model prog w) (A.deeper (envOf qual scope L' f cdv)) (leaving (envOf qual scope L' f cdv) e) (fun _ s'' => R (.error e) s'') (fun e' s'' => R (.error e') s'') s')
        { s with heap := h₁, toks := s.toks + binds.length })
    (hco : scope.isCoroutine = false) (hgen : scope.isGenerator = false) (hk : scope.kind = .function)
    (hcell : ∀ x ∈ scope.names, x.2 ≠ .cell) : codeAny (model prog w) A (.call (.ref f) args) R s := by
  obtain ⟨FG, BG, st, DG, lv⟩ := ground_turn (R := R) B F N XB TB D hA hf hke
  have X := X₀.keeps F.keep
  refine codeAny_call_def (fd := fnOf name qual params body scope dV kV doc pm an cdv ct) (body := body) (binds := binds) hroom (X _ _ ho) rfl (T.nolimit.keeps F.keep) (codeRec_of X hcd) rfl hbind hcell hloc (fun h₁ hns hk₁ => ?_) hco hgen hk
  exact wpAny_mono (h _ s.heap.objs.size h₁ FG ⟨hns, fun b o e => hk₁ b o (of_hideAll _ e), Nat.le_of_eq (hideAll_size _ _)⟩
    (fun p hp => ⟨hk₁ _ _ (N p hp).1, Nat.ne_of_lt (Heap.lt_size (N p hp).1), hideAll_none _ (List.mem_map_of_mem hp)⟩) BG (X₀.keeps st) (T.keeps st) DG) (fun fl s' hl => lv _ _ hl) fun _ _ y => y
theorem code_turnC (B : Below A₀ base outer h₀) (F : Fr h₀ L s.heap m) (X₀ : K.In h₀) (N : News h₀ L s.heap news) (T : Top p loose mean mg mb h₀) (XB : K.In base) (TB : Top p loose mean mg mb base) (D : KtsDicts (outer.filterMap (·.frame)) h₀)
    (hA : A.frames = some (env :: outer)) (hf : env.frame = some L) (hke : env.scope.kind = .function)
    (ho : K.lookup f = some ⟨oc, od, .func (fnOf name qual params body scope dV kV doc pm an cdv ct), osl⟩) (hcd : codeIn K cdv qual = true) (hroom : A.depth < recursionLimit)
    (hbind : BindsTo s (fnOf name qual params body scope dV kV doc pm an cdv ct) args binds) (hkind : (binds.all fun y => scope.names.lookup y.1 == some .local || scope.names.lookup y.1 == some .cell) = true)
    (hnd : ((cellsFrom 0 scope.names []).map (·.1)).Nodup)
    (h : ∀ g L' h₁ tk cells, Fr h₀ L g m → Fr g L' h₁ (bindL (envOfC qual scope L' f cdv).kindOf binds fun _ => none) → News g L' h₁ (cells ++ news) →
      CellsAre (bindC (envOfC qual scope L' f cdv).kindOf binds fun _ => none) (cellsFrom (L' + 1) scope.names []) cells → Below A base (env :: outer) g → K.In g → Top p loose mean mg mb g → (∀ p ∈ news, p.1 < L') → KtsDicts ((env :: outer).filterMap (·.frame)) g →
      wpAny (model prog w) (A.deeper (envOfC qual scope L' f cdv)) (execs body (envOfC qual scope L' f cdv))
        (fun fl s' => LeaveS ((env :: outer).filterMap (·.frame)) A₀ base outer K p loose mean mg mb h₀ h₀ L m g R (match fl with | .ret v => v | _ => .none) s')
        (fun e s' => wpAny (model prog w) (A.deeper (envOfC qual scope L' f cdv)) (leaving (envOfC qual scope L' f cdv) e) (fun _ s'' => R (.error e) s'') (fun e' s'' => R (.error e') s'') s')
        { s with heap := h₁, toks := tk })
    (hco : scope.isCoroutine = false) (hgen : scope.isGenerator = false) (hk : scope.kind = .function) : codeAny (model prog w) A (.call (.ref f) args) R s := by
  obtain ⟨FG, BG, st, DG, lv⟩ := ground_turn (R := R) B F N XB TB D hA hf hke
  have X := X₀.keeps F.keep
  refine codeAny_call_function hroom (X _ _ ho) rfl hco hgen rfl (codeRec_of X hcd) (hbind _ _ _ _ ?_)
  refine wpAny_newFunctionEnv_cells hk (kindsX hkind _) fun env' he s' x => ?_
  subst he
  refine ⟨(T.nolimit.keeps F.keep).keeps x.toInCall.keep, codeAny_func ?_⟩
  obtain ⟨h₁, tk, rfl, _⟩ := x.done
  have hk₁ := x.toInCall.keep
  obtain ⟨cells, NC, Y⟩ := Cl.news (h₀ := s.heap) (Nat.le_refl _) fun n c hm => ⟨x.cell n c (lookup_of_mem_nodup (cellsFrom_names scope.names 0 (s.heap.objs.size + 1) [] [] rfl ▸ hnd) hm), x.above n c hm⟩
  refine wpAny_mono (h _ s.heap.objs.size h₁ tk cells FG ⟨x.toInCall.ns, fun b o e => hk₁ b o (of_hideAll _ e), Nat.le_of_eq (hideAll_size _ _)⟩ (fun p hp => ?_) Y BG (X₀.keeps st) (T.keeps st) (fun p hp => Heap.lt_size (N p hp).1) DG) (fun fl s' hl => lv _ _ hl) fun _ _ y => y
  rcases List.mem_append.mp hp with hp | hp
  · refine ⟨(NC p hp).1, (NC p hp).2.1, ?_⟩
    cases q : (hideAll s.heap (news.map (·.1))).get? p.1 with
    | none => rfl
    | some o => have := of_hideAll _ q; rw [(NC p hp).2.2] at this; cases this
  · exact ⟨hk₁ _ _ (N p hp).1, Nat.ne_of_lt (Heap.lt_size (N p hp).1), hideAll_none _ (List.mem_map_of_mem hp)⟩
end
end
section
set_option maxRecDepth 100000
open PySem PySem.W PySem.Spec PySem.Calls PyProof.Rows
/-- the ledger's tuple that a comprehension runs over -/
def TupSrc (ax : Addr) (its : Array Value) (news : Led) : Prop := ∃ o, (ax, o) ∈ news ∧ o.cls = .type "tuple" ∧ ∃ n, o.data = .seq its n
theorem TupSrc.tup {ax : Addr} {its : Array Value} {news : Led} {h₀ h : Heap} {L : Addr} (x : TupSrc ax its news) (N : News h₀ L h news) : h.IsTuple ax its :=
  let ⟨o, hm, r⟩ := x; ⟨o, (N _ hm).1, r⟩
section
variable {prog : Program} {w : World} {A : Around} {E : Value → Shared → Prop} {s : Shared} {h₀ : Heap} {L : Addr} {m : Str → Option Value} {env : Env}
def CompTup (prog : Program) (w : World) (A : Around) (h₀ : Heap) (L : Addr) (m : Str → Option Value) (env : Env) (elt : PySem.Expr) (x : Str) (scope : Scope) (cl : List (Str × Addr)) (Fin : Shared → List Value → Led → Prop) (xv : Value) (s₁ : Shared) : Prop :=
  ∃ ax its news, xv = .ref ax ∧ A.handled = none ∧ Fr h₀ L s₁.heap m ∧ News h₀ L s₁.heap news ∧ TupSrc ax its news ∧ its.size ≤ sizeLine ∧
    ∀ g, LCg.CompRest prog w A h₀ L m env elt x scope cl { s₁ with heap := g } (TupSrc ax its) (fun i v => its[i]? = some v) (Fin { s₁ with heap := g }) its.size 0 [] news
theorem comp_three {elt : PySem.Expr} {x : Str} {scope : Scope} {cl : List (Str × Addr)} {Fin : Shared → List Value → Led → Prop} {ax : Addr} {a b c : Value} {k : Nat} {news : Led} {s₁ : Shared}
    (hh : A.handled = none) (F : Fr h₀ L s₁.heap m) (N : News h₀ L s₁.heap news) (hm : (ax, ({ cls := .type "tuple", data := .seq [a, b, c].toArray k } : Obj)) ∈ news)
    (h : ∀ g, LCg.CompRest prog w A h₀ L m env elt x scope cl { s₁ with heap := g } (TupSrc ax [a, b, c].toArray) (fun i v => [a, b, c].toArray[i]? = some v) (Fin { s₁ with heap := g }) 3 0 [] news) :
    CompTup prog w A h₀ L m env elt x scope cl Fin (.ref ax) s₁ := ⟨ax, _, news, rfl, hh, F, N, ⟨_, hm, rfl, _, rfl⟩, Nat.le_of_ble_eq_true rfl, h⟩
theorem ListComp_tup {elt iter : PySem.Expr} {x : Str} {px : Pos} {scope : Scope} {cl : List (Str × Addr)} {pos : Pos} {Q : Value → Shared → Prop} (_F₀ : Fr h₀ L s.heap m)
    (hclos : closureFor scope env = pure cl) (hcell : ∀ y ∈ scope.names, y.2 ≠ .cell) (hkind : scope.kind = .function)
    (hnames : ∀ y ∈ scope.names, y.2 = .local → scope.names.lookup y.1 = some .local) (hx : scope.names.lookup x = some .local)
    (h : wpAny (model prog w) A (eval iter env) (CompTup prog w A h₀ L m env elt x scope cl (fun s₂ => LCg.FinE h₀ L m s₂ Q)) E s)
    (hs : ∀ x, foldedSetIterable iter env x = pure x := by intro _; rfl) :
    wpAny (model prog w) A (eval (.ListComp elt [⟨.Name x px, iter, [], 0⟩] scope pos) env) Q E s := by
  rw [eval_ListComp]
  refine wpAny_comprehension_free (use := none) rfl hs hclos hkind hnames (wpAny_mono h (fun xv s₁ h₁ => ?_) fun _ _ e => e)
  obtain ⟨ax, its, news, rfl, hh, F, N, S, hsz, R⟩ := h₁
  have ht := S.tup N
  have hlt : ax < s₁.heap.objs.size := by obtain ⟨_, e, _⟩ := ht; exact Heap.lt_size e
  refine wpAny_pyIter_tuple ht ?_
  have up : ∀ b o, s₁.heap.get? b = some o → (s₁.heap.push { cls := .type "tuple_iterator", data := .fields #[.ref ax, .int 0 0] }).get? b = some o := fun b o e => Heap.get?_push_of_some _ e
  refine LCg.block_U (Walks.tuple hh s₁.heap.objs.size ax (Nat.ne_of_lt hlt) its) hsz (fun i h st => by obtain ⟨o, e, _⟩ := st.1; exact ⟨o, e⟩) (fun i g g' o nw st e e' _ N' S' => ⟨by obtain ⟨o', q, r⟩ := st.1; rw [e] at q; cases q; exact ⟨o, e', r⟩, S'.tup N'⟩) hcell hkind hx
    ⟨⟨_, Heap.get?_push_size _ rfl, rfl, rfl⟩, ht.push _⟩ (fun b hb => ?_) (F.keeps up) (N.grown up) (Nat.ne_of_lt F.ns.lt) (next_is_new F) (fun p hp => Nat.ne_of_lt (Heap.lt_size (N p hp).1)) S (R _) ?_
  · show b < (s₁.heap.push _).objs.size
    rw [Heap.size_push]
    rcases List.mem_cons.mp hb with rfl | hb
    · exact Nat.lt_succ_self _
    · rw [List.mem_singleton.mp hb]; exact Nat.lt_succ_of_lt hlt
  · intro D C g tk m' ys news' F' N' o1 hn hC₀ hD₀ hCL hDL hCD offC fin
    refine ⟨m', hn, fun g2 hs2 => fin D g2 tk (F'.change hs2 hCL hC₀) (fun p hp => ?_) o1⟩
    refine ⟨hs2.extBut _ _ ?_ (N' p hp).1, (N' p hp).2⟩
    rcases List.mem_cons.mp hp with rfl | hp
    · exact Ne.symm hCD
    · exact offC p hp
end
end
local macro_rules | `(tactic| walk_at "bg side") => `(tactic| first | with_reducible assumption | omega | exact Or.inl (by omega) | exact Or.inr rfl)
local macro_rules | `(tactic| walk_at "bg step") => `(tactic| first | (k_unfold; (try dsimp only)) | (k_end; wrow_close) | walk1 | (dsimp only; walk1) | (leave1; walk_say "STEP leave1"; try dsimp only) | fail "no step")
local macro_rules | `(tactic| walk_at "bg walk") => `(tactic| repeat' ((fail_if_success (with_reducible show wpAny _ _ (exec (Stmt.While _ _ _ _) _) _ _ _)); (fail_if_success (with_reducible show wpAny _ _ (exec (Stmt.For _ _ _ _ _) _) _ _ _)); (fail_if_success (with_reducible show ItemsRest _ _ _ _ _ _ _ _ _ _ _ _ _ _ _)); (fail_if_success (with_reducible show UnrEndW _ _ _ _ _ _)); walk_at "bg step"))
local macro_rules | `(tactic| walk_at "binaryOp LShift int int") => `(tactic| (refine' PyProof.Rows.lshift_int ?hn ?hsz ?_; (case hn => walk_at "bg side"); (case hsz => walk_at "bg side"); (try dsimp only)))
local macro_rules | `(tactic| walk_at "binaryOp FloorDiv int int") => `(tactic| (refine' PyProof.Rows.floordiv_int ?hb ?_ ?hp; (case hb => walk_at "bg side"); (case hp => exact Or.inl (by first | with_reducible assumption | exact PyProof.noPylong_small (by omega))); (try dsimp only)))
local macro_rules | `(tactic| walk_at "bg led") => `(tactic| first | k_asm | (refine' cb_drop ?cN ?cS; (case cN => assumption); (case cS => (intro p hp; repeat (first | exact hp | exact List.mem_cons_of_mem _ hp | exact List.mem_append_right _ hp | refine List.mem_cons_of_mem _ ?_ | refine List.mem_append_right _ ?_ | with_reducible refine SubOf.mem (by with_reducible assumption) ?_)))))
local macro_rules | `(tactic| walk_at "bg led1") => `(tactic| first | k_asm | exact drop1 (by assumption) | exact drop2 (by assumption) | exact drop3 (by assumption))
local macro_rules | `(tactic| walk_at "bg lt") => `(tactic| first | assumption | exact ktn_ltOf (by assumption) | exact ktn_ltOf (And.right (by assumption)) | exact ktn_ltOf (And.right (And.right (by assumption))))
local macro_rules | `(tactic| walk_at "bg ends") => `(tactic| first
  | (refine' endI (by assumption) ?e ?F ?N; (case F => k_asm); (case N => walk_at "bg led"); (case e => rfl))
  | (refine' endB (by assumption) ?e ?F ?N; (case F => k_asm); (case N => walk_at "bg led"); (case e => rfl))
  | (refine' endT (by assumption) ?F ?N ?l ?e; (case F => k_asm); (case N => walk_at "bg led1"); (case l => walk_at "bg lt"); (case e => exact ⟨rfl, rfl, rfl, rfl⟩))
  | (refine' endV (by assumption) ?F ?N; (case F => k_asm); (case N => walk_at "bg led"))
  | (exfalso; omega)
  | (refine' endP (by assumption) ?F ?N ?l ?e; (case F => k_asm); (case N => walk_at "bg led1"); (case l => walk_at "bg lt"); (case e => exact ⟨rfl, rfl⟩)))
local macro_rules | `(tactic| walk_at "bg enter") => `(tactic| (refine wpAny_call ?_; k_dflt (refine' code_def ?k1 ?k2 ?k3 ?k4 ?k5 ?kA ?kF ?kK ?k6 ?k7 ?k8 ?k9 ?kB ?_ ?c2 ?c3 ?c4 ?c5; (case kA => exact rfl); (case kF => exact rfl); (case kK => first | exact rfl | assumption); (case k1 => k_asm); (case k2 => k_asm); (case k3 => k_asm); (case k4 => k_asm); (case k5 => k_asm); (case k6 => k_is); (case k7 => k_is); (case k8 => first | exact bg_room0 (by assumption) | ktr_room); (case k9 => first | exact BindsTo.of_eq rfl | exact binds_K (by k_in) rfl (by k_is) rfl rfl rfl); (case c5 => decide); (case kB => exact locs rfl); (case c2 => exact rfl); (case c3 => exact rfl); (case c4 => exact rfl); k_whole; intro g' L' h' FG' F' N' B' X' T'; (try dsimp only); (try k_fold))))
local macro_rules | `(tactic| walk_at "ite") => `(tactic| first
  | with_reducible refine ite_tt ?_
  | with_reducible refine ite_ff ?_
  | with_reducible refine split_not ?_
  | with_reducible refine bg_ine_t (PySem.Flt.Hid.out (by with_reducible assumption)) ?_
  | with_reducible refine bg_ine_f (PySem.Flt.Hid.out (by with_reducible assumption)) ?_
  | with_reducible refine bg_ine_t (by with_reducible assumption) ?_
  | with_reducible refine bg_ine_f (by with_reducible assumption) ?_
  | with_reducible refine bg_ieq_t (by with_reducible assumption) ?_
  | with_reducible refine bg_ieq_f (by with_reducible assumption) ?_
  | with_reducible refine bg_dec_t (by first | with_reducible assumption | omega) ?_
  | with_reducible refine bg_dec_f (by first | with_reducible assumption | omega) ?_
  | with_reducible refine bg_ine_t (by omega) ?_
  | with_reducible refine bg_ine_f (by omega) ?_
  | with_reducible refine bg_ieq_t (by omega) ?_
  | with_reducible refine bg_ieq_f (by omega) ?_
  | with_reducible refine ite_pos (by with_reducible assumption) ?_
  | with_reducible refine ite_isFalse (by with_reducible assumption) ?_)
local macro_rules | `(tactic| walk_at "bg get") => `(tactic| first | exact News.get (by k_asm) (by k_mem) | exact Fr.keep (by k_asm) _ _ ((by assumption : Frag.In _ _) _ _ (by k_is)))
local macro_rules | `(tactic| walk_at "bg teq") => `(tactic| first | omega | exact ⟨rfl, rfl, rfl, rfl⟩ | with_reducible assumption)
local macro_rules | `(tactic| walk_at "compareOp Eq ref ref") => `(tactic| (k_here; k_dflt (first
  | (refine' eqT_f ?h1 ?h2 ?hu ?hn ?_; (case h1 => walk_at "bg get"); (case h2 => walk_at "bg get"); (case hu => first | exact bg_u64 (by assumption) | ktr_units); (case hn => walk_at "bg teq"))
  | (refine' eqT_t ?h1 ?h2 ?hu ?hn ?_; (case h1 => walk_at "bg get"); (case h2 => walk_at "bg get"); (case hu => first | exact bg_u64 (by assumption) | ktr_units); (case hn => walk_at "bg teq")))))
local macro_rules | `(tactic| walk_at "compareOp NotEq ref ref") => `(tactic| (k_here; k_dflt (refine' neT_f ?h1 ?h2 ?hu ?hn ?_; (case h1 => walk_at "bg get"); (case h2 => walk_at "bg get"); (case hu => first | exact bg_u64 (by assumption) | ktr_units); (case hn => walk_at "bg teq"))))
local macro_rules | `(tactic| walk_at "call builtin:divmod") => `(tactic| (k_here; k_dflt (refine' divmod_K ?F ?N ?hb ?hp ?_; (case F => k_asm); (case N => k_asm); (case hb => walk_at "bg side"); (case hp => walk_at "bg side")); intro D' t1' t2' h' tk' F' N' l1; (try k_lt l1); (try dsimp only [T2] at N'); (try dsimp only); (try k_sweep)))
local macro_rules | `(tactic| walk_at "inplaceOp LShift int int") => `(tactic| (refine' PyProof.Rows.ilshift_int ?hn ?hsz ?_; (case hn => walk_at "bg side"); (case hsz => walk_at "bg side"); (try dsimp only)))
local macro_rules | `(tactic| walk_at "bg size") => `(tactic| first | with_reducible assumption | (simp only [sizeLine_eq, List.size_toArray, List.length_append, List.length_cons, List.length_nil] at *; omega))
local macro_rules | `(tactic| walk_at "subscriptTail Name UnaryOp ref int") => `(tactic| (k_here; k_dflt (refine' last_K ?N ?m ?e ?_ ?s; (case N => k_asm); (case m => k_mem); (case e => first | exact rfl | with_reducible assumption); (case s => with_unfolding_all rfl))))
local macro_rules | `(tactic| walk_at "binaryOp Add ref ref") => `(tactic| (k_here; k_dflt (refine' addL_K ?F ?N ?a ?b ?z ?_; (case F => k_asm); (case N => k_asm); (case a => k_mem); (case b => k_mem); (case z => walk_at "bg size")); intro D' h' F' N' l1; (try k_lt l1); (try k_sweep)))
local macro_rules | `(tactic| walk_at "subscriptTail Name Slice ref ref") => `(tactic| (k_here; (with_reducible show wpAny _ _ (subscriptTail _ (PySem.Expr.Slice none none (some _) _) (Value.ref _) (Value.ref _)) _ _ _); k_dflt (refine' krv_lit ?F ?N ?l ?k ?e ?_ ?s ?t ?z; (case F => k_asm); (case N => k_asm); (case l => exact News.isList (by k_asm) (by k_mem)); (case k => exact IsPart.int _ _); (case e => exact rfl); (case s => with_unfolding_all rfl); (case t => kmk_pure); (case z => walk_at "bg size")); intro D' h' F' N' l1; (try k_lt l1); (try k_sweep)))
local macro_rules | `(tactic| walk_at "subscriptTail Name Constant ref int") => `(tactic| (k_here; (with_reducible show wpAny _ _ (subscriptTail _ _ (Value.ref _) (Value.int 0 _)) _ _ _); k_dflt (refine' first_K ?N ?m ?e ?_ ?s; (case N => k_asm); (case m => k_mem); (case e => with_reducible assumption); (case s => with_unfolding_all rfl))))
local macro_rules | `(tactic| walk_at "subscriptTail Name Slice ref ref") => `(tactic| (k_here; (with_reducible show wpAny _ _ (subscriptTail _ (PySem.Expr.Slice (some _) none none _) (Value.ref _) (Value.ref _)) _ _ _); k_dflt (refine' from1_K ?F ?N ?m ?e ?z ?_ ?s ?t; (case F => k_asm); (case N => k_asm); (case m => k_mem); (case e => with_reducible assumption); (case z => walk_at "bg size"); (case s => with_unfolding_all rfl); (case t => kmk_pure)); intro D' h' F' N' l1; (try k_lt l1); (try k_sweep)))
local macro_rules | `(tactic| walk_at "call type:zip") => `(tactic| (k_here; k_dflt (refine' ktu_zip ?hh ?F ?N ?m1 ?c1 ?d1 ?m2 ?c2 ?d2 ?_; (case hh => exact rfl); (case F => k_asm); (case N => k_asm); (case m1 => k_mem); (case c1 => exact rfl); (case d1 => exact rfl); (case m2 => k_mem); (case c2 => exact rfl); (case d2 => exact rfl)); intro I' l1))
local macro_rules | `(tactic| walk_at "bg sub") => `(tactic| (intro p hp; repeat (first | exact hp | exact List.mem_cons_of_mem _ hp | refine List.mem_cons_of_mem _ ?_)))
local macro_rules | `(tactic| walk_at "bg for") => `(tactic| (refine' For_turns ?F ?_ ?hs ?hE; (case F => k_asm); (case hs => (intro _; rfl)); (case hE => first | passes_own | with_unfolding_all passes_own)))
local macro_rules | `(tactic| walk_at "pyIter ref") => `(tactic| (k_here; (with_reducible show wpAny _ _ (pyIter (Value.ref _)) (fun it s₂ => TurnsAt _ _ _ _ _ _ _ _ _ it s₂) _ _); k_dflt (refine' iter_listTurns ?hh ?F ?N ?m ?c ?d ?_; (case hh => exact rfl); (case F => k_asm); (case N => k_asm); (case m => k_mem); (case c => exact rfl); (case d => exact rfl)); intro I' l1))
local macro_rules | `(tactic| k_all) => `(tactic| assumption)
local macro_rules | `(tactic| k_mem) => `(tactic| first | exact List.Mem.head _ | with_reducible assumption | ((with_reducible refine List.mem_cons_of_mem _ ?_); k_mem) | ((with_reducible refine SubOf.mem (by with_reducible assumption) ?_); k_mem))
local macro_rules | `(tactic| walk_at "binaryOp Pow int int") => `(tactic| (refine' PyProof.Rows.pow_int ?hn ?hsz ?_; (case hn => first | decide | omega); (case hsz => with_reducible assumption); (try dsimp only)))
local macro_rules | `(tactic| walk_at "binaryOp Mult int int") => `(tactic| (refine' PyProof.Rows.mul_int ?_ ?hm; (case hm => with_reducible assumption); (try dsimp only)))
local macro_rules | `(tactic| walk_at "eval Name") => `(tactic| (k_here; (fail_if_success (with_reducible show wpAny _ _ (eval _ (compEnvC _ _ _ _)) _ _ _)); k_dflt (first
  | (refine' nameX_L ?F ?v ?_ ?a ?b; (case a => rfl); (case b => rfl); (case F => k_asm); (case v => rfl); k_whole)
  | (refine' nameX_K ?F ?X ?T ?e ?_ ?a ?b; (case a => rfl); (case b => rfl); (case F => k_asm); (case X => k_asm); (case T => k_asm); (case e => k_is); k_whole))))
local macro_rules | `(tactic| walk_at "eval Call") => `(tactic| ((fail_if_success (with_reducible show wpAny _ _ (eval (Expr.Call _ _ (_ :: _) _) _) _ _ _)); k_dflt (refine Call_ ?_)))
section
set_option maxRecDepth 100000
set_option maxHeartbeats 8000000
theorem c_rshift (w : World) (news : Led) (x n : Int) (tx tn : Tok) (hs : (Builtin.Int.intBits x : Int) + (-n) ≤ 2 ^ 27) :
    Con w 29 1 news [.int x tx, .int n tn] (RetI news (if n ≥ 0 then x.fdiv (2 ^ n.toNat) else x * 2 ^ (-n).toNat)) := by
  unfold Con; k_fill
  intro loose mean mg mb dp un gd cn cs a ccd cl outer A₀ base h₀ L m s Q E B F X N T hk hdp hu hret; walk_at "bg enter"
  walk_at "bg walk"
  · exact endI hret (by rw [if_pos (by assumption)]) (by k_asm) (by k_asm)
  · exact endI hret (by rw [if_neg (by omega)]) (by k_asm) (by k_asm)
theorem c_shift (w : World) (news : Led) (r : Addr) (s₀ man exp bc n : Int) (t₁ t₂ t₃ t₄ tn : Tok) (hr : (r, T4 (.int s₀ t₁) (.int man t₂) (.int exp t₃) (.int bc t₄)) ∈ news) (hm : man ≠ 0) :
    Con w 191 1 news [.ref r, .int n tn] (RetT news s₀ man (exp + n) bc) := by
  unfold Con; k_fill
  intro loose mean mg mb dp un gd cn cs a ccd cl outer A₀ base h₀ L m s Q E B F X N T hk hdp hu hret; walk_at "bg enter"
  walk_at "bg walk"
  all_goals walk_at "bg ends"
theorem c_neg (w : World) (news : Led) (r : Addr) (s₀ man exp bc : Int) (t₁ t₂ t₃ t₄ : Tok) (hr : (r, T4 (.int s₀ t₁) (.int man t₂) (.int exp t₃) (.int bc t₄)) ∈ news) (hm : man ≠ 0) :
    Con w 153 1 news [.ref r] (RetT news (1 - s₀) man exp bc) := by
  unfold Con; k_fill
  intro loose mean mg mb dp un gd cn cs a ccd cl outer A₀ base h₀ L m s Q E B F X N T hk hdp hu hret; walk_at "bg enter"
  walk_at "bg walk"
  all_goals first | (walk_at "bg ends") | trace_state
theorem c_abs (w : World) (news : Led) (r : Addr) (s₀ man exp bc : Int) (t₁ t₂ t₃ t₄ : Tok) (hr : (r, T4 (.int s₀ t₁) (.int man t₂) (.int exp t₃) (.int bc t₄)) ∈ news) (hm : man ≠ 0) (hs : s₀ ≠ 0) :
    Con w 161 1 news [.ref r] (RetT news 0 man exp bc) := by
  unfold Con; k_fill
  intro loose mean mg mb dp un gd cn cs a ccd cl outer A₀ base h₀ L m s Q E B F X N T hk hdp hu hret; walk_at "bg enter"
  walk_at "bg walk"
  all_goals first | (walk_at "bg ends") | trace_state
theorem c_abs0 (w : World) (news : Led) (r : Addr) (s₀ man exp bc : Int) (t₁ t₂ t₃ t₄ : Tok) (hr : (r, T4 (.int s₀ t₁) (.int man t₂) (.int exp t₃) (.int bc t₄)) ∈ news) (hm : man ≠ 0) (hs : s₀ = 0) :
    Con w 161 1 news [.ref r] (RetV news (.ref r)) := by
  unfold Con; k_fill
  intro loose mean mg mb dp un gd cn cs a ccd cl outer A₀ base h₀ L m s Q E B F X N T hk hdp hu hret; walk_at "bg enter"
  walk_at "bg walk"
  all_goals first | (walk_at "bg ends") | trace_state
theorem c_absz (w : World) (news : Led) :
    Con w 161 1 news [.ref 85] (RetV news (.ref 85)) := by
  unfold Con; k_fill
  intro loose mean mg mb dp un gd cn cs a ccd cl outer A₀ base h₀ L m s Q E B F X N T hk hdp hu hret; walk_at "bg enter"
  walk_at "bg walk"
  all_goals first | (walk_at "bg ends") | trace_state
theorem c_to_fixed (w : World) (news : Led) (r : Addr) (s₀ man exp bc n : Int) (t₁ t₂ t₃ t₄ tn : Tok) (hr : (r, T4 (.int s₀ t₁) (.int man t₂) (.int exp t₃) (.int bc t₄)) ∈ news) (hs : s₀ = 0) (hz : (Builtin.Int.intBits man : Int) + (exp + n) ≤ 2 ^ 27) :
    Con w 131 1 news [.ref r, .int n tn] (RetI news (if exp + n ≥ 0 then man * 2 ^ (exp + n).toNat else man.fdiv (2 ^ (-(exp + n)).toNat))) := by
  unfold Con; k_fill
  intro loose mean mg mb dp un gd cn cs a ccd cl outer A₀ base h₀ L m s Q E B F X N T hk hdp hu hret; walk_at "bg enter"
  walk_at "bg walk"
  all_goals first | (walk_at "bg ends") | exact endI hret (by rw [if_pos (by assumption)]) (by k_asm) (by k_asm) | exact endI hret (by rw [if_neg (by omega)]) (by k_asm) (by k_asm) | trace_state
end
local macro_rules | `(tactic| walk_at "bg none") => `(tactic| skip)
section
set_option maxRecDepth 100000
set_option maxHeartbeats 8000000
theorem c_isqrt_small (w : World) (news : Led) (x y : Int) (tx : Tok) (h0 : 0 < x) (hb : (Builtin.Int.intBits x : Int) ≤ 10000) (hy : 0 ≤ y) (hl : y * y ≤ x) (hh : x < (y + 1) * (y + 1)) :
    Con w 50 1 news [.int x tx] (RetI news y) := by
  unfold Con; k_fill
  intro loose mean mg mb dp un gd cn cs a ccd cl outer A₀ base h₀ L m s Q E B F X N T hk hdp hu hret; walk_at "bg enter"
  have f2 : (2:Int) ^ (1:Int).toNat = 2 := rfl
  have f3 : Builtin.Int.intBits 1 = 1 := rfl
  have f4 : 0 ≤ ((Builtin.Int.intBits x : Int) + 1).fdiv (2 ^ (1 : Int).toNat) := by rw [f2, fdiv_pos_eq (by decide)]; omega
  have f5 : ((Builtin.Int.intBits 1 : Nat) : Int) + ((Builtin.Int.intBits x : Int) + 1).fdiv (2 ^ (1 : Int).toNat) ≤ 2 ^ 27 := by rw [f2, f3, fdiv_pos_eq (by decide)]; omega
  have hst := isq_start h0 hy hl
  have hp : (0:Int) < 2 ^ (((Builtin.Int.intBits x : Int) + 1).fdiv 2).toNat := Int.pow_pos (by decide)
  have hy1 : 1 ≤ y := by
    refine Int.not_lt.mp fun h => ?_
    have : y = 0 := by omega
    subst this
    omega
  walk_at "bg walk"
  · refine' While_inv2 (fun n m₁ news₁ => news₁ = news ∧ ∃ r t, m₁ "x" = some (.int x tx) ∧ m₁ "r" = some (.int r t) ∧ y ≤ r ∧ r ≤ 2 ^ (((Builtin.Int.intBits x : Int) + 1).fdiv 2).toNat ∧ r.toNat = n) ?F ?N ?hJ ?turn ?hE
    case F => k_asm
    case N => k_asm
    case hJ => exact ⟨rfl, _, _, rfl, rfl, by rw [f2, Int.one_mul]; exact hst, by rw [f2, Int.one_mul]; exact Int.le_refl _, rfl⟩
    case hE => first | passes_own | with_unfolding_all passes_own
    case turn =>
      rintro n m₁ news₁ h₁ tk₁ F₁ N₁ ⟨rfl, r, t, e1, e2, hr, hr2, hn⟩
      have hr0 : r ≠ 0 := by omega
      have hpy : Builtin.divisionGoesByPylong x r = false := by
        refine noPy (k := (((Builtin.Int.intBits x : Int) + 1).fdiv 2).toNat) ?_ ?_
        · have : ((2 ^ (((Builtin.Int.intBits x : Int) + 1).fdiv 2).toNat : Nat) : Int) = (2:Int) ^ (((Builtin.Int.intBits x : Int) + 1).fdiv 2).toNat := by push_cast; rfl
          omega
        · rw [fdiv_pos_eq (by decide)]; omega
      have g1 := @isq_low x r y (by omega) hl
      have g2 := @isq_stop x r y (by omega) hy hh
      replace F₁ := bgfix F₁ [("x", .int x tx), ("r", .int r t)] (by simp [e1, e2])
      walk_at "bg walk"
      · dsimp only
        walk_at "bg walk"
        dsimp only [WhileStep2]
        walk_at "bg walk"
        rename (r ≤ _) => hb1
        rw [f2] at hb1
        exact endI hret (by have := g2 hb1; omega) (by k_asm) (by k_asm)
      · rename (¬ r ≤ _) => hb1
        refine ⟨_, _, _, _, (r + x.fdiv r).fdiv (2 ^ (1:Int).toNat) |>.toNat, rfl, by k_asm, by k_asm, ?_, rfl, _, _, rfl, rfl, ?_⟩
        all_goals rw [f2] at *
        · omega
        · exact ⟨g1, by omega, rfl⟩
local macro_rules | `(tactic| walk_at "call ref") => `(tactic| (k_here; (with_reducible show wpAny _ _ (call (Value.ref 50) _) _ _ _); k_dflt (refine' Con.use (c_isqrt_small _ _ _ _ _ ?p0 ?p1 ?p2 ?p3 ?p4) ?k1 ?k2 ?k3 ?k4 ?k5 ?k6 ?k7 ?k8 ?_; (case k1 => k_asm); (case k2 => k_asm); (case k3 => k_asm); (case k4 => k_asm); (case k5 => k_asm); (case k6 => first | exact rfl | assumption); (case k7 => first | exact bg_room (by assumption) (by decide) | ktr_room); (case k8 => first | exact bg_units (by assumption) (by decide) | ktr_units); (case p0 => first | with_reducible assumption | with_reducible exact rfl | k_mem | walk_at "bg side"); (case p1 => first | with_reducible assumption | with_reducible exact rfl | k_mem | walk_at "bg side"); (case p2 => first | with_reducible assumption | with_reducible exact rfl | k_mem | walk_at "bg side"); (case p3 => first | with_reducible assumption | with_reducible exact rfl | k_mem | walk_at "bg side"); (case p4 => first | with_reducible assumption | with_reducible exact rfl | k_mem | walk_at "bg side"); intro t' h' tk' F' N'); (try dsimp only); (try k_fold); (try k_sweep)))
theorem c_sqrtrem (w : World) (news : Led) (x y : Int) (tx : Tok) (h0 : 0 < x) (hb : (Builtin.Int.intBits x : Int) ≤ 10000) (hy : 0 ≤ y) (hl : y * y ≤ x) (hh : x < (y + 1) * (y + 1)) :
    Con w 57 2 news [.int x tx] (RetP news y (x - y * y)) := by
  unfold Con; k_fill
  intro loose mean mg mb dp un gd cn cs a ccd cl outer A₀ base h₀ L m s Q E B F X N T hk hdp hu hret; walk_at "bg enter"
  have hm : IntMulOk y y := mulOk_of_bits (bits_le_of hy (sq_le_self hy hl)) (bits_le_of hy (sq_le_self hy hl)) (by omega)
  walk_at "bg walk"
  all_goals first | (walk_at "bg ends") | trace_state
local macro_rules | `(tactic| walk_at "call ref") => `(tactic| (k_here; (with_reducible show wpAny _ _ (call (Value.ref 57) _) _ _ _); k_dflt (refine' Con.use (c_sqrtrem _ _ _ _ _ ?p0 ?p1 ?p2 ?p3 ?p4) ?k1 ?k2 ?k3 ?k4 ?k5 ?k6 ?k7 ?k8 ?_; (case k1 => k_asm); (case k2 => k_asm); (case k3 => k_asm); (case k4 => k_asm); (case k5 => k_asm); (case k6 => first | exact rfl | assumption); (case k7 => first | exact bg_room (by assumption) (by decide) | ktr_room); (case k8 => first | exact bg_units (by assumption) (by decide) | ktr_units); (case p0 => first | with_reducible assumption | with_reducible exact rfl | k_mem | walk_at "bg side"); (case p1 => first | with_reducible assumption | with_reducible exact rfl | k_mem | walk_at "bg side"); (case p2 => first | with_reducible assumption | with_reducible exact rfl | k_mem | walk_at "bg side"); (case p3 => first | with_reducible assumption | with_reducible exact rfl | k_mem | walk_at "bg side"); (case p4 => first | with_reducible assumption | with_reducible exact rfl | k_mem | walk_at "bg side"); intro r' t1' t2' h' tk' F' N' l1; (try k_lt l1); (try dsimp only [T2] at N')); (try dsimp only); (try k_fold); (try k_sweep)))
theorem c_isqrt (w : World) (news : Led) (x y : Int) (tx : Tok) (h0 : 0 < x) (hb : (Builtin.Int.intBits x : Int) ≤ 10000) (hy : 0 ≤ y) (hl : y * y ≤ x) (hh : x < (y + 1) * (y + 1)) :
    Con w 64 3 news [.int x tx] (RetI news y) := by
  unfold Con; k_fill
  intro loose mean mg mb dp un gd cn cs a ccd cl outer A₀ base h₀ L m s Q E B F X N T hk hdp hu hret; walk_at "bg enter"
  walk_at "bg walk"
  all_goals first | (walk_at "bg ends") | trace_state
local macro_rules | `(tactic| walk_at "call ref") => `(tactic| (k_here; (with_reducible show wpAny _ _ (call (Value.ref 64) _) _ _ _); k_dflt (refine' Con.use (c_isqrt _ _ _ _ _ ?p0 ?p1 ?p2 ?p3 ?p4) ?k1 ?k2 ?k3 ?k4 ?k5 ?k6 ?k7 ?k8 ?_; (case k1 => k_asm); (case k2 => k_asm); (case k3 => k_asm); (case k4 => k_asm); (case k5 => k_asm); (case k6 => first | exact rfl | assumption); (case k7 => first | exact bg_room (by assumption) (by decide) | ktr_room); (case k8 => first | exact bg_units (by assumption) (by decide) | ktr_units); (case p0 => first | with_reducible assumption | with_reducible exact rfl | k_mem | walk_at "bg side"); (case p1 => first | with_reducible assumption | with_reducible exact rfl | k_mem | walk_at "bg side"); (case p2 => first | with_reducible assumption | with_reducible exact rfl | k_mem | walk_at "bg side"); (case p3 => first | with_reducible assumption | with_reducible exact rfl | k_mem | walk_at "bg side"); (case p4 => first | with_reducible assumption | with_reducible exact rfl | k_mem | walk_at "bg side"); intro t' h' tk' F' N'); (try dsimp only); (try k_fold); (try k_sweep)))
theorem c_sqrt_fixed (w : World) (news : Led) (x n y : Int) (tx tn : Tok) (h0 : 0 < x) (hn : 0 ≤ n) (hb : (Builtin.Int.intBits x : Int) + n ≤ 10000) (hy : 0 ≤ y) (hl : y * y ≤ x * 2 ^ n.toNat) (hh : x * 2 ^ n.toNat < (y + 1) * (y + 1)) :
    Con w 71 4 news [.int x tx, .int n tn] (RetI news y) := by
  unfold Con; k_fill
  intro loose mean mg mb dp un gd cn cs a ccd cl outer A₀ base h₀ L m s Q E B F X N T hk hdp hu hret; walk_at "bg enter"
  have f0 : 0 < x * 2 ^ n.toNat := Int.mul_pos h0 (Int.pow_pos (by decide))
  have f1 : ((Builtin.Int.intBits (x * 2 ^ n.toNat)) : Int) ≤ 10000 := by have := bits_shl x n.toNat; omega
  have f2 : (Builtin.Int.intBits x : Int) + n ≤ 2 ^ 27 := by omega
  walk_at "bg walk"
  all_goals first | (walk_at "bg ends") | trace_state
local macro_rules | `(tactic| walk_at "call ref") => `(tactic| (k_here; (with_reducible show wpAny _ _ (call (Value.ref 71) _) _ _ _); k_dflt (refine' Con.use (c_sqrt_fixed _ _ _ _ _ _ _ ?p0 ?p1 ?p2 ?p3 ?p4 ?p5) ?k1 ?k2 ?k3 ?k4 ?k5 ?k6 ?k7 ?k8 ?_; (case k1 => k_asm); (case k2 => k_asm); (case k3 => k_asm); (case k4 => k_asm); (case k5 => k_asm); (case k6 => first | exact rfl | assumption); (case k7 => first | exact bg_room (by assumption) (by decide) | ktr_room); (case k8 => first | exact bg_units (by assumption) (by decide) | ktr_units); (case p0 => first | with_reducible assumption | with_reducible exact rfl | k_mem | walk_at "bg side"); (case p1 => first | with_reducible assumption | with_reducible exact rfl | k_mem | walk_at "bg side"); (case p2 => first | with_reducible assumption | with_reducible exact rfl | k_mem | walk_at "bg side"); (case p3 => first | with_reducible assumption | with_reducible exact rfl | k_mem | walk_at "bg side"); (case p4 => first | with_reducible assumption | with_reducible exact rfl | k_mem | walk_at "bg side"); (case p5 => first | with_reducible assumption | with_reducible exact rfl | k_mem | walk_at "bg side"); intro t' h' tk' F' N'); (try dsimp only); (try k_fold); (try k_sweep)))
end
local macro_rules | `(tactic| walk_at "bg none") => `(tactic| skip)
local macro_rules | `(tactic| walk_at "bg none") => `(tactic| skip)
local macro_rules | `(tactic| walk_at "bg none") => `(tactic| skip)
local macro_rules | `(tactic| walk_at "bg none") => `(tactic| skip)
local macro_rules | `(tactic| walk_at "bg none") => `(tactic| skip)
section
set_option maxRecDepth 100000
set_option maxHeartbeats 2000000
theorem c_trailing (w : World) (news : Led) (n : Int) (tn : Tok) (h : 0 < n) :
    Con w 43 1 news [.int n tn] (RetI news (tz n)) := by
  unfold Con; k_fill
  intro loose mean mg mb dp un gd cn cs a ccd cl outer A₀ base h₀ L m s Q E B F X N T hk hdp hu hret; walk_at "bg enter"
  have e := trail_eq h
  walk_at "bg walk"
  all_goals first | (walk_at "bg ends") | exact endI hret e (by k_asm) (by walk_at "bg led") | trace_state
local macro_rules | `(tactic| walk_at "call ref") => `(tactic| (k_here; (with_reducible show wpAny _ _ (call (Value.ref 43) _) _ _ _); k_dflt (refine' Con.use (c_trailing _ _ _ _ ?p0) ?k1 ?k2 ?k3 ?k4 ?k5 ?k6 ?k7 ?k8 ?_; (case k1 => k_asm); (case k2 => k_asm); (case k3 => k_asm); (case k4 => k_asm); (case k5 => k_asm); (case k6 => first | exact rfl | assumption); (case k7 => first | exact bg_room (by assumption) (by decide) | ktr_room); (case k8 => first | exact bg_units (by assumption) (by decide) | ktr_units); (case p0 => first | with_reducible assumption | with_reducible exact rfl | k_mem | walk_at "bg side"); intro t' h' tk' F' N'); (try dsimp only); (try k_fold); (try k_sweep)))
theorem c_norm_A (w : World) (news : Led) (s₀ man exp prec : Int) (t₁ t₂ t₃ t₄ t₅ t₆ : Tok) (rnd : Str) (h : 0 < man) (hp : 0 < prec) (hn : (Builtin.Int.intBits man : Int) ≤ prec) :
    Con w 101 2 news [.int s₀ t₁, .int man t₂, .int exp t₃, .int (Builtin.Int.intBits man) t₄, .int prec t₅, .str rnd t₆] (RetT news s₀ (nM man prec) (exp + nE man prec) (nB man prec)) := by
  unfold Con; k_fill
  intro loose mean mg mb dp un gd cn cs a ccd cl outer A₀ base h₀ L m s Q E B F X N T hk hdp hu hret; walk_at "bg enter"
  have hR : nR man prec = man := if_neg (by show ¬ ((Builtin.Int.intBits man : Int) - prec > 0); omega)
  have hE := h
  have hBB : od man ≠ 1 → (Builtin.Int.intBits man : Int) - tz man = bl (od man) := by intro _; have : Builtin.Int.intBits man = bl (od man) + tz man := bl_od h; omega
  have hE0 : 0 < man := hE
  have hq : (man).fdiv (2 ^ ((tz (man) : Nat) : Int).toNat) = nM man prec := by rw [Int.toNat_natCast, fdiv_pow]; unfold nM; rw [hR]; rfl
  have hqo : (man) % 2 = 1 → (man) = nM man prec := by intro q; unfold nM; rw [hR]; exact (odd_od hE0 q).1.symm
  have hto : (man) % 2 = 1 → tz (man) = 0 := fun q => (odd_od hE0 q).2
  have he : nE man prec = 0 + tz (man) := by unfold nE; rw [hR]; rw [if_neg (show ¬ (Builtin.Int.intBits man : Int) - prec > 0 by omega)]
  have hB1 : nM man prec = 1 → nB man prec = 1 := by intro q; unfold nB; rw [q]; rfl
  have hB2 : nM man prec ≠ 1 → nB man prec = (Builtin.Int.intBits man : Int) - tz (man) := by
    intro q; unfold nB nM at *; rw [hR] at *; exact (hBB q).symm
  replace hB2 := PySem.Flt.Hid.mk hB2
  have b1 := band_one (x := man) (by omega)
  rcases Classical.em (Builtin.bitAnd (man) 1 = 0) with ho | ho
  · have ho' : (man) % 2 = 0 := by omega
    clear b1 hqo hto
    replace ho := PySem.Flt.Hid.mk ho
    walk_at "bg walk"
    all_goals replace hB2 := hB2.out
    all_goals first | exact endT hret (by k_asm) (by k_asm) (by assumption) ⟨rfl, by omega, by omega, by omega⟩ | (walk_at "bg ends") | trace_state
  · have ho' : (man) % 2 = 1 := by omega
    replace hqo := hqo ho'
    replace hto := hto ho'
    clear b1 hq
    replace ho := PySem.Flt.Hid.mk ho
    walk_at "bg walk"
    all_goals replace hB2 := hB2.out
    all_goals first | exact endT hret (by k_asm) (by k_asm) (by assumption) ⟨rfl, by omega, by omega, by omega⟩ | (walk_at "bg ends") | trace_state
theorem c_norm_U1 (w : World) (news : Led) (s₀ man exp prec : Int) (t₁ t₂ t₃ t₄ t₅ t₆ : Tok) (h : 0 < man) (hp : 0 < prec) (hn : (Builtin.Int.intBits man : Int) > prec) (hz : (Builtin.Int.intBits man : Int) ≤ 100000) (g1 : Builtin.bitAnd (man.fdiv (2 ^ ((Builtin.Int.intBits man : Int) - prec - 1).toNat)) 1 ≠ 0) (g2 : Builtin.bitAnd (man.fdiv (2 ^ ((Builtin.Int.intBits man : Int) - prec - 1).toNat)) 2 ≠ 0) :
    Con w 101 2 news [.int s₀ t₁, .int man t₂, .int exp t₃, .int (Builtin.Int.intBits man) t₄, .int prec t₅, .str "n" t₆] (RetT news s₀ (nM man prec) (exp + nE man prec) (nB man prec)) := by
  have hrn : rn man ((Builtin.Int.intBits man : Int) - prec) = (man.fdiv (2 ^ ((Builtin.Int.intBits man : Int) - prec - 1).toNat)).fdiv (2 ^ (1 : Int).toNat) + 1 := if_pos ⟨g1, Or.inl g2⟩
  replace g1 := PySem.Flt.Hid.mk g1
  replace g2 := PySem.Flt.Hid.mk g2
  unfold Con; k_fill
  intro loose mean mg mb dp un gd cn cs a ccd cl outer A₀ base h₀ L m s Q E B F X N T hk hdp hu hret; walk_at "bg enter"
  have hR : nR man prec = (man.fdiv (2 ^ ((Builtin.Int.intBits man : Int) - prec - 1).toNat)).fdiv (2 ^ (1 : Int).toNat) + 1 := (if_pos (by show (Builtin.Int.intBits man : Int) - prec > 0; omega)).trans hrn
  obtain ⟨hlo, hhi⟩ := rn_bounds h hp (by show 0 < (Builtin.Int.intBits man : Int) - prec; omega)
  obtain ⟨hE, hBo, hBB⟩ := nB_fix hp hlo hhi
  have hrn' : rn man (↑(bl man) - prec) = (man.fdiv (2 ^ ((Builtin.Int.intBits man : Int) - prec - 1).toNat)).fdiv (2 ^ (1 : Int).toNat) + 1 := hrn
  rw [hrn'] at hE hBo hBB
  clear hlo hhi hrn'
  have f3 : Builtin.Int.intBits 1 = 1 := rfl
  have hE0 : 0 < (man.fdiv (2 ^ ((Builtin.Int.intBits man : Int) - prec - 1).toNat)).fdiv (2 ^ (1 : Int).toNat) + 1 := hE
  have hq : ((man.fdiv (2 ^ ((Builtin.Int.intBits man : Int) - prec - 1).toNat)).fdiv (2 ^ (1 : Int).toNat) + 1).fdiv (2 ^ ((tz ((man.fdiv (2 ^ ((Builtin.Int.intBits man : Int) - prec - 1).toNat)).fdiv (2 ^ (1 : Int).toNat) + 1) : Nat) : Int).toNat) = nM man prec := by rw [Int.toNat_natCast, fdiv_pow]; unfold nM; rw [hR]; rfl
  have hqo : ((man.fdiv (2 ^ ((Builtin.Int.intBits man : Int) - prec - 1).toNat)).fdiv (2 ^ (1 : Int).toNat) + 1) % 2 = 1 → ((man.fdiv (2 ^ ((Builtin.Int.intBits man : Int) - prec - 1).toNat)).fdiv (2 ^ (1 : Int).toNat) + 1) = nM man prec := by intro q; unfold nM; rw [hR]; exact (odd_od hE0 q).1.symm
  have hto : ((man.fdiv (2 ^ ((Builtin.Int.intBits man : Int) - prec - 1).toNat)).fdiv (2 ^ (1 : Int).toNat) + 1) % 2 = 1 → tz ((man.fdiv (2 ^ ((Builtin.Int.intBits man : Int) - prec - 1).toNat)).fdiv (2 ^ (1 : Int).toNat) + 1) = 0 := fun q => (odd_od hE0 q).2
  have he : nE man prec = ((Builtin.Int.intBits man : Int) - prec) + tz ((man.fdiv (2 ^ ((Builtin.Int.intBits man : Int) - prec - 1).toNat)).fdiv (2 ^ (1 : Int).toNat) + 1) := by unfold nE; rw [hR]; rw [if_pos (show (Builtin.Int.intBits man : Int) - prec > 0 by omega)]
  have hB1 : nM man prec = 1 → nB man prec = 1 := by intro q; unfold nB; rw [q]; rfl
  have hB2 : nM man prec ≠ 1 → nB man prec = prec - tz ((man.fdiv (2 ^ ((Builtin.Int.intBits man : Int) - prec - 1).toNat)).fdiv (2 ^ (1 : Int).toNat) + 1) := by
    intro q; unfold nB nM at *; rw [hR] at *; exact (hBB q).symm
  replace hB2 := PySem.Flt.Hid.mk hB2
  have b1 := band_one (x := (man.fdiv (2 ^ ((Builtin.Int.intBits man : Int) - prec - 1).toNat)).fdiv (2 ^ (1 : Int).toNat) + 1) (by omega)
  rcases Classical.em (Builtin.bitAnd ((man.fdiv (2 ^ ((Builtin.Int.intBits man : Int) - prec - 1).toNat)).fdiv (2 ^ (1 : Int).toNat) + 1) 1 = 0) with ho | ho
  · have ho' : ((man.fdiv (2 ^ ((Builtin.Int.intBits man : Int) - prec - 1).toNat)).fdiv (2 ^ (1 : Int).toNat) + 1) % 2 = 0 := by omega
    clear b1 hqo hto
    replace ho := PySem.Flt.Hid.mk ho
    walk_at "bg walk"
    all_goals replace hB2 := hB2.out
    all_goals first | exact endT hret (by k_asm) (by k_asm) (by assumption) ⟨rfl, by omega, by omega, by omega⟩ | (walk_at "bg ends") | trace_state
  · have ho' : ((man.fdiv (2 ^ ((Builtin.Int.intBits man : Int) - prec - 1).toNat)).fdiv (2 ^ (1 : Int).toNat) + 1) % 2 = 1 := by omega
    replace hqo := hqo ho'
    replace hto := hto ho'
    clear b1 hq
    replace ho := PySem.Flt.Hid.mk ho
    walk_at "bg walk"
    all_goals replace hB2 := hB2.out
    all_goals first | exact endT hret (by k_asm) (by k_asm) (by assumption) ⟨rfl, by omega, by omega, by omega⟩ | (walk_at "bg ends") | trace_state
theorem c_norm_U2 (w : World) (news : Led) (s₀ man exp prec : Int) (t₁ t₂ t₃ t₄ t₅ t₆ : Tok) (h : 0 < man) (hp : 0 < prec) (hn : (Builtin.Int.intBits man : Int) > prec) (hz : (Builtin.Int.intBits man : Int) ≤ 100000) (g1 : Builtin.bitAnd (man.fdiv (2 ^ ((Builtin.Int.intBits man : Int) - prec - 1).toNat)) 1 ≠ 0) (g2 : Builtin.bitAnd (man.fdiv (2 ^ ((Builtin.Int.intBits man : Int) - prec - 1).toNat)) 2 = 0) (g3 : Builtin.bitAnd man (1 * 2 ^ ((Builtin.Int.intBits man : Int) - prec - 1).toNat - 1) ≠ 0) :
    Con w 101 2 news [.int s₀ t₁, .int man t₂, .int exp t₃, .int (Builtin.Int.intBits man) t₄, .int prec t₅, .str "n" t₆] (RetT news s₀ (nM man prec) (exp + nE man prec) (nB man prec)) := by
  have hrn : rn man ((Builtin.Int.intBits man : Int) - prec) = (man.fdiv (2 ^ ((Builtin.Int.intBits man : Int) - prec - 1).toNat)).fdiv (2 ^ (1 : Int).toNat) + 1 := if_pos ⟨g1, Or.inr g3⟩
  replace g1 := PySem.Flt.Hid.mk g1
  replace g2 := PySem.Flt.Hid.mk g2
  replace g3 := PySem.Flt.Hid.mk g3
  unfold Con; k_fill
  intro loose mean mg mb dp un gd cn cs a ccd cl outer A₀ base h₀ L m s Q E B F X N T hk hdp hu hret; walk_at "bg enter"
  have hR : nR man prec = (man.fdiv (2 ^ ((Builtin.Int.intBits man : Int) - prec - 1).toNat)).fdiv (2 ^ (1 : Int).toNat) + 1 := (if_pos (by show (Builtin.Int.intBits man : Int) - prec > 0; omega)).trans hrn
  obtain ⟨hlo, hhi⟩ := rn_bounds h hp (by show 0 < (Builtin.Int.intBits man : Int) - prec; omega)
  obtain ⟨hE, hBo, hBB⟩ := nB_fix hp hlo hhi
  have hrn' : rn man (↑(bl man) - prec) = (man.fdiv (2 ^ ((Builtin.Int.intBits man : Int) - prec - 1).toNat)).fdiv (2 ^ (1 : Int).toNat) + 1 := hrn
  rw [hrn'] at hE hBo hBB
  clear hlo hhi hrn'
  have f3 : Builtin.Int.intBits 1 = 1 := rfl
  have hE0 : 0 < (man.fdiv (2 ^ ((Builtin.Int.intBits man : Int) - prec - 1).toNat)).fdiv (2 ^ (1 : Int).toNat) + 1 := hE
  have hq : ((man.fdiv (2 ^ ((Builtin.Int.intBits man : Int) - prec - 1).toNat)).fdiv (2 ^ (1 : Int).toNat) + 1).fdiv (2 ^ ((tz ((man.fdiv (2 ^ ((Builtin.Int.intBits man : Int) - prec - 1).toNat)).fdiv (2 ^ (1 : Int).toNat) + 1) : Nat) : Int).toNat) = nM man prec := by rw [Int.toNat_natCast, fdiv_pow]; unfold nM; rw [hR]; rfl
  have hqo : ((man.fdiv (2 ^ ((Builtin.Int.intBits man : Int) - prec - 1).toNat)).fdiv (2 ^ (1 : Int).toNat) + 1) % 2 = 1 → ((man.fdiv (2 ^ ((Builtin.Int.intBits man : Int) - prec - 1).toNat)).fdiv (2 ^ (1 : Int).toNat) + 1) = nM man prec := by intro q; unfold nM; rw [hR]; exact (odd_od hE0 q).1.symm
  have hto : ((man.fdiv (2 ^ ((Builtin.Int.intBits man : Int) - prec - 1).toNat)).fdiv (2 ^ (1 : Int).toNat) + 1) % 2 = 1 → tz ((man.fdiv (2 ^ ((Builtin.Int.intBits man : Int) - prec - 1).toNat)).fdiv (2 ^ (1 : Int).toNat) + 1) = 0 := fun q => (odd_od hE0 q).2
  have he : nE man prec = ((Builtin.Int.intBits man : Int) - prec) + tz ((man.fdiv (2 ^ ((Builtin.Int.intBits man : Int) - prec - 1).toNat)).fdiv (2 ^ (1 : Int).toNat) + 1) := by unfold nE; rw [hR]; rw [if_pos (show (Builtin.Int.intBits man : Int) - prec > 0 by omega)]
  have hB1 : nM man prec = 1 → nB man prec = 1 := by intro q; unfold nB; rw [q]; rfl
  have hB2 : nM man prec ≠ 1 → nB man prec = prec - tz ((man.fdiv (2 ^ ((Builtin.Int.intBits man : Int) - prec - 1).toNat)).fdiv (2 ^ (1 : Int).toNat) + 1) := by
    intro q; unfold nB nM at *; rw [hR] at *; exact (hBB q).symm
  replace hB2 := PySem.Flt.Hid.mk hB2
  have b1 := band_one (x := (man.fdiv (2 ^ ((Builtin.Int.intBits man : Int) - prec - 1).toNat)).fdiv (2 ^ (1 : Int).toNat) + 1) (by omega)
  rcases Classical.em (Builtin.bitAnd ((man.fdiv (2 ^ ((Builtin.Int.intBits man : Int) - prec - 1).toNat)).fdiv (2 ^ (1 : Int).toNat) + 1) 1 = 0) with ho | ho
  · have ho' : ((man.fdiv (2 ^ ((Builtin.Int.intBits man : Int) - prec - 1).toNat)).fdiv (2 ^ (1 : Int).toNat) + 1) % 2 = 0 := by omega
    clear b1 hqo hto
    replace ho := PySem.Flt.Hid.mk ho
    walk_at "bg walk"
    all_goals replace hB2 := hB2.out
    all_goals first | exact endT hret (by k_asm) (by k_asm) (by assumption) ⟨rfl, by omega, by omega, by omega⟩ | (walk_at "bg ends") | trace_state
  · have ho' : ((man.fdiv (2 ^ ((Builtin.Int.intBits man : Int) - prec - 1).toNat)).fdiv (2 ^ (1 : Int).toNat) + 1) % 2 = 1 := by omega
    replace hqo := hqo ho'
    replace hto := hto ho'
    clear b1 hq
    replace ho := PySem.Flt.Hid.mk ho
    walk_at "bg walk"
    all_goals replace hB2 := hB2.out
    all_goals first | exact endT hret (by k_asm) (by k_asm) (by assumption) ⟨rfl, by omega, by omega, by omega⟩ | (walk_at "bg ends") | trace_state
theorem c_norm_D1 (w : World) (news : Led) (s₀ man exp prec : Int) (t₁ t₂ t₃ t₄ t₅ t₆ : Tok) (h : 0 < man) (hp : 0 < prec) (hn : (Builtin.Int.intBits man : Int) > prec) (hz : (Builtin.Int.intBits man : Int) ≤ 100000) (g1 : Builtin.bitAnd (man.fdiv (2 ^ ((Builtin.Int.intBits man : Int) - prec - 1).toNat)) 1 = 0) :
    Con w 101 2 news [.int s₀ t₁, .int man t₂, .int exp t₃, .int (Builtin.Int.intBits man) t₄, .int prec t₅, .str "n" t₆] (RetT news s₀ (nM man prec) (exp + nE man prec) (nB man prec)) := by
  have hrn : rn man ((Builtin.Int.intBits man : Int) - prec) = (man.fdiv (2 ^ ((Builtin.Int.intBits man : Int) - prec - 1).toNat)).fdiv (2 ^ (1 : Int).toNat) := if_neg (fun q => q.1 g1)
  replace g1 := PySem.Flt.Hid.mk g1
  unfold Con; k_fill
  intro loose mean mg mb dp un gd cn cs a ccd cl outer A₀ base h₀ L m s Q E B F X N T hk hdp hu hret; walk_at "bg enter"
  have hR : nR man prec = (man.fdiv (2 ^ ((Builtin.Int.intBits man : Int) - prec - 1).toNat)).fdiv (2 ^ (1 : Int).toNat) := (if_pos (by show (Builtin.Int.intBits man : Int) - prec > 0; omega)).trans hrn
  obtain ⟨hlo, hhi⟩ := rn_bounds h hp (by show 0 < (Builtin.Int.intBits man : Int) - prec; omega)
  obtain ⟨hE, hBo, hBB⟩ := nB_fix hp hlo hhi
  have hrn' : rn man (↑(bl man) - prec) = (man.fdiv (2 ^ ((Builtin.Int.intBits man : Int) - prec - 1).toNat)).fdiv (2 ^ (1 : Int).toNat) := hrn
  rw [hrn'] at hE hBo hBB
  clear hlo hhi hrn'
  have f3 : Builtin.Int.intBits 1 = 1 := rfl
  have hE0 : 0 < (man.fdiv (2 ^ ((Builtin.Int.intBits man : Int) - prec - 1).toNat)).fdiv (2 ^ (1 : Int).toNat) := hE
  have hq : ((man.fdiv (2 ^ ((Builtin.Int.intBits man : Int) - prec - 1).toNat)).fdiv (2 ^ (1 : Int).toNat)).fdiv (2 ^ ((tz ((man.fdiv (2 ^ ((Builtin.Int.intBits man : Int) - prec - 1).toNat)).fdiv (2 ^ (1 : Int).toNat)) : Nat) : Int).toNat) = nM man prec := by rw [Int.toNat_natCast, fdiv_pow]; unfold nM; rw [hR]; rfl
  have hqo : ((man.fdiv (2 ^ ((Builtin.Int.intBits man : Int) - prec - 1).toNat)).fdiv (2 ^ (1 : Int).toNat)) % 2 = 1 → ((man.fdiv (2 ^ ((Builtin.Int.intBits man : Int) - prec - 1).toNat)).fdiv (2 ^ (1 : Int).toNat)) = nM man prec := by intro q; unfold nM; rw [hR]; exact (odd_od hE0 q).1.symm
  have hto : ((man.fdiv (2 ^ ((Builtin.Int.intBits man : Int) - prec - 1).toNat)).fdiv (2 ^ (1 : Int).toNat)) % 2 = 1 → tz ((man.fdiv (2 ^ ((Builtin.Int.intBits man : Int) - prec - 1).toNat)).fdiv (2 ^ (1 : Int).toNat)) = 0 := fun q => (odd_od hE0 q).2
  have he : nE man prec = ((Builtin.Int.intBits man : Int) - prec) + tz ((man.fdiv (2 ^ ((Builtin.Int.intBits man : Int) - prec - 1).toNat)).fdiv (2 ^ (1 : Int).toNat)) := by unfold nE; rw [hR]; rw [if_pos (show (Builtin.Int.intBits man : Int) - prec > 0 by omega)]
  have hB1 : nM man prec = 1 → nB man prec = 1 := by intro q; unfold nB; rw [q]; rfl
  have hB2 : nM man prec ≠ 1 → nB man prec = prec - tz ((man.fdiv (2 ^ ((Builtin.Int.intBits man : Int) - prec - 1).toNat)).fdiv (2 ^ (1 : Int).toNat)) := by
    intro q; unfold nB nM at *; rw [hR] at *; exact (hBB q).symm
  replace hB2 := PySem.Flt.Hid.mk hB2
  have b1 := band_one (x := (man.fdiv (2 ^ ((Builtin.Int.intBits man : Int) - prec - 1).toNat)).fdiv (2 ^ (1 : Int).toNat)) (by omega)
  rcases Classical.em (Builtin.bitAnd ((man.fdiv (2 ^ ((Builtin.Int.intBits man : Int) - prec - 1).toNat)).fdiv (2 ^ (1 : Int).toNat)) 1 = 0) with ho | ho
  · have ho' : ((man.fdiv (2 ^ ((Builtin.Int.intBits man : Int) - prec - 1).toNat)).fdiv (2 ^ (1 : Int).toNat)) % 2 = 0 := by omega
    clear b1 hqo hto
    replace ho := PySem.Flt.Hid.mk ho
    walk_at "bg walk"
    all_goals replace hB2 := hB2.out
    all_goals first | exact endT hret (by k_asm) (by k_asm) (by assumption) ⟨rfl, by omega, by omega, by omega⟩ | (walk_at "bg ends") | trace_state
  · have ho' : ((man.fdiv (2 ^ ((Builtin.Int.intBits man : Int) - prec - 1).toNat)).fdiv (2 ^ (1 : Int).toNat)) % 2 = 1 := by omega
    replace hqo := hqo ho'
    replace hto := hto ho'
    clear b1 hq
    replace ho := PySem.Flt.Hid.mk ho
    walk_at "bg walk"
    all_goals replace hB2 := hB2.out
    all_goals first | exact endT hret (by k_asm) (by k_asm) (by assumption) ⟨rfl, by omega, by omega, by omega⟩ | (walk_at "bg ends") | trace_state
theorem c_norm_D2 (w : World) (news : Led) (s₀ man exp prec : Int) (t₁ t₂ t₃ t₄ t₅ t₆ : Tok) (h : 0 < man) (hp : 0 < prec) (hn : (Builtin.Int.intBits man : Int) > prec) (hz : (Builtin.Int.intBits man : Int) ≤ 100000) (g1 : Builtin.bitAnd (man.fdiv (2 ^ ((Builtin.Int.intBits man : Int) - prec - 1).toNat)) 1 ≠ 0) (g2 : Builtin.bitAnd (man.fdiv (2 ^ ((Builtin.Int.intBits man : Int) - prec - 1).toNat)) 2 = 0) (g3 : Builtin.bitAnd man (1 * 2 ^ ((Builtin.Int.intBits man : Int) - prec - 1).toNat - 1) = 0) :
    Con w 101 2 news [.int s₀ t₁, .int man t₂, .int exp t₃, .int (Builtin.Int.intBits man) t₄, .int prec t₅, .str "n" t₆] (RetT news s₀ (nM man prec) (exp + nE man prec) (nB man prec)) := by
  have hrn : rn man ((Builtin.Int.intBits man : Int) - prec) = (man.fdiv (2 ^ ((Builtin.Int.intBits man : Int) - prec - 1).toNat)).fdiv (2 ^ (1 : Int).toNat) := if_neg (fun q => q.2.elim (fun x => x g2) (fun x => x g3))
  replace g1 := PySem.Flt.Hid.mk g1
  replace g2 := PySem.Flt.Hid.mk g2
  replace g3 := PySem.Flt.Hid.mk g3
  unfold Con; k_fill
  intro loose mean mg mb dp un gd cn cs a ccd cl outer A₀ base h₀ L m s Q E B F X N T hk hdp hu hret; walk_at "bg enter"
  have hR : nR man prec = (man.fdiv (2 ^ ((Builtin.Int.intBits man : Int) - prec - 1).toNat)).fdiv (2 ^ (1 : Int).toNat) := (if_pos (by show (Builtin.Int.intBits man : Int) - prec > 0; omega)).trans hrn
  obtain ⟨hlo, hhi⟩ := rn_bounds h hp (by show 0 < (Builtin.Int.intBits man : Int) - prec; omega)
  obtain ⟨hE, hBo, hBB⟩ := nB_fix hp hlo hhi
  have hrn' : rn man (↑(bl man) - prec) = (man.fdiv (2 ^ ((Builtin.Int.intBits man : Int) - prec - 1).toNat)).fdiv (2 ^ (1 : Int).toNat) := hrn
  rw [hrn'] at hE hBo hBB
  clear hlo hhi hrn'
  have f3 : Builtin.Int.intBits 1 = 1 := rfl
  have hE0 : 0 < (man.fdiv (2 ^ ((Builtin.Int.intBits man : Int) - prec - 1).toNat)).fdiv (2 ^ (1 : Int).toNat) := hE
  have hq : ((man.fdiv (2 ^ ((Builtin.Int.intBits man : Int) - prec - 1).toNat)).fdiv (2 ^ (1 : Int).toNat)).fdiv (2 ^ ((tz ((man.fdiv (2 ^ ((Builtin.Int.intBits man : Int) - prec - 1).toNat)).fdiv (2 ^ (1 : Int).toNat)) : Nat) : Int).toNat) = nM man prec := by rw [Int.toNat_natCast, fdiv_pow]; unfold nM; rw [hR]; rfl
  have hqo : ((man.fdiv (2 ^ ((Builtin.Int.intBits man : Int) - prec - 1).toNat)).fdiv (2 ^ (1 : Int).toNat)) % 2 = 1 → ((man.fdiv (2 ^ ((Builtin.Int.intBits man : Int) - prec - 1).toNat)).fdiv (2 ^ (1 : Int).toNat)) = nM man prec := by intro q; unfold nM; rw [hR]; exact (odd_od hE0 q).1.symm
  have hto : ((man.fdiv (2 ^ ((Builtin.Int.intBits man : Int) - prec - 1).toNat)).fdiv (2 ^ (1 : Int).toNat)) % 2 = 1 → tz ((man.fdiv (2 ^ ((Builtin.Int.intBits man : Int) - prec - 1).toNat)).fdiv (2 ^ (1 : Int).toNat)) = 0 := fun q => (odd_od hE0 q).2
  have he : nE man prec = ((Builtin.Int.intBits man : Int) - prec) + tz ((man.fdiv (2 ^ ((Builtin.Int.intBits man : Int) - prec - 1).toNat)).fdiv (2 ^ (1 : Int).toNat)) := by unfold nE; rw [hR]; rw [if_pos (show (Builtin.Int.intBits man : Int) - prec > 0 by omega)]
  have hB1 : nM man prec = 1 → nB man prec = 1 := by intro q; unfold nB; rw [q]; rfl
  have hB2 : nM man prec ≠ 1 → nB man prec = prec - tz ((man.fdiv (2 ^ ((Builtin.Int.intBits man : Int) - prec - 1).toNat)).fdiv (2 ^ (1 : Int).toNat)) := by
    intro q; unfold nB nM at *; rw [hR] at *; exact (hBB q).symm
  replace hB2 := PySem.Flt.Hid.mk hB2
  have b1 := band_one (x := (man.fdiv (2 ^ ((Builtin.Int.intBits man : Int) - prec - 1).toNat)).fdiv (2 ^ (1 : Int).toNat)) (by omega)
  rcases Classical.em (Builtin.bitAnd ((man.fdiv (2 ^ ((Builtin.Int.intBits man : Int) - prec - 1).toNat)).fdiv (2 ^ (1 : Int).toNat)) 1 = 0) with ho | ho
  · have ho' : ((man.fdiv (2 ^ ((Builtin.Int.intBits man : Int) - prec - 1).toNat)).fdiv (2 ^ (1 : Int).toNat)) % 2 = 0 := by omega
    clear b1 hqo hto
    replace ho := PySem.Flt.Hid.mk ho
    walk_at "bg walk"
    all_goals replace hB2 := hB2.out
    all_goals first | exact endT hret (by k_asm) (by k_asm) (by assumption) ⟨rfl, by omega, by omega, by omega⟩ | (walk_at "bg ends") | trace_state
  · have ho' : ((man.fdiv (2 ^ ((Builtin.Int.intBits man : Int) - prec - 1).toNat)).fdiv (2 ^ (1 : Int).toNat)) % 2 = 1 := by omega
    replace hqo := hqo ho'
    replace hto := hto ho'
    clear b1 hq
    replace ho := PySem.Flt.Hid.mk ho
    walk_at "bg walk"
    all_goals replace hB2 := hB2.out
    all_goals first | exact endT hret (by k_asm) (by k_asm) (by assumption) ⟨rfl, by omega, by omega, by omega⟩ | (walk_at "bg ends") | trace_state
end
local macro_rules | `(tactic| walk_at "bg none") => `(tactic| skip)
local macro_rules | `(tactic| walk_at "bg none") => `(tactic| skip)
section
set_option maxRecDepth 100000
set_option maxHeartbeats 2000000
theorem c_norm (w : World) (news : Led) (s₀ man exp prec : Int) (t₁ t₂ t₃ t₄ t₅ t₆ : Tok) (rnd : Str) (h : 0 < man) (hp : 0 < prec) (hz : (Builtin.Int.intBits man : Int) ≤ 100000) (hr : (Builtin.Int.intBits man : Int) ≤ prec ∨ rnd = "n") :
    Con w 101 2 news [.int s₀ t₁, .int man t₂, .int exp t₃, .int (Builtin.Int.intBits man) t₄, .int prec t₅, .str rnd t₆] (RetT news s₀ (nM man prec) (exp + nE man prec) (nB man prec)) := by
  by_cases hA : (Builtin.Int.intBits man : Int) ≤ prec
  · exact c_norm_A w news s₀ man exp prec t₁ t₂ t₃ t₄ t₅ t₆ rnd h hp hA
  · have hn : (Builtin.Int.intBits man : Int) > prec := by omega
    rcases hr with hr | hr
    · exact absurd hr hA
    · subst hr
      by_cases g1 : Builtin.bitAnd (man.fdiv (2 ^ ((Builtin.Int.intBits man : Int) - prec - 1).toNat)) 1 = 0
      · exact c_norm_D1 w news s₀ man exp prec t₁ t₂ t₃ t₄ t₅ t₆ h hp hn hz g1
      · by_cases g2 : Builtin.bitAnd (man.fdiv (2 ^ ((Builtin.Int.intBits man : Int) - prec - 1).toNat)) 2 = 0
        · by_cases g3 : Builtin.bitAnd man (1 * 2 ^ ((Builtin.Int.intBits man : Int) - prec - 1).toNat - 1) = 0
          · exact c_norm_D2 w news s₀ man exp prec t₁ t₂ t₃ t₄ t₅ t₆ h hp hn hz g1 g2 g3
          · exact c_norm_U2 w news s₀ man exp prec t₁ t₂ t₃ t₄ t₅ t₆ h hp hn hz g1 g2 g3
        · exact c_norm_U1 w news s₀ man exp prec t₁ t₂ t₃ t₄ t₅ t₆ h hp hn hz g1 g2
theorem c_norm' (w : World) (news : Led) (s₀ man exp bc prec : Int) (t₁ t₂ t₃ t₄ t₅ t₆ : Tok) (rnd : Str) (h : 0 < man) (hp : 0 < prec) (hz : (Builtin.Int.intBits man : Int) ≤ 100000) (hr : (Builtin.Int.intBits man : Int) ≤ prec ∨ rnd = "n") (hb : bc = Builtin.Int.intBits man) :
    Con w 101 2 news [.int s₀ t₁, .int man t₂, .int exp t₃, .int bc t₄, .int prec t₅, .str rnd t₆] (RetT news s₀ (nM man prec) (exp + nE man prec) (nB man prec)) := by
  subst hb; exact c_norm w news s₀ man exp prec t₁ t₂ t₃ t₄ t₅ t₆ rnd h hp hz hr
theorem c_normz (w : World) (news : Led) (s₀ man exp bc prec : Int) (t₁ t₂ t₃ t₄ t₅ t₆ : Tok) (rnd : Str) (hm : man = 0) :
    Con w 101 1 news [.int s₀ t₁, .int man t₂, .int exp t₃, .int bc t₄, .int prec t₅, .str rnd t₆] (RetV news (.ref 85)) := by
  unfold Con; k_fill
  intro loose mean mg mb dp un gd cn cs a ccd cl outer A₀ base h₀ L m s Q E B F X N T hk hdp hu hret; walk_at "bg enter"
  walk_at "bg walk"
  all_goals first | (walk_at "bg ends") | trace_state
local macro_rules | `(tactic| walk_at "call ref") => `(tactic| (k_here; (with_reducible show wpAny _ _ (call (Value.ref 101) _) _ _ _); k_dflt (refine' Con.use (c_norm' _ _ _ _ _ _ _ _ _ _ _ _ _ _ ?p0 ?p1 ?p2 ?p3 ?p4) ?k1 ?k2 ?k3 ?k4 ?k5 ?k6 ?k7 ?k8 ?_; (case k1 => k_asm); (case k2 => k_asm); (case k3 => k_asm); (case k4 => k_asm); (case k5 => k_asm); (case k6 => first | exact rfl | assumption); (case k7 => first | exact bg_room (by assumption) (by decide) | ktr_room); (case k8 => first | exact bg_units (by assumption) (by decide) | ktr_units); (case p0 => first | with_reducible assumption | with_reducible exact rfl | k_mem | walk_at "bg side"); (case p1 => first | with_reducible assumption | with_reducible exact rfl | k_mem | walk_at "bg side"); (case p2 => first | with_reducible assumption | with_reducible exact rfl | k_mem | walk_at "bg side"); (case p3 => first | with_reducible assumption | with_reducible exact rfl | k_mem | walk_at "bg side"); (case p4 => first | with_reducible assumption | with_reducible exact rfl | k_mem | walk_at "bg side"); intro r' t1' t2' t3' t4' h' tk' F' N' l1; (try k_lt l1); (try dsimp only [T4] at N')); (try dsimp only); (try k_fold); (try k_sweep)))
local macro_rules | `(tactic| walk_at "call ref") => `(tactic| (k_here; (with_reducible show wpAny _ _ (call (Value.ref 101) _) _ _ _); k_dflt (refine' Con.use (c_normz _ _ _ _ _ _ _ _ _ _ _ _ _ _ ?p0) ?k1 ?k2 ?k3 ?k4 ?k5 ?k6 ?k7 ?k8 ?_; (case k1 => k_asm); (case k2 => k_asm); (case k3 => k_asm); (case k4 => k_asm); (case k5 => k_asm); (case k6 => first | exact rfl | assumption); (case k7 => first | exact bg_room (by assumption) (by decide) | ktr_room); (case k8 => first | exact bg_units (by assumption) (by decide) | ktr_units); (case p0 => first | with_reducible assumption | with_reducible exact rfl | k_mem | walk_at "bg side"); intro h' tk' F' N'); (try dsimp only); (try k_fold); (try k_sweep)))
theorem c_normalize (w : World) (news : Led) (s₀ man exp bc prec : Int) (t₁ t₂ t₃ t₄ t₅ t₆ : Tok) (rnd : Str) (h : 0 < man) (hp : 0 < prec) (hz : (Builtin.Int.intBits man : Int) ≤ 100000) (hr : (Builtin.Int.intBits man : Int) ≤ prec ∨ rnd = "n") (hb : bc = Builtin.Int.intBits man) :
    Con w 108 3 news [.int s₀ t₁, .int man t₂, .int exp t₃, .int bc t₄, .int prec t₅, .str rnd t₆] (RetT news s₀ (nM man prec) (exp + nE man prec) (nB man prec)) := by
  unfold Con; k_fill
  intro loose mean mg mb dp un gd cn cs a ccd cl outer A₀ base h₀ L m s Q E B F X N T hk hdp hu hret; walk_at "bg enter"
  walk_at "bg walk"
  all_goals first | (walk_at "bg ends") | trace_state
theorem c_normalizez (w : World) (news : Led) (s₀ man exp bc prec : Int) (t₁ t₂ t₃ t₄ t₅ t₆ : Tok) (rnd : Str) (hm : man = 0) (hb : bc = Builtin.Int.intBits man) :
    Con w 108 2 news [.int s₀ t₁, .int man t₂, .int exp t₃, .int bc t₄, .int prec t₅, .str rnd t₆] (RetV news (.ref 85)) := by
  unfold Con; k_fill
  intro loose mean mg mb dp un gd cn cs a ccd cl outer A₀ base h₀ L m s Q E B F X N T hk hdp hu hret; walk_at "bg enter"
  walk_at "bg walk"
  all_goals first | (walk_at "bg ends") | trace_state
local macro_rules | `(tactic| walk_at "call ref") => `(tactic| (k_here; (with_reducible show wpAny _ _ (call (Value.ref 108) _) _ _ _); k_dflt (refine' Con.use (c_normalize _ _ _ _ _ _ _ _ _ _ _ _ _ _ ?p0 ?p1 ?p2 ?p3 ?p4) ?k1 ?k2 ?k3 ?k4 ?k5 ?k6 ?k7 ?k8 ?_; (case k1 => k_asm); (case k2 => k_asm); (case k3 => k_asm); (case k4 => k_asm); (case k5 => k_asm); (case k6 => first | exact rfl | assumption); (case k7 => first | exact bg_room (by assumption) (by decide) | ktr_room); (case k8 => first | exact bg_units (by assumption) (by decide) | ktr_units); (case p0 => first | with_reducible assumption | with_reducible exact rfl | k_mem | walk_at "bg side"); (case p1 => first | with_reducible assumption | with_reducible exact rfl | k_mem | walk_at "bg side"); (case p2 => first | with_reducible assumption | with_reducible exact rfl | k_mem | walk_at "bg side"); (case p3 => first | with_reducible assumption | with_reducible exact rfl | k_mem | walk_at "bg side"); (case p4 => first | with_reducible assumption | with_reducible exact rfl | k_mem | walk_at "bg side"); intro r' t1' t2' t3' t4' h' tk' F' N' l1; (try k_lt l1); (try dsimp only [T4] at N')); (try dsimp only); (try k_fold); (try k_sweep)))
local macro_rules | `(tactic| walk_at "call ref") => `(tactic| (k_here; (with_reducible show wpAny _ _ (call (Value.ref 108) _) _ _ _); k_dflt (refine' Con.use (c_normalizez _ _ _ _ _ _ _ _ _ _ _ _ _ _ ?p0 ?p1) ?k1 ?k2 ?k3 ?k4 ?k5 ?k6 ?k7 ?k8 ?_; (case k1 => k_asm); (case k2 => k_asm); (case k3 => k_asm); (case k4 => k_asm); (case k5 => k_asm); (case k6 => first | exact rfl | assumption); (case k7 => first | exact bg_room (by assumption) (by decide) | ktr_room); (case k8 => first | exact bg_units (by assumption) (by decide) | ktr_units); (case p0 => first | with_reducible assumption | with_reducible exact rfl | k_mem | walk_at "bg side"); (case p1 => first | with_reducible assumption | with_reducible exact rfl | k_mem | walk_at "bg side"); intro h' tk' F' N'); (try dsimp only); (try k_fold); (try k_sweep)))
end
local macro_rules | `(tactic| walk_at "bg none") => `(tactic| skip)
local macro_rules | `(tactic| walk_at "bg none") => `(tactic| skip)
local macro_rules | `(tactic| walk_at "bg none") => `(tactic| skip)
local macro_rules | `(tactic| walk_at "bg none") => `(tactic| skip)
local macro_rules | `(tactic| walk_at "bg none") => `(tactic| skip)
section
set_option maxRecDepth 100000
set_option maxHeartbeats 2000000
theorem c_sign (w : World) (news : Led) (r₂ : Addr) (te : Int) (u₁ u₂ u₃ u₄ : Tok) (hr₂ : (r₂, T4 (.int 0 u₁) (.int 1 u₂) (.int te u₃) (.int 1 u₄)) ∈ news) :
    Con w 168 1 news [.ref r₂] (RetI news 1) := by
  unfold Con; k_fill
  intro loose mean mg mb dp un gd cn cs a ccd cl outer A₀ base h₀ L m s Q E B F X N T hk hdp hu hret; walk_at "bg enter"
  walk_at "bg walk"
  all_goals first | (walk_at "bg ends") | trace_state
local macro_rules | `(tactic| walk_at "call ref") => `(tactic| (k_here; (with_reducible show wpAny _ _ (call (Value.ref 168) _) _ _ _); k_dflt (refine' Con.use (c_sign _ _ _ _ _ _ _ _ ?p0) ?k1 ?k2 ?k3 ?k4 ?k5 ?k6 ?k7 ?k8 ?_; (case k1 => k_asm); (case k2 => k_asm); (case k3 => k_asm); (case k4 => k_asm); (case k5 => k_asm); (case k6 => first | exact rfl | assumption); (case k7 => first | exact bg_room (by assumption) (by decide) | ktr_room); (case k8 => first | exact bg_units (by assumption) (by decide) | ktr_units); (case p0 => first | with_reducible assumption | with_reducible exact rfl | k_mem | walk_at "bg side"); intro t' h' tk' F' N'); (try dsimp only); (try k_fold); (try k_sweep)))
theorem c_cmp (w : World) (news : Led) (r r₂ : Addr) (man exp bc te : Int) (t₁ t₂ t₃ t₄ u₁ u₂ u₃ u₄ : Tok) (hr : (r, T4 (.int 0 t₁) (.int man t₂) (.int exp t₃) (.int bc t₄)) ∈ news) (hr₂ : (r₂, T4 (.int 0 u₁) (.int 1 u₂) (.int te u₃) (.int 1 u₄)) ∈ news)
    (hm : 0 < man) (hb : 1 ≤ bc) (hlt : bc + exp ≤ te) :
    Con w 138 1 news [.ref r, .ref r₂] (RetI news (-1)) := by
  unfold Con; k_fill
  intro loose mean mg mb dp un gd cn cs a ccd cl outer A₀ base h₀ L m s Q E B F X N T hk hdp hu hret; walk_at "bg enter"
  walk_at "bg walk"
  all_goals first | (walk_at "bg ends") | trace_state
local macro_rules | `(tactic| walk_at "call ref") => `(tactic| (k_here; (with_reducible show wpAny _ _ (call (Value.ref 138) _) _ _ _); k_dflt (refine' Con.use (c_cmp _ _ _ _ _ _ _ _ _ _ _ _ _ _ _ _ ?p0 ?p1 ?p2 ?p3 ?p4) ?k1 ?k2 ?k3 ?k4 ?k5 ?k6 ?k7 ?k8 ?_; (case k1 => k_asm); (case k2 => k_asm); (case k3 => k_asm); (case k4 => k_asm); (case k5 => k_asm); (case k6 => first | exact rfl | assumption); (case k7 => first | exact bg_room (by assumption) (by decide) | ktr_room); (case k8 => first | exact bg_units (by assumption) (by decide) | ktr_units); (case p0 => first | with_reducible assumption | with_reducible exact rfl | k_mem | walk_at "bg side"); (case p1 => first | with_reducible assumption | with_reducible exact rfl | k_mem | walk_at "bg side"); (case p2 => first | with_reducible assumption | with_reducible exact rfl | k_mem | walk_at "bg side"); (case p3 => first | with_reducible assumption | with_reducible exact rfl | k_mem | walk_at "bg side"); (case p4 => first | with_reducible assumption | with_reducible exact rfl | k_mem | walk_at "bg side"); intro t' h' tk' F' N'); (try dsimp only); (try k_fold); (try k_sweep)))
theorem c_cmpz (w : World) (news : Led) (r₂ : Addr) (te : Int) (u₁ u₂ u₃ u₄ : Tok) (hr₂ : (r₂, T4 (.int 0 u₁) (.int 1 u₂) (.int te u₃) (.int 1 u₄)) ∈ news) :
    Con w 138 2 news [.ref 85, .ref r₂] (RetI news (-1)) := by
  unfold Con; k_fill
  intro loose mean mg mb dp un gd cn cs a ccd cl outer A₀ base h₀ L m s Q E B F X N T hk hdp hu hret; walk_at "bg enter"
  walk_at "bg walk"
  all_goals first | (walk_at "bg ends") | trace_state
local macro_rules | `(tactic| walk_at "call ref") => `(tactic| (k_here; (with_reducible show wpAny _ _ (call (Value.ref 138) _) _ _ _); k_dflt (refine' Con.use (c_cmpz _ _ _ _ _ _ _ _ ?p0) ?k1 ?k2 ?k3 ?k4 ?k5 ?k6 ?k7 ?k8 ?_; (case k1 => k_asm); (case k2 => k_asm); (case k3 => k_asm); (case k4 => k_asm); (case k5 => k_asm); (case k6 => first | exact rfl | assumption); (case k7 => first | exact bg_room (by assumption) (by decide) | ktr_room); (case k8 => first | exact bg_units (by assumption) (by decide) | ktr_units); (case p0 => first | with_reducible assumption | with_reducible exact rfl | k_mem | walk_at "bg side"); intro t' h' tk' F' N'); (try dsimp only); (try k_fold); (try k_sweep)))
theorem c_lt (w : World) (news : Led) (r r₂ : Addr) (man exp bc te : Int) (t₁ t₂ t₃ t₄ u₁ u₂ u₃ u₄ : Tok) (hr : (r, T4 (.int 0 t₁) (.int man t₂) (.int exp t₃) (.int bc t₄)) ∈ news) (hr₂ : (r₂, T4 (.int 0 u₁) (.int 1 u₂) (.int te u₃) (.int 1 u₄)) ∈ news)
    (hm : 0 < man) (hb : 1 ≤ bc) (hlt : bc + exp ≤ te) :
    Con w 145 3 news [.ref r, .ref r₂] (RetB news true) := by
  unfold Con; k_fill
  intro loose mean mg mb dp un gd cn cs a ccd cl outer A₀ base h₀ L m s Q E B F X N T hk hdp hu hret; walk_at "bg enter"
  walk_at "bg walk"
  all_goals first | (walk_at "bg ends") | trace_state
theorem c_ltz (w : World) (news : Led) (r₂ : Addr) (te : Int) (u₁ u₂ u₃ u₄ : Tok) (hr₂ : (r₂, T4 (.int 0 u₁) (.int 1 u₂) (.int te u₃) (.int 1 u₄)) ∈ news) :
    Con w 145 3 news [.ref 85, .ref r₂] (RetB news true) := by
  unfold Con; k_fill
  intro loose mean mg mb dp un gd cn cs a ccd cl outer A₀ base h₀ L m s Q E B F X N T hk hdp hu hret; walk_at "bg enter"
  walk_at "bg walk"
  all_goals first | (walk_at "bg ends") | trace_state
theorem c_ltv (w : World) (news : Led) (v : Value) (r₂ : Addr) (man exp bc te : Int) (u₁ u₂ u₃ u₄ : Tok) (hv : TupV news v 0 man exp bc) (hr₂ : (r₂, T4 (.int 0 u₁) (.int 1 u₂) (.int te u₃) (.int 1 u₄)) ∈ news)
    (hm : man ≠ 0 → 0 < man ∧ 1 ≤ bc ∧ bc + exp ≤ te) :
    Con w 145 3 news [v, .ref r₂] (RetB news true) := by
  rcases hv with ⟨h0, r, t₁, t₂, t₃, t₄, rfl, hr⟩ | ⟨h0, rfl⟩
  · obtain ⟨h1, h2, h3⟩ := hm h0
    exact c_lt w news r r₂ man exp bc te t₁ t₂ t₃ t₄ u₁ u₂ u₃ u₄ hr hr₂ h1 h2 h3
  · exact c_ltz w news r₂ te u₁ u₂ u₃ u₄ hr₂
theorem c_absv (w : World) (news : Led) (v : Value) (sg man exp bc : Int) (hv : TupV news v sg man exp bc) :
    Con w 161 1 news [v] (RetTV news 0 man exp bc) := by
  rcases hv with ⟨h0, r, t₁, t₂, t₃, t₄, rfl, hr⟩ | ⟨h0, rfl⟩
  · by_cases hs : sg = 0
    · subst hs
      refine (c_abs0 w news r 0 man exp bc t₁ t₂ t₃ t₄ hr h0 rfl).weaken fun h₀ L m s Q ret => ?_
      exact fun h' tk' F N => ret _ [] _ _ F N (.inl ⟨h0, r, t₁, t₂, t₃, t₄, rfl, hr⟩)
    · refine (c_abs w news r sg man exp bc t₁ t₂ t₃ t₄ hr h0 hs).weaken fun h₀ L m s Q ret => ?_
      exact fun r' a b c d h' tk' F N l => ret _ [_] _ _ F N (.inl ⟨h0, r', a, b, c, d, rfl, .head _⟩)
  · refine (c_absz w news).weaken fun h₀ L m s Q ret => ?_
    exact fun h' tk' F N => ret _ [] _ _ F N (.inr ⟨h0, rfl⟩)
end
local macro_rules | `(tactic| walk_at "bg none") => `(tactic| skip)
local macro_rules | `(tactic| walk_at "bg none") => `(tactic| skip)
local macro_rules | `(tactic| walk_at "bg none") => `(tactic| skip)
local macro_rules | `(tactic| walk_at "bg none") => `(tactic| skip)
section
set_option maxRecDepth 100000
set_option maxHeartbeats 2000000
local macro_rules | `(tactic| walk_at "call ref") => `(tactic| (k_here; (with_reducible show wpAny _ _ (call (Value.ref 43) _) _ _ _); k_dflt (refine' Con.use (c_trailing _ _ _ _ ?p0) ?k1 ?k2 ?k3 ?k4 ?k5 ?k6 ?k7 ?k8 ?_; (case k1 => k_asm); (case k2 => k_asm); (case k3 => k_asm); (case k4 => k_asm); (case k5 => k_asm); (case k6 => first | exact rfl | assumption); (case k7 => first | exact bg_room (by assumption) (by decide) | ktr_room); (case k8 => first | exact bg_units (by assumption) (by decide) | ktr_units); (case p0 => first | with_reducible assumption | with_reducible exact rfl | k_mem | walk_at "bg side"); intro t' h' tk' F' N'); (try dsimp only); (try k_fold); (try k_sweep)))
local macro_rules | `(tactic| walk_at "call ref") => `(tactic| (k_here; (with_reducible show wpAny _ _ (call (Value.ref 108) _) _ _ _); k_dflt (refine' Con.use (c_normalize _ _ _ _ _ _ _ _ _ _ _ _ _ _ ?p0 ?p1 ?p2 ?p3 ?p4) ?k1 ?k2 ?k3 ?k4 ?k5 ?k6 ?k7 ?k8 ?_; (case k1 => k_asm); (case k2 => k_asm); (case k3 => k_asm); (case k4 => k_asm); (case k5 => k_asm); (case k6 => first | exact rfl | assumption); (case k7 => first | exact bg_room (by assumption) (by decide) | ktr_room); (case k8 => first | exact bg_units (by assumption) (by decide) | ktr_units); (case p0 => first | with_reducible assumption | with_reducible exact rfl | k_mem | walk_at "bg side"); (case p1 => first | with_reducible assumption | with_reducible exact rfl | k_mem | walk_at "bg side"); (case p2 => first | with_reducible assumption | with_reducible exact rfl | k_mem | walk_at "bg side"); (case p3 => first | with_reducible assumption | with_reducible exact rfl | k_mem | walk_at "bg side"); (case p4 => first | with_reducible assumption | with_reducible exact rfl | k_mem | walk_at "bg side"); intro r' t1' t2' t3' t4' h' tk' F' N' l1; (try k_lt l1); (try dsimp only [T4] at N')); (try dsimp only); (try k_fold); (try k_sweep)))
local macro_rules | `(tactic| walk_at "call ref") => `(tactic| (k_here; (with_reducible show wpAny _ _ (call (Value.ref 108) _) _ _ _); k_dflt (refine' Con.use (c_normalizez _ _ _ _ _ _ _ _ _ _ _ _ _ _ ?p0 ?p1) ?k1 ?k2 ?k3 ?k4 ?k5 ?k6 ?k7 ?k8 ?_; (case k1 => k_asm); (case k2 => k_asm); (case k3 => k_asm); (case k4 => k_asm); (case k5 => k_asm); (case k6 => first | exact rfl | assumption); (case k7 => first | exact bg_room (by assumption) (by decide) | ktr_room); (case k8 => first | exact bg_units (by assumption) (by decide) | ktr_units); (case p0 => first | with_reducible assumption | with_reducible exact rfl | k_mem | walk_at "bg side"); (case p1 => first | with_reducible assumption | with_reducible exact rfl | k_mem | walk_at "bg side"); intro h' tk' F' N'); (try dsimp only); (try k_fold); (try k_sweep)))
theorem c_fmez (w : World) (news : Led) (exp : Int) (t₁ t₂ : Tok) :
    Con w 116 1 news [.int 0 t₁, .int exp t₂] (RetV news (.ref 85)) := by
  unfold Con; k_fill
  intro loose mean mg mb dp un gd cn cs a ccd cl outer A₀ base h₀ L m s Q E B F X N T hk hdp hu hret; walk_at "bg enter"
  walk_at "bg walk"
  all_goals first | (walk_at "bg ends") | trace_state
theorem c_fme (w : World) (news : Led) (man exp : Int) (t₁ t₂ : Tok) (h : 0 < man) :
    Con w 116 2 news [.int man t₁, .int exp t₂] (RetT news 0 (od man) (exp + tz man) (bl (od man))) := by
  unfold Con; k_fill
  intro loose mean mg mb dp un gd cn cs a ccd cl outer A₀ base h₀ L m s Q E B F X N T hk hdp hu hret; walk_at "bg enter"
  have hbl : (Builtin.Int.intBits man : Int) = bl (od man) + tz man := by have : Builtin.Int.intBits man = bl (od man) + tz man := bl_od h; omega
  have b1 := band_one (x := man) (by omega)
  rcases Classical.em (Builtin.bitAnd man 1 = 0) with ho | ho
  · have b2 := band_two (x := man) (by omega)
    rcases Classical.em (Builtin.bitAnd man 2 = 0) with ho2 | ho2
    · have hq : man.fdiv (2 ^ ((tz man : Nat) : Int).toNat) = od man := by rw [Int.toNat_natCast, fdiv_pow]; rfl
      clear b1 b2
      walk_at "bg walk"
      all_goals first | exact endT hret (by k_asm) (by k_asm) (by assumption) ⟨rfl, by omega, by omega, by omega⟩ | (walk_at "bg ends") | trace_state
    · have e2 : (2:Int) ^ (1:Int).toNat = 2 := rfl
      have hq := tz_unique (x := man) (o := man / 2) (k := 1) (by omega) (by omega) h
      have hq2 : man.fdiv (2 ^ (1 : Int).toNat) = od man := by rw [e2, fdiv_pos_eq (by decide)]; exact hq.2
      have hq1 := hq.1
      clear b1 b2 e2
      walk_at "bg walk"
      all_goals first | exact endT hret (by k_asm) (by k_asm) (by assumption) ⟨rfl, by omega, by omega, by omega⟩ | (walk_at "bg ends") | trace_state
  · have hq := odd_od h (by omega)
    clear b1
    walk_at "bg walk"
    all_goals first | exact endT hret (by k_asm) (by k_asm) (by assumption) ⟨rfl, by omega, by omega, by omega⟩ | (walk_at "bg ends") | trace_state
theorem c_fmen (w : World) (news : Led) (man exp : Int) (t₁ t₂ : Tok) (h : man < 0) :
    Con w 116 2 news [.int man t₁, .int exp t₂] (RetT news 1 (od (-man)) (exp + tz (-man)) (bl (od (-man)))) := by
  unfold Con; k_fill
  intro loose mean mg mb dp un gd cn cs a ccd cl outer A₀ base h₀ L m s Q E B F X N T hk hdp hu hret; walk_at "bg enter"
  have hbl : (Builtin.Int.intBits (-man) : Int) = bl (od (-man)) + tz (-man) := by have : Builtin.Int.intBits (-man) = bl (od (-man)) + tz (-man) := bl_od (by omega); omega
  have b1 := band_one (x := -man) (by omega)
  rcases Classical.em (Builtin.bitAnd (-man) 1 = 0) with ho | ho
  · have b2 := band_two (x := -man) (by omega)
    rcases Classical.em (Builtin.bitAnd (-man) 2 = 0) with ho2 | ho2
    · have hq : (-man).fdiv (2 ^ ((tz (-man) : Nat) : Int).toNat) = od (-man) := by rw [Int.toNat_natCast, fdiv_pow]; rfl
      clear b1 b2
      walk_at "bg walk"
      all_goals first | exact endT hret (by k_asm) (by k_asm) (by assumption) ⟨rfl, by omega, by omega, by omega⟩ | (walk_at "bg ends") | trace_state
    · have e2 : (2:Int) ^ (1:Int).toNat = 2 := rfl
      have hq := tz_unique (x := -man) (o := -man / 2) (k := 1) (by omega) (by omega) (by omega)
      have hq2 : (-man).fdiv (2 ^ (1 : Int).toNat) = od (-man) := by rw [e2, fdiv_pos_eq (by decide)]; exact hq.2
      have hq1 := hq.1
      clear b1 b2 e2
      walk_at "bg walk"
      all_goals first | exact endT hret (by k_asm) (by k_asm) (by assumption) ⟨rfl, by omega, by omega, by omega⟩ | (walk_at "bg ends") | trace_state
  · have hq := odd_od (x := -man) (by omega) (by omega)
    clear b1
    walk_at "bg walk"
    all_goals first | exact endT hret (by k_asm) (by k_asm) (by assumption) ⟨rfl, by omega, by omega, by omega⟩ | (walk_at "bg ends") | trace_state
theorem c_fme4 (w : World) (news : Led) (man exp prec : Int) (t₁ t₂ t₃ t₄ : Tok) (h : 0 < man) (hp : 0 < prec) (hz : (Builtin.Int.intBits man : Int) ≤ 100000) :
    Con w 116 4 news [.int man t₁, .int exp t₂, .int prec t₃, .str "n" t₄] (RetT news 0 (nM man prec) (exp + nE man prec) (nB man prec)) := by
  unfold Con; k_fill
  intro loose mean mg mb dp un gd cn cs a ccd cl outer A₀ base h₀ L m s Q E B F X N T hk hdp hu hret; walk_at "bg enter"
  have f0 : (Builtin.Int.intBits man : Int) ≤ prec ∨ (("n" : Str) = "n") := Or.inr rfl
  walk_at "bg walk"
  all_goals first | (walk_at "bg ends") | trace_state
end
local macro_rules | `(tactic| walk_at "bg none") => `(tactic| skip)
local macro_rules | `(tactic| walk_at "bg none") => `(tactic| skip)
local macro_rules | `(tactic| walk_at "bg none") => `(tactic| skip)
local macro_rules | `(tactic| walk_at "bg none") => `(tactic| skip)
section
set_option maxRecDepth 100000
set_option maxHeartbeats 2000000
local macro_rules | `(tactic| walk_at "call ref") => `(tactic| (k_here; (with_reducible show wpAny _ _ (call (Value.ref 108) _) _ _ _); k_dflt (refine' Con.use (c_normalize _ _ _ _ _ _ _ _ _ _ _ _ _ _ ?p0 ?p1 ?p2 ?p3 ?p4) ?k1 ?k2 ?k3 ?k4 ?k5 ?k6 ?k7 ?k8 ?_; (case k1 => k_asm); (case k2 => k_asm); (case k3 => k_asm); (case k4 => k_asm); (case k5 => k_asm); (case k6 => first | exact rfl | assumption); (case k7 => first | exact bg_room (by assumption) (by decide) | ktr_room); (case k8 => first | exact bg_units (by assumption) (by decide) | ktr_units); (case p0 => first | with_reducible assumption | with_reducible exact rfl | k_mem | walk_at "bg side"); (case p1 => first | with_reducible assumption | with_reducible exact rfl | k_mem | walk_at "bg side"); (case p2 => first | with_reducible assumption | with_reducible exact rfl | k_mem | walk_at "bg side"); (case p3 => first | with_reducible assumption | with_reducible exact rfl | k_mem | walk_at "bg side"); (case p4 => first | with_reducible assumption | with_reducible exact rfl | k_mem | walk_at "bg side"); intro r' t1' t2' t3' t4' h' tk' F' N' l1; (try k_lt l1); (try dsimp only [T4] at N')); (try dsimp only); (try k_fold); (try k_sweep)))
local macro_rules | `(tactic| walk_at "call ref") => `(tactic| (k_here; (with_reducible show wpAny _ _ (call (Value.ref 108) _) _ _ _); k_dflt (refine' Con.use (c_normalizez _ _ _ _ _ _ _ _ _ _ _ _ _ _ ?p0 ?p1) ?k1 ?k2 ?k3 ?k4 ?k5 ?k6 ?k7 ?k8 ?_; (case k1 => k_asm); (case k2 => k_asm); (case k3 => k_asm); (case k4 => k_asm); (case k5 => k_asm); (case k6 => first | exact rfl | assumption); (case k7 => first | exact bg_room (by assumption) (by decide) | ktr_room); (case k8 => first | exact bg_units (by assumption) (by decide) | ktr_units); (case p0 => first | with_reducible assumption | with_reducible exact rfl | k_mem | walk_at "bg side"); (case p1 => first | with_reducible assumption | with_reducible exact rfl | k_mem | walk_at "bg side"); intro h' tk' F' N'); (try dsimp only); (try k_fold); (try k_sweep)))
theorem c_addP (w : World) (news : Led) (r r₂ : Addr) (sm se sb tm te tb : Int) (t₁ t₂ t₃ t₄ u₁ u₂ u₃ u₄ v₁ v₂ v₃ : Tok) (hr : (r, T4 (.int 0 t₁) (.int sm t₂) (.int se t₃) (.int sb t₄)) ∈ news) (hr₂ : (r₂, T4 (.int 0 u₁) (.int tm u₂) (.int te u₃) (.int tb u₄)) ∈ news) (hs : 0 < sm) (ht : 0 < tm) (hsb : (Builtin.Int.intBits sm : Int) ≤ 5000) (htb : (Builtin.Int.intBits tm : Int) ≤ 5000) (hd1 : se - te ≤ 5000) (hd2 : te - se ≤ 5000) (ho : 0 < se - te) :
    Con w 176 4 news [.ref r, .ref r₂, .int 0 v₁, .str "d" v₂, .int 1 v₃] (RetSub news (sm * 2 ^ (se - te).toNat - tm) te) := by
  unfold Con; k_fill
  intro loose mean mg mb dp un gd cn cs a ccd cl outer A₀ base h₀ L m s Q E B F X N T hk hdp hu hret; walk_at "bg enter"
  have hbx : (Builtin.Int.intBits (sm * 2 ^ (se - te).toNat - tm) : Int) ≤ 20000 := by
    have q1 := bits_shl sm (se - te).toNat
    have q2 := bits_sub (Nat.le_refl (Builtin.Int.intBits (sm * 2 ^ (se - te).toNat))) (Nat.le_refl (Builtin.Int.intBits (tm)))
    omega
  rcases Int.lt_trichotomy (sm * 2 ^ (se - te).toNat - tm) 0 with hx | hx | hx
  · have g1 : 0 < -(sm * 2 ^ (se - te).toNat - tm) := by omega
    have g2 : (Builtin.Int.intBits (-(sm * 2 ^ (se - te).toNat - tm)) : Int) ≤ 100000 := by have := bits_neg (Nat.le_refl (Builtin.Int.intBits (sm * 2 ^ (se - te).toNat - tm))); omega
    have g3 : (0:Int) < Builtin.Int.intBits (-(sm * 2 ^ (se - te).toNat - tm)) := by have : 1 ≤ Builtin.Int.intBits (-(sm * 2 ^ (se - te).toNat - tm)) := bl_pos g1; omega
    have g4 := bl_od g1
    have g5 : Builtin.Int.intBits (-(sm * 2 ^ (se - te).toNat - tm)) = Builtin.Int.intBits (sm * 2 ^ (se - te).toNat - tm) := Nat.le_antisymm (bits_neg (Nat.le_refl _)) (by have := bits_neg (Nat.le_refl (Builtin.Int.intBits (-(sm * 2 ^ (se - te).toNat - tm)))); rw [Int.neg_neg] at this; exact this)
    walk_at "bg walk"
    all_goals first | (refine' hret _ [_] _ _ _ _ _ _ ?F ?N (.inl ⟨?m, _, _, _, _, _, rfl, .head _⟩) ?g; (case F => k_asm); (case N => k_asm); (case m => exact (sub_end g1).1); (case g => intro _; have q := sub_end g1; exact ⟨Int.ne_of_lt hx, q.2.1, q.2.2.1, by have q3 := q.2.2.2; omega⟩)) | trace_state
  · have g1 : Builtin.Int.intBits (sm * 2 ^ (se - te).toNat - tm) = 0 := by rw [hx]; rfl
    walk_at "bg walk"
    all_goals first | (refine' hret _ [] _ _ 0 0 0 0 ?F ?N (.inr ⟨rfl, rfl⟩) ?g; (case F => k_asm); (case N => k_asm); (case g => intro h; exact absurd rfl h)) | trace_state
  · have g2 : (Builtin.Int.intBits (sm * 2 ^ (se - te).toNat - tm) : Int) ≤ 100000 := by omega
    have g3 : (0:Int) < Builtin.Int.intBits (sm * 2 ^ (se - te).toNat - tm) := by have : 1 ≤ Builtin.Int.intBits (sm * 2 ^ (se - te).toNat - tm) := bl_pos hx; omega
    have g4 := bl_od hx
    walk_at "bg walk"
    all_goals first | (refine' hret _ [_] _ _ _ _ _ _ ?F ?N (.inl ⟨?m, _, _, _, _, _, rfl, .head _⟩) ?g; (case F => k_asm); (case N => k_asm); (case m => exact (sub_end hx).1); (case g => intro _; have q := sub_end hx; exact ⟨Int.ne_of_gt hx, q.2.1, q.2.2.1, by have q3 := q.2.2.2; omega⟩)) | trace_state
theorem c_addZ (w : World) (news : Led) (r r₂ : Addr) (sm se sb tm te tb : Int) (t₁ t₂ t₃ t₄ u₁ u₂ u₃ u₄ v₁ v₂ v₃ : Tok) (hr : (r, T4 (.int 0 t₁) (.int sm t₂) (.int se t₃) (.int sb t₄)) ∈ news) (hr₂ : (r₂, T4 (.int 0 u₁) (.int tm u₂) (.int te u₃) (.int tb u₄)) ∈ news) (hs : 0 < sm) (ht : 0 < tm) (hsb : (Builtin.Int.intBits sm : Int) ≤ 5000) (htb : (Builtin.Int.intBits tm : Int) ≤ 5000) (hd1 : se - te ≤ 5000) (hd2 : te - se ≤ 5000) (ho : se - te = 0) :
    Con w 176 4 news [.ref r, .ref r₂, .int 0 v₁, .str "d" v₂, .int 1 v₃] (RetSub news (sm - tm) te) := by
  unfold Con; k_fill
  intro loose mean mg mb dp un gd cn cs a ccd cl outer A₀ base h₀ L m s Q E B F X N T hk hdp hu hret; walk_at "bg enter"
  have hbx : (Builtin.Int.intBits (sm - tm) : Int) ≤ 20000 := by
    have q2 := bits_sub (Nat.le_refl (Builtin.Int.intBits (sm))) (Nat.le_refl (Builtin.Int.intBits (tm)))
    omega
  rcases Int.lt_trichotomy (sm - tm) 0 with hx | hx | hx
  · have g1 : 0 < -(sm - tm) := by omega
    have g2 : (Builtin.Int.intBits (-(sm - tm)) : Int) ≤ 100000 := by have := bits_neg (Nat.le_refl (Builtin.Int.intBits (sm - tm))); omega
    have g3 : (0:Int) < Builtin.Int.intBits (-(sm - tm)) := by have : 1 ≤ Builtin.Int.intBits (-(sm - tm)) := bl_pos g1; omega
    have g4 := bl_od g1
    have g5 : Builtin.Int.intBits (-(sm - tm)) = Builtin.Int.intBits (sm - tm) := Nat.le_antisymm (bits_neg (Nat.le_refl _)) (by have := bits_neg (Nat.le_refl (Builtin.Int.intBits (-(sm - tm)))); rw [Int.neg_neg] at this; exact this)
    walk_at "bg walk"
    all_goals first | (refine' hret _ [_] _ _ _ _ _ _ ?F ?N (.inl ⟨?m, _, _, _, _, _, rfl, .head _⟩) ?g; (case F => k_asm); (case N => k_asm); (case m => exact (sub_end g1).1); (case g => intro _; have q := sub_end g1; exact ⟨Int.ne_of_lt hx, q.2.1, q.2.2.1, by have q3 := q.2.2.2; omega⟩)) | trace_state
  · have g1 : Builtin.Int.intBits (sm - tm) = 0 := by rw [hx]; rfl
    walk_at "bg walk"
    all_goals first | (refine' hret _ [] _ _ 0 0 0 0 ?F ?N (.inr ⟨rfl, rfl⟩) ?g; (case F => k_asm); (case N => k_asm); (case g => intro h; exact absurd rfl h)) | trace_state
  · have g2 : (Builtin.Int.intBits (sm - tm) : Int) ≤ 100000 := by omega
    have g3 : (0:Int) < Builtin.Int.intBits (sm - tm) := by have : 1 ≤ Builtin.Int.intBits (sm - tm) := bl_pos hx; omega
    have g4 := bl_od hx
    walk_at "bg walk"
    all_goals first | (refine' hret _ [_] _ _ _ _ _ _ ?F ?N (.inl ⟨?m, _, _, _, _, _, rfl, .head _⟩) ?g; (case F => k_asm); (case N => k_asm); (case m => exact (sub_end hx).1); (case g => intro _; have q := sub_end hx; exact ⟨Int.ne_of_gt hx, q.2.1, q.2.2.1, by have q3 := q.2.2.2; omega⟩)) | trace_state
theorem c_addN (w : World) (news : Led) (r r₂ : Addr) (sm se sb tm te tb : Int) (t₁ t₂ t₃ t₄ u₁ u₂ u₃ u₄ v₁ v₂ v₃ : Tok) (hr : (r, T4 (.int 0 t₁) (.int sm t₂) (.int se t₃) (.int sb t₄)) ∈ news) (hr₂ : (r₂, T4 (.int 0 u₁) (.int tm u₂) (.int te u₃) (.int tb u₄)) ∈ news) (hs : 0 < sm) (ht : 0 < tm) (hsb : (Builtin.Int.intBits sm : Int) ≤ 5000) (htb : (Builtin.Int.intBits tm : Int) ≤ 5000) (hd1 : se - te ≤ 5000) (hd2 : te - se ≤ 5000) (ho : se - te < 0) :
    Con w 176 4 news [.ref r, .ref r₂, .int 0 v₁, .str "d" v₂, .int 1 v₃] (RetSub news (sm - tm * 2 ^ (-(se - te)).toNat) se) := by
  unfold Con; k_fill
  intro loose mean mg mb dp un gd cn cs a ccd cl outer A₀ base h₀ L m s Q E B F X N T hk hdp hu hret; walk_at "bg enter"
  have hbx : (Builtin.Int.intBits (sm - tm * 2 ^ (-(se - te)).toNat) : Int) ≤ 20000 := by
    have q1 := bits_shl tm (-(se - te)).toNat
    have q2 := bits_sub (Nat.le_refl (Builtin.Int.intBits (sm))) (Nat.le_refl (Builtin.Int.intBits (tm * 2 ^ (-(se - te)).toNat)))
    omega
  rcases Int.lt_trichotomy (sm - tm * 2 ^ (-(se - te)).toNat) 0 with hx | hx | hx
  · have g1 : 0 < -(sm - tm * 2 ^ (-(se - te)).toNat) := by omega
    have g2 : (Builtin.Int.intBits (-(sm - tm * 2 ^ (-(se - te)).toNat)) : Int) ≤ 100000 := by have := bits_neg (Nat.le_refl (Builtin.Int.intBits (sm - tm * 2 ^ (-(se - te)).toNat))); omega
    have g3 : (0:Int) < Builtin.Int.intBits (-(sm - tm * 2 ^ (-(se - te)).toNat)) := by have : 1 ≤ Builtin.Int.intBits (-(sm - tm * 2 ^ (-(se - te)).toNat)) := bl_pos g1; omega
    have g4 := bl_od g1
    have g5 : Builtin.Int.intBits (-(sm - tm * 2 ^ (-(se - te)).toNat)) = Builtin.Int.intBits (sm - tm * 2 ^ (-(se - te)).toNat) := Nat.le_antisymm (bits_neg (Nat.le_refl _)) (by have := bits_neg (Nat.le_refl (Builtin.Int.intBits (-(sm - tm * 2 ^ (-(se - te)).toNat)))); rw [Int.neg_neg] at this; exact this)
    walk_at "bg walk"
    all_goals first | (refine' hret _ [_] _ _ _ _ _ _ ?F ?N (.inl ⟨?m, _, _, _, _, _, rfl, .head _⟩) ?g; (case F => k_asm); (case N => k_asm); (case m => exact (sub_end g1).1); (case g => intro _; have q := sub_end g1; exact ⟨Int.ne_of_lt hx, q.2.1, q.2.2.1, by have q3 := q.2.2.2; omega⟩)) | trace_state
  · have g1 : Builtin.Int.intBits (sm - tm * 2 ^ (-(se - te)).toNat) = 0 := by rw [hx]; rfl
    walk_at "bg walk"
    all_goals first | (refine' hret _ [] _ _ 0 0 0 0 ?F ?N (.inr ⟨rfl, rfl⟩) ?g; (case F => k_asm); (case N => k_asm); (case g => intro h; exact absurd rfl h)) | trace_state
  · have g2 : (Builtin.Int.intBits (sm - tm * 2 ^ (-(se - te)).toNat) : Int) ≤ 100000 := by omega
    have g3 : (0:Int) < Builtin.Int.intBits (sm - tm * 2 ^ (-(se - te)).toNat) := by have : 1 ≤ Builtin.Int.intBits (sm - tm * 2 ^ (-(se - te)).toNat) := bl_pos hx; omega
    have g4 := bl_od hx
    walk_at "bg walk"
    all_goals first | (refine' hret _ [_] _ _ _ _ _ _ ?F ?N (.inl ⟨?m, _, _, _, _, _, rfl, .head _⟩) ?g; (case F => k_asm); (case N => k_asm); (case m => exact (sub_end hx).1); (case g => intro _; have q := sub_end hx; exact ⟨Int.ne_of_gt hx, q.2.1, q.2.2.1, by have q3 := q.2.2.2; omega⟩)) | trace_state
end
local macro_rules | `(tactic| walk_at "bg none") => `(tactic| skip)
local macro_rules | `(tactic| walk_at "bg none") => `(tactic| skip)
local macro_rules | `(tactic| walk_at "bg none") => `(tactic| skip)
section
set_option maxRecDepth 100000
set_option maxHeartbeats 2000000
local macro_rules | `(tactic| walk_at "call ref") => `(tactic| (k_here; (with_reducible show wpAny _ _ (call (Value.ref 191) _) _ _ _); k_dflt (refine' Con.use (c_shift _ _ _ _ _ _ _ _ _ _ _ _ _ ?p0 ?p1) ?k1 ?k2 ?k3 ?k4 ?k5 ?k6 ?k7 ?k8 ?_; (case k1 => k_asm); (case k2 => k_asm); (case k3 => k_asm); (case k4 => k_asm); (case k5 => k_asm); (case k6 => first | exact rfl | assumption); (case k7 => first | exact bg_room (by assumption) (by decide) | ktr_room); (case k8 => first | exact bg_units (by assumption) (by decide) | ktr_units); (case p0 => first | with_reducible assumption | with_reducible exact rfl | k_mem | walk_at "bg side"); (case p1 => first | with_reducible assumption | with_reducible exact rfl | k_mem | walk_at "bg side"); intro r' t1' t2' t3' t4' h' tk' F' N' l1; (try k_lt l1); (try dsimp only [T4] at N')); (try dsimp only); (try k_fold); (try k_sweep)))
local macro_rules | `(tactic| walk_at "call ref") => `(tactic| (k_here; (with_reducible show wpAny _ _ (call (Value.ref 108) _) _ _ _); k_dflt (refine' Con.use (c_normalize _ _ _ _ _ _ _ _ _ _ _ _ _ _ ?p0 ?p1 ?p2 ?p3 ?p4) ?k1 ?k2 ?k3 ?k4 ?k5 ?k6 ?k7 ?k8 ?_; (case k1 => k_asm); (case k2 => k_asm); (case k3 => k_asm); (case k4 => k_asm); (case k5 => k_asm); (case k6 => first | exact rfl | assumption); (case k7 => first | exact bg_room (by assumption) (by decide) | ktr_room); (case k8 => first | exact bg_units (by assumption) (by decide) | ktr_units); (case p0 => first | with_reducible assumption | with_reducible exact rfl | k_mem | walk_at "bg side"); (case p1 => first | with_reducible assumption | with_reducible exact rfl | k_mem | walk_at "bg side"); (case p2 => first | with_reducible assumption | with_reducible exact rfl | k_mem | walk_at "bg side"); (case p3 => first | with_reducible assumption | with_reducible exact rfl | k_mem | walk_at "bg side"); (case p4 => first | with_reducible assumption | with_reducible exact rfl | k_mem | walk_at "bg side"); intro r' t1' t2' t3' t4' h' tk' F' N' l1; (try k_lt l1); (try dsimp only [T4] at N')); (try dsimp only); (try k_fold); (try k_sweep)))
theorem c_shift1 (w : World) (news : Led) (n : Int) (tn : Tok) :
    Con w 191 1 news [.ref 86, .int n tn] (RetT news 0 1 (0 + n) 1) := by
  unfold Con; k_fill
  intro loose mean mg mb dp un gd cn cs a ccd cl outer A₀ base h₀ L m s Q E B F X N T hk hdp hu hret; walk_at "bg enter"
  walk_at "bg walk"
  all_goals first | (walk_at "bg ends") | trace_state
theorem c_frexp (w : World) (news : Led) (r : Addr) (s₀ man exp bc : Int) (t₁ t₂ t₃ t₄ : Tok) (hr : (r, T4 (.int s₀ t₁) (.int man t₂) (.int exp t₃) (.int bc t₄)) ∈ news) (hm : man ≠ 0) :
    Con w 198 2 news [.ref r] (RetFx news s₀ man (exp + (-bc - exp)) bc (bc + exp)) := by
  unfold Con; k_fill
  intro loose mean mg mb dp un gd cn cs a ccd cl outer A₀ base h₀ L m s Q E B F X N T hk hdp hu hret; walk_at "bg enter"
  walk_at "bg walk"
  all_goals first | (refine' hret _ _ _ _ _ _ _ _ _ ?F ?N ?l ?q; (case F => k_asm); (case N => k_asm); (case l => assumption); (case q => (refine ltN ?_; omega))) | trace_state
theorem c_div1 (w : World) (news : Led) (r : Addr) (ts tm te tb prec : Int) (t₁ t₂ t₃ t₄ t₅ t₆ : Tok) (hr : (r, T4 (.int ts t₁) (.int tm t₂) (.int te t₃) (.int tb t₄)) ∈ news) (hm : tm = 1) (hp : 0 < prec) (hts : ts = 0 ∨ ts = 1) :
    Con w 206 4 news [.ref 86, .ref r, .int prec t₅, .str "n" t₆] (RetT news ts (qM tm tb prec) (qE tm tb prec - te) (qB tm tb prec)) := by
  unfold Con; k_fill
  intro loose mean mg mb dp un gd cn cs a ccd cl outer A₀ base h₀ L m s Q E B F X N T hk hdp hu hret; walk_at "bg enter"
  have f3 : Builtin.Int.intBits 1 = 1 := rfl
  have fx : Builtin.bitXor 0 ts = ts := by rcases hts with h | h <;> subst h <;> decide
  obtain ⟨g1, g2, g3⟩ := nM_one hp
  have h1 : qM tm tb prec = 1 := if_pos hm
  have h2 : qE tm tb prec = 0 := if_pos hm
  have h3 : qB tm tb prec = 1 := if_pos hm
  walk_at "bg walk"
  all_goals first | exact endT hret (by k_asm) (by walk_at "bg led1") (by walk_at "bg lt") ⟨fx, by omega, by omega, by omega⟩ | trace_state
theorem c_div (w : World) (news : Led) (r : Addr) (ts tm te tb prec : Int) (t₁ t₂ t₃ t₄ t₅ t₆ : Tok) (hr : (r, T4 (.int ts t₁) (.int tm t₂) (.int te t₃) (.int tb t₄)) ∈ news) (hm : 1 < tm) (ho : tm % 2 = 1) (hp : 0 < prec) (htb : tb = Builtin.Int.intBits tm) (hp2 : prec ≤ 1000) (htb2 : tb ≤ 1000) (hts : ts = 0 ∨ ts = 1) :
    Con w 206 4 news [.ref 86, .ref r, .int prec t₅, .str "n" t₆] (RetT news ts (qM tm tb prec) (qE tm tb prec - te) (qB tm tb prec)) := by
  unfold Con; k_fill
  intro loose mean mg mb dp un gd cn cs a ccd cl outer A₀ base h₀ L m s Q E B F X N T hk hdp hu hret; walk_at "bg enter"
  have f3 : Builtin.Int.intBits 1 = 1 := rfl
  have fx : Builtin.bitXor 0 ts = ts := by rcases hts with h | h <;> subst h <;> decide
  have hpy : Builtin.divisionGoesByPylong (1 * 2 ^ (prec - 1 + tb + 5).toNat) tm = false := noPy (k := 1000) (Nat.le_trans (Nat.le_of_lt (natAbs_lt_pow_bits tm)) (Nat.pow_le_pow_right (by decide) (by omega))) (by decide)
  have frem := PySem.Flt.Hid.mk (odd_not_dvd hm ho (prec - 1 + tb + 5).toNat)
  have fM : dM tm (prec - 1 + tb + 5) = (1 * (2:Int) ^ (prec - 1 + tb + 5).toNat).fdiv tm * 2 ^ (1:Int).toNat + 1 := rfl
  obtain ⟨g1, g2, g3⟩ := div_same hm ho hp
  have hbt : ((bl tm : Nat) : Int) = tb := htb.symm
  rw [hbt] at g1 g2 g3
  have h1 : qM tm tb prec = nM (dM tm (prec + tb + 5)) prec := if_neg (by omega)
  have h2 : qE tm tb prec = nE (dM tm (prec + tb + 5)) prec - (prec + tb + 5 + 1) := if_neg (by omega)
  have h3 : qB tm tb prec = nB (dM tm (prec + tb + 5)) prec := if_neg (by omega)
  have hd := dM_eq tm (prec - 1 + tb + 5) (by omega)
  have hq0 : 0 ≤ (2:Int) ^ (prec - 1 + tb + 5).toNat / tm := Int.ediv_nonneg (Int.le_of_lt (two_pow_pos _)) (by omega)
  have hpos : 0 < (1 * (2:Int) ^ (prec - 1 + tb + 5).toNat).fdiv tm * 2 ^ (1:Int).toNat + 1 := by rw [← fM, hd]; omega
  have hdb := (dq_bounds hm ho (P := (prec - 1 + 5).toNat) (j := (prec - 1 + tb + 5).toNat) (by show _ = _ + Builtin.Int.intBits tm; omega)).2
  have hbits : (Builtin.Int.intBits ((1 * (2:Int) ^ (prec - 1 + tb + 5).toNat).fdiv tm * 2 ^ (1:Int).toNat + 1) : Int) ≤ 100000 := by
    have : bl ((1 * (2:Int) ^ (prec - 1 + tb + 5).toNat).fdiv tm * 2 ^ (1:Int).toNat + 1) ≤ (prec - 1 + 5).toNat + 1 + 1 := by
      refine bl_le_of_lt (by omega) ?_
      rw [← fM, hd, Int.pow_succ]
      omega
    have h' : Builtin.Int.intBits ((1 * (2:Int) ^ (prec - 1 + tb + 5).toNat).fdiv tm * 2 ^ (1:Int).toNat + 1) ≤ (prec - 1 + 5).toNat + 1 + 1 := this
    omega
  have hb27 : (Builtin.Int.intBits ((1 * (2:Int) ^ (prec - 1 + tb + 5).toNat).fdiv tm) : Int) + 1 ≤ 2 ^ 27 := by
    have : bl ((1 * (2:Int) ^ (prec - 1 + tb + 5).toNat).fdiv tm) ≤ (prec - 1 + 5).toNat + 1 := by
      rw [Int.one_mul, fdiv_pos_eq (by omega)]
      exact bl_le_of_lt hq0 hdb
    have h' : Builtin.Int.intBits ((1 * (2:Int) ^ (prec - 1 + tb + 5).toNat).fdiv tm) ≤ (prec - 1 + 5).toNat + 1 := this
    omega
  rw [fM] at g1 g2 g3
  clear hd hq0 hdb fM hbt
  walk_at "bg walk"
  all_goals first | exact endT hret (by k_asm) (by walk_at "bg led1") (by walk_at "bg lt") ⟨fx, by omega, by omega, by omega⟩ | trace_state
theorem c_rdiv1 (w : World) (news : Led) (r : Addr) (ts tm te tb prec : Int) (t₁ t₂ t₃ t₄ t₅ t₆ t₇ : Tok) (hr : (r, T4 (.int ts t₁) (.int tm t₂) (.int te t₃) (.int tb t₄)) ∈ news) (hm : tm = 1) (hp : 0 < prec) (htb : tb = 1) (hp2 : prec ≤ 1000) :
    Con w 214 4 news [.int 1 t₇, .ref r, .int prec t₅, .str "n" t₆] (RetT news ts (qM tm tb prec) (qE tm tb prec - te) (qB tm tb prec)) := by
  unfold Con; k_fill
  intro loose mean mg mb dp un gd cn cs a ccd cl outer A₀ base h₀ L m s Q E B F X N T hk hdp hu hret; walk_at "bg enter"
  have f3 : Builtin.Int.intBits 1 = 1 := rfl
  have hpy : Builtin.divisionGoesByPylong (1 * 2 ^ (prec + tb + 5).toNat) tm = false := noPy (k := 1) (by omega) (by decide)
  have e0 : (1 * (2:Int) ^ (prec + tb + 5).toNat).fdiv tm = 2 ^ (prec + tb + 5).toNat := by rw [hm, Int.one_mul, fdiv_pos_eq (by decide), Int.ediv_one]
  have e1 : PySem.Flt.Hid ((1 * (2:Int) ^ (prec + tb + 5).toNat).fmod tm = 0) := ⟨by rw [hm, Int.fmod_eq_emod_of_nonneg _ (by decide), Int.emod_one]⟩
  obtain ⟨g1, g2, g3⟩ := nM_pow (k := (prec + tb + 5).toNat) hp (by omega)
  rw [← e0] at g1 g2 g3
  have h1 : qM tm tb prec = 1 := if_pos hm
  have h2 : qE tm tb prec = 0 := if_pos hm
  have h3 : qB tm tb prec = 1 := if_pos hm
  have hpos : 0 < (1 * (2:Int) ^ (prec + tb + 5).toNat).fdiv tm := by rw [e0]; exact two_pow_pos _
  have hbits : (Builtin.Int.intBits ((1 * (2:Int) ^ (prec + tb + 5).toNat).fdiv tm) : Int) ≤ 100000 := by rw [e0, intBits_two_pow]; omega
  clear e0
  walk_at "bg walk"
  all_goals first | exact endT hret (by k_asm) (by walk_at "bg led1") (by walk_at "bg lt") ⟨rfl, by omega, by omega, by omega⟩ | trace_state
theorem c_rdiv (w : World) (news : Led) (r : Addr) (ts tm te tb prec : Int) (t₁ t₂ t₃ t₄ t₅ t₆ t₇ : Tok) (hr : (r, T4 (.int ts t₁) (.int tm t₂) (.int te t₃) (.int tb t₄)) ∈ news) (hm : 1 < tm) (ho : tm % 2 = 1) (hp : 0 < prec) (htb : tb = Builtin.Int.intBits tm) (hp2 : prec ≤ 1000) (htb2 : tb ≤ 1000) :
    Con w 214 4 news [.int 1 t₇, .ref r, .int prec t₅, .str "n" t₆] (RetT news ts (qM tm tb prec) (qE tm tb prec - te) (qB tm tb prec)) := by
  unfold Con; k_fill
  intro loose mean mg mb dp un gd cn cs a ccd cl outer A₀ base h₀ L m s Q E B F X N T hk hdp hu hret; walk_at "bg enter"
  have f3 : Builtin.Int.intBits 1 = 1 := rfl
  have hpy : Builtin.divisionGoesByPylong (1 * 2 ^ (prec + tb + 5).toNat) tm = false := noPy (k := 1000) (Nat.le_trans (Nat.le_of_lt (natAbs_lt_pow_bits tm)) (Nat.pow_le_pow_right (by decide) (by omega))) (by decide)
  have frem := PySem.Flt.Hid.mk (odd_not_dvd hm ho (prec + tb + 5).toNat)
  have fM : dM tm (prec + tb + 5) = (1 * (2:Int) ^ (prec + tb + 5).toNat).fdiv tm * 2 ^ (1:Int).toNat + 1 := rfl
  have h1 : qM tm tb prec = nM (dM tm (prec + tb + 5)) prec := if_neg (by omega)
  have h2 : qE tm tb prec = nE (dM tm (prec + tb + 5)) prec - (prec + tb + 5 + 1) := if_neg (by omega)
  have h3 : qB tm tb prec = nB (dM tm (prec + tb + 5)) prec := if_neg (by omega)
  have hd := dM_eq tm (prec + tb + 5) (by omega)
  have hq0 : 0 ≤ (2:Int) ^ (prec + tb + 5).toNat / tm := Int.ediv_nonneg (Int.le_of_lt (two_pow_pos _)) (by omega)
  have hpos : 0 < (1 * (2:Int) ^ (prec + tb + 5).toNat).fdiv tm * 2 ^ (1:Int).toNat + 1 := by rw [← fM, hd]; omega
  have hdb := (dq_bounds hm ho (P := (prec + 5).toNat) (j := (prec + tb + 5).toNat) (by show _ = _ + Builtin.Int.intBits tm; omega)).2
  have hbits : (Builtin.Int.intBits ((1 * (2:Int) ^ (prec + tb + 5).toNat).fdiv tm * 2 ^ (1:Int).toNat + 1) : Int) ≤ 100000 := by
    have : bl ((1 * (2:Int) ^ (prec + tb + 5).toNat).fdiv tm * 2 ^ (1:Int).toNat + 1) ≤ (prec + 5).toNat + 1 + 1 := by
      refine bl_le_of_lt (by omega) ?_
      rw [← fM, hd, Int.pow_succ]
      omega
    have h' : Builtin.Int.intBits ((1 * (2:Int) ^ (prec + tb + 5).toNat).fdiv tm * 2 ^ (1:Int).toNat + 1) ≤ (prec + 5).toNat + 1 + 1 := this
    omega
  have hb27 : (Builtin.Int.intBits ((1 * (2:Int) ^ (prec + tb + 5).toNat).fdiv tm) : Int) + 1 ≤ 2 ^ 27 := by
    have : bl ((1 * (2:Int) ^ (prec + tb + 5).toNat).fdiv tm) ≤ (prec + 5).toNat + 1 := by
      rw [Int.one_mul, fdiv_pos_eq (by omega)]
      exact bl_le_of_lt hq0 hdb
    have h' : Builtin.Int.intBits ((1 * (2:Int) ^ (prec + tb + 5).toNat).fdiv tm) ≤ (prec + 5).toNat + 1 := this
    omega
  rw [fM] at h1 h2 h3
  clear hd hq0 hdb fM
  walk_at "bg walk"
  all_goals first | exact endT hret (by k_asm) (by walk_at "bg led1") (by walk_at "bg lt") ⟨rfl, by omega, by omega, by omega⟩ | trace_state
end
local macro_rules | `(tactic| walk_at "bg none") => `(tactic| skip)
local macro_rules | `(tactic| walk_at "bg none") => `(tactic| skip)
local macro_rules | `(tactic| walk_at "bg none") => `(tactic| skip)
section
set_option maxRecDepth 100000
set_option maxHeartbeats 2000000
theorem c_sqrtrem' (w : World) (news : Led) (x : Int) (tx : Tok) (h0 : 0 < x) (hb : (Builtin.Int.intBits x : Int) ≤ 10000) :
    Con w 57 2 news [.int x tx] (RetP news (sq x) (x - sq x * sq x)) :=
  c_sqrtrem w news x (sq x) tx h0 hb (sq_nonneg x) (sq_le (by omega)) (lt_sq (by omega))
theorem c_sqrt_fixed' (w : World) (news : Led) (x n : Int) (tx tn : Tok) (h0 : 0 < x) (hn : 0 ≤ n) (hb : (Builtin.Int.intBits x : Int) + n ≤ 10000) :
    Con w 71 4 news [.int x tx, .int n tn] (RetI news (sq (x * 2 ^ n.toNat))) := by
  have h : 0 < x * 2 ^ n.toNat := Int.mul_pos h0 (two_pow_pos _)
  exact c_sqrt_fixed w news x n (sq (x * 2 ^ n.toNat)) tx tn h0 hn hb (sq_nonneg _) (sq_le (by omega)) (lt_sq (by omega))
local macro_rules | `(tactic| walk_at "call ref") => `(tactic| (k_here; (with_reducible show wpAny _ _ (call (Value.ref 57) _) _ _ _); k_dflt (refine' Con.use (c_sqrtrem' _ _ _ _ ?p0 ?p1) ?k1 ?k2 ?k3 ?k4 ?k5 ?k6 ?k7 ?k8 ?_; (case k1 => k_asm); (case k2 => k_asm); (case k3 => k_asm); (case k4 => k_asm); (case k5 => k_asm); (case k6 => first | exact rfl | assumption); (case k7 => first | exact bg_room (by assumption) (by decide) | ktr_room); (case k8 => first | exact bg_units (by assumption) (by decide) | ktr_units); (case p0 => first | with_reducible assumption | with_reducible exact rfl | k_mem | walk_at "bg side"); (case p1 => first | with_reducible assumption | with_reducible exact rfl | k_mem | walk_at "bg side"); intro r' t1' t2' h' tk' F' N' l1; (try k_lt l1); (try dsimp only [T2] at N')); (try dsimp only); (try k_fold); (try k_sweep)))
local macro_rules | `(tactic| walk_at "call ref") => `(tactic| (k_here; (with_reducible show wpAny _ _ (call (Value.ref 116) _) _ _ _); k_dflt (refine' Con.use (c_fme4 _ _ _ _ _ _ _ _ _ ?p0 ?p1 ?p2) ?k1 ?k2 ?k3 ?k4 ?k5 ?k6 ?k7 ?k8 ?_; (case k1 => k_asm); (case k2 => k_asm); (case k3 => k_asm); (case k4 => k_asm); (case k5 => k_asm); (case k6 => first | exact rfl | assumption); (case k7 => first | exact bg_room (by assumption) (by decide) | ktr_room); (case k8 => first | exact bg_units (by assumption) (by decide) | ktr_units); (case p0 => first | with_reducible assumption | with_reducible exact rfl | k_mem | walk_at "bg side"); (case p1 => first | with_reducible assumption | with_reducible exact rfl | k_mem | walk_at "bg side"); (case p2 => first | with_reducible assumption | with_reducible exact rfl | k_mem | walk_at "bg side"); intro r' t1' t2' t3' t4' h' tk' F' N' l1; (try k_lt l1); (try dsimp only [T4] at N')); (try dsimp only); (try k_fold); (try k_sweep)))
local macro_rules | `(tactic| walk_at "call ref") => `(tactic| (k_here; (with_reducible show wpAny _ _ (call (Value.ref 108) _) _ _ _); k_dflt (refine' Con.use (c_normalize _ _ _ _ _ _ _ _ _ _ _ _ _ _ ?p0 ?p1 ?p2 ?p3 ?p4) ?k1 ?k2 ?k3 ?k4 ?k5 ?k6 ?k7 ?k8 ?_; (case k1 => k_asm); (case k2 => k_asm); (case k3 => k_asm); (case k4 => k_asm); (case k5 => k_asm); (case k6 => first | exact rfl | assumption); (case k7 => first | exact bg_room (by assumption) (by decide) | ktr_room); (case k8 => first | exact bg_units (by assumption) (by decide) | ktr_units); (case p0 => first | with_reducible assumption | with_reducible exact rfl | k_mem | walk_at "bg side"); (case p1 => first | with_reducible assumption | with_reducible exact rfl | k_mem | walk_at "bg side"); (case p2 => first | with_reducible assumption | with_reducible exact rfl | k_mem | walk_at "bg side"); (case p3 => first | with_reducible assumption | with_reducible exact rfl | k_mem | walk_at "bg side"); (case p4 => first | with_reducible assumption | with_reducible exact rfl | k_mem | walk_at "bg side"); intro r' t1' t2' t3' t4' h' tk' F' N' l1; (try k_lt l1); (try dsimp only [T4] at N')); (try dsimp only); (try k_fold); (try k_sweep)))
theorem c_msqrt_o (w : World) (news : Led) (r : Addr) (man exp bc prec : Int) (t₁ t₂ t₃ t₄ t₅ t₆ : Tok) (hr : (r, T4 (.int 0 t₁) (.int man t₂) (.int exp t₃) (.int bc t₄)) ∈ news) (hm : 0 < man) (hp : 0 < prec) (hp2 : prec ≤ 1000) (hbc : bc = Builtin.Int.intBits man) (hb2 : bc ≤ 1000) (hodd : exp % 2 = 1) :
    Con w 222 5 news [.ref r, .int prec t₅, .str "n" t₆] (RetT news 0 (rM (man * 2 ^ (1:Int).toNat) (bc + 1) prec) (rE (man * 2 ^ (1:Int).toNat) (bc + 1) prec (exp - 1)) (rB (man * 2 ^ (1:Int).toNat) (bc + 1) prec)) := by
  unfold Con; k_fill
  intro loose mean mg mb dp un gd cn cs a ccd cl outer A₀ base h₀ L m s Q E B F X N T hk hdp hu hret; walk_at "bg enter"
  have b1 : Builtin.bitAnd exp 1 = 1 := by rw [band_one', hodd]
  obtain ⟨s1, s2, s3, s4⟩ := sS_even ((bc + 1)) prec
  have sd : sS ((bc + 1)) prec = ((if 2 * prec - (bc + 1) + 4 > 4 then 2 * prec - (bc + 1) + 4 else 4) + Builtin.bitAnd (if 2 * prec - (bc + 1) + 4 > 4 then 2 * prec - (bc + 1) + 4 else 4) 1) := rfl
  have hb1 : 1 ≤ bc := by have : 1 ≤ Builtin.Int.intBits man := bl_pos hm; omega
  have hfd : (Builtin.Str.occurrences (Str.ofString "fd") (Str.ofString "n") 0 (Str.ofString "fd").length 1).isEmpty = true := by decide +kernel
  rw [sd] at s2 s3 s4
  have hmb : (Builtin.Int.intBits ((man * 2 ^ (1:Int).toNat)) : Int) ≤ bc + 1 := by have := bits_shl man ((1:Int).toNat); have e : (1:Int).toNat = 1 := rfl; omega
  have f1 : 0 ≤ ((if 2 * prec - (bc + 1) + 4 > 4 then 2 * prec - (bc + 1) + 4 else 4) + Builtin.bitAnd (if 2 * prec - (bc + 1) + 4 > 4 then 2 * prec - (bc + 1) + 4 else 4) 1) := by omega
  have f2 : (Builtin.Int.intBits ((man * 2 ^ (1:Int).toNat)) : Int) + ((if 2 * prec - (bc + 1) + 4 > 4 then 2 * prec - (bc + 1) + 4 else 4) + Builtin.bitAnd (if 2 * prec - (bc + 1) + 4 > 4 then 2 * prec - (bc + 1) + 4 else 4) 1) ≤ 2 ^ 27 := by omega
  have f3 : 0 < ((man * 2 ^ (1:Int).toNat) * 2 ^ ((if 2 * prec - (bc + 1) + 4 > 4 then 2 * prec - (bc + 1) + 4 else 4) + Builtin.bitAnd (if 2 * prec - (bc + 1) + 4 > 4 then 2 * prec - (bc + 1) + 4 else 4) 1).toNat) := Int.mul_pos (Int.mul_pos hm (by decide)) (two_pow_pos _)
  have f4 : (Builtin.Int.intBits ((man * 2 ^ (1:Int).toNat) * 2 ^ ((if 2 * prec - (bc + 1) + 4 > 4 then 2 * prec - (bc + 1) + 4 else 4) + Builtin.bitAnd (if 2 * prec - (bc + 1) + 4 > 4 then 2 * prec - (bc + 1) + 4 else 4) 1).toNat) : Int) ≤ 10000 := by have := bits_shl ((man * 2 ^ (1:Int).toNat)) (((if 2 * prec - (bc + 1) + 4 > 4 then 2 * prec - (bc + 1) + 4 else 4) + Builtin.bitAnd (if 2 * prec - (bc + 1) + 4 > 4 then 2 * prec - (bc + 1) + 4 else 4) 1).toNat); omega
  have g0 : 1 ≤ sq ((man * 2 ^ (1:Int).toNat) * 2 ^ ((if 2 * prec - (bc + 1) + 4 > 4 then 2 * prec - (bc + 1) + 4 else 4) + Builtin.bitAnd (if 2 * prec - (bc + 1) + 4 > 4 then 2 * prec - (bc + 1) + 4 else 4) 1).toNat) := sq_pos f3
  have g1 : sq ((man * 2 ^ (1:Int).toNat) * 2 ^ ((if 2 * prec - (bc + 1) + 4 > 4 then 2 * prec - (bc + 1) + 4 else 4) + Builtin.bitAnd (if 2 * prec - (bc + 1) + 4 > 4 then 2 * prec - (bc + 1) + 4 else 4) 1).toNat) * sq ((man * 2 ^ (1:Int).toNat) * 2 ^ ((if 2 * prec - (bc + 1) + 4 > 4 then 2 * prec - (bc + 1) + 4 else 4) + Builtin.bitAnd (if 2 * prec - (bc + 1) + 4 > 4 then 2 * prec - (bc + 1) + 4 else 4) 1).toNat) ≤ ((man * 2 ^ (1:Int).toNat) * 2 ^ ((if 2 * prec - (bc + 1) + 4 > 4 then 2 * prec - (bc + 1) + 4 else 4) + Builtin.bitAnd (if 2 * prec - (bc + 1) + 4 > 4 then 2 * prec - (bc + 1) + 4 else 4) 1).toNat) := sq_le (by omega)
  have g2 : (Builtin.Int.intBits (sq ((man * 2 ^ (1:Int).toNat) * 2 ^ ((if 2 * prec - (bc + 1) + 4 > 4 then 2 * prec - (bc + 1) + 4 else 4) + Builtin.bitAnd (if 2 * prec - (bc + 1) + 4 > 4 then 2 * prec - (bc + 1) + 4 else 4) 1).toNat)) : Int) ≤ 10000 := by have := bits_le_of (sq_nonneg ((man * 2 ^ (1:Int).toNat) * 2 ^ ((if 2 * prec - (bc + 1) + 4 > 4 then 2 * prec - (bc + 1) + 4 else 4) + Builtin.bitAnd (if 2 * prec - (bc + 1) + 4 > 4 then 2 * prec - (bc + 1) + 4 else 4) 1).toNat)) (sq_le_self (sq_nonneg ((man * 2 ^ (1:Int).toNat) * 2 ^ ((if 2 * prec - (bc + 1) + 4 > 4 then 2 * prec - (bc + 1) + 4 else 4) + Builtin.bitAnd (if 2 * prec - (bc + 1) + 4 > 4 then 2 * prec - (bc + 1) + 4 else 4) 1).toNat)) g1); omega
  rcases Classical.em (((man * 2 ^ (1:Int).toNat) * 2 ^ ((if 2 * prec - (bc + 1) + 4 > 4 then 2 * prec - (bc + 1) + 4 else 4) + Builtin.bitAnd (if 2 * prec - (bc + 1) + 4 > 4 then 2 * prec - (bc + 1) + 4 else 4) 1).toNat) - sq ((man * 2 ^ (1:Int).toNat) * 2 ^ ((if 2 * prec - (bc + 1) + 4 > 4 then 2 * prec - (bc + 1) + 4 else 4) + Builtin.bitAnd (if 2 * prec - (bc + 1) + 4 > 4 then 2 * prec - (bc + 1) + 4 else 4) 1).toNat) * sq ((man * 2 ^ (1:Int).toNat) * 2 ^ ((if 2 * prec - (bc + 1) + 4 > 4 then 2 * prec - (bc + 1) + 4 else 4) + Builtin.bitAnd (if 2 * prec - (bc + 1) + 4 > 4 then 2 * prec - (bc + 1) + 4 else 4) 1).toNat) = 0) with hz | hz
  · have hQ : sQ ((man * 2 ^ (1:Int).toNat)) ((bc + 1)) prec = sq ((man * 2 ^ (1:Int).toNat) * 2 ^ ((if 2 * prec - (bc + 1) + 4 > 4 then 2 * prec - (bc + 1) + 4 else 4) + Builtin.bitAnd (if 2 * prec - (bc + 1) + 4 > 4 then 2 * prec - (bc + 1) + 4 else 4) 1).toNat) := if_neg (fun q => q hz)
    have hH : sH ((man * 2 ^ (1:Int).toNat)) ((bc + 1)) prec = ((if 2 * prec - (bc + 1) + 4 > 4 then 2 * prec - (bc + 1) + 4 else 4) + Builtin.bitAnd (if 2 * prec - (bc + 1) + 4 > 4 then 2 * prec - (bc + 1) + 4 else 4) 1) := if_neg (fun q => q hz)
    have k1 : 0 < sq ((man * 2 ^ (1:Int).toNat) * 2 ^ ((if 2 * prec - (bc + 1) + 4 > 4 then 2 * prec - (bc + 1) + 4 else 4) + Builtin.bitAnd (if 2 * prec - (bc + 1) + 4 > 4 then 2 * prec - (bc + 1) + 4 else 4) 1).toNat) := by omega
    have k2 : (Builtin.Int.intBits (sq ((man * 2 ^ (1:Int).toNat) * 2 ^ ((if 2 * prec - (bc + 1) + 4 > 4 then 2 * prec - (bc + 1) + 4 else 4) + Builtin.bitAnd (if 2 * prec - (bc + 1) + 4 > 4 then 2 * prec - (bc + 1) + 4 else 4) 1).toNat)) : Int) ≤ 100000 := by omega
    have hM : rM ((man * 2 ^ (1:Int).toNat)) ((bc + 1)) prec = nM (sq ((man * 2 ^ (1:Int).toNat) * 2 ^ ((if 2 * prec - (bc + 1) + 4 > 4 then 2 * prec - (bc + 1) + 4 else 4) + Builtin.bitAnd (if 2 * prec - (bc + 1) + 4 > 4 then 2 * prec - (bc + 1) + 4 else 4) 1).toNat)) prec := by unfold rM; rw [hQ]
    have hE : rE ((man * 2 ^ (1:Int).toNat)) ((bc + 1)) prec (exp - 1) = (exp - 1 - ((if 2 * prec - (bc + 1) + 4 > 4 then 2 * prec - (bc + 1) + 4 else 4) + Builtin.bitAnd (if 2 * prec - (bc + 1) + 4 > 4 then 2 * prec - (bc + 1) + 4 else 4) 1)).fdiv (2:Int) + nE (sq ((man * 2 ^ (1:Int).toNat) * 2 ^ ((if 2 * prec - (bc + 1) + 4 > 4 then 2 * prec - (bc + 1) + 4 else 4) + Builtin.bitAnd (if 2 * prec - (bc + 1) + 4 > 4 then 2 * prec - (bc + 1) + 4 else 4) 1).toNat)) prec := by unfold rE; rw [hQ, hH]
    have hB : rB ((man * 2 ^ (1:Int).toNat)) ((bc + 1)) prec = nB (sq ((man * 2 ^ (1:Int).toNat) * 2 ^ ((if 2 * prec - (bc + 1) + 4 > 4 then 2 * prec - (bc + 1) + 4 else 4) + Builtin.bitAnd (if 2 * prec - (bc + 1) + 4 > 4 then 2 * prec - (bc + 1) + 4 else 4) 1).toNat)) prec := by unfold rB; rw [hQ]
    replace hz := PySem.Flt.Hid.mk hz
    clear hQ hH s2 s3 s4 sd
    walk_at "bg walk"
    all_goals first | exact endT hret (by k_asm) (by walk_at "bg led1") (by walk_at "bg lt") ⟨rfl, hM.symm, hE.symm, hB.symm⟩ | trace_state
  · have hQ : sQ ((man * 2 ^ (1:Int).toNat)) ((bc + 1)) prec = sq ((man * 2 ^ (1:Int).toNat) * 2 ^ ((if 2 * prec - (bc + 1) + 4 > 4 then 2 * prec - (bc + 1) + 4 else 4) + Builtin.bitAnd (if 2 * prec - (bc + 1) + 4 > 4 then 2 * prec - (bc + 1) + 4 else 4) 1).toNat) * 2 ^ (1:Int).toNat + 1 := if_pos hz
    have hH : sH ((man * 2 ^ (1:Int).toNat)) ((bc + 1)) prec = ((if 2 * prec - (bc + 1) + 4 > 4 then 2 * prec - (bc + 1) + 4 else 4) + Builtin.bitAnd (if 2 * prec - (bc + 1) + 4 > 4 then 2 * prec - (bc + 1) + 4 else 4) 1) + 2 := if_pos hz
    have k1 : 0 < sq ((man * 2 ^ (1:Int).toNat) * 2 ^ ((if 2 * prec - (bc + 1) + 4 > 4 then 2 * prec - (bc + 1) + 4 else 4) + Builtin.bitAnd (if 2 * prec - (bc + 1) + 4 > 4 then 2 * prec - (bc + 1) + 4 else 4) 1).toNat) * 2 ^ (1:Int).toNat + 1 := by have := Int.mul_nonneg (sq_nonneg ((man * 2 ^ (1:Int).toNat) * 2 ^ ((if 2 * prec - (bc + 1) + 4 > 4 then 2 * prec - (bc + 1) + 4 else 4) + Builtin.bitAnd (if 2 * prec - (bc + 1) + 4 > 4 then 2 * prec - (bc + 1) + 4 else 4) 1).toNat)) (show (0:Int) ≤ 2 ^ (1:Int).toNat by decide); omega
    have k3 : (Builtin.Int.intBits (sq ((man * 2 ^ (1:Int).toNat) * 2 ^ ((if 2 * prec - (bc + 1) + 4 > 4 then 2 * prec - (bc + 1) + 4 else 4) + Builtin.bitAnd (if 2 * prec - (bc + 1) + 4 > 4 then 2 * prec - (bc + 1) + 4 else 4) 1).toNat)) : Int) + 1 ≤ 2 ^ 27 := by omega
    have k2 : (Builtin.Int.intBits (sq ((man * 2 ^ (1:Int).toNat) * 2 ^ ((if 2 * prec - (bc + 1) + 4 > 4 then 2 * prec - (bc + 1) + 4 else 4) + Builtin.bitAnd (if 2 * prec - (bc + 1) + 4 > 4 then 2 * prec - (bc + 1) + 4 else 4) 1).toNat) * 2 ^ (1:Int).toNat + 1) : Int) ≤ 100000 := by
      have q1 := bits_shl (sq ((man * 2 ^ (1:Int).toNat) * 2 ^ ((if 2 * prec - (bc + 1) + 4 > 4 then 2 * prec - (bc + 1) + 4 else 4) + Builtin.bitAnd (if 2 * prec - (bc + 1) + 4 > 4 then 2 * prec - (bc + 1) + 4 else 4) 1).toNat)) ((1:Int).toNat)
      have q2 := bits_add q1 (Nat.le_refl (Builtin.Int.intBits 1))
      have e1 : Builtin.Int.intBits 1 = 1 := rfl
      have e : (1:Int).toNat = 1 := rfl
      omega
    have hM : rM ((man * 2 ^ (1:Int).toNat)) ((bc + 1)) prec = nM (sq ((man * 2 ^ (1:Int).toNat) * 2 ^ ((if 2 * prec - (bc + 1) + 4 > 4 then 2 * prec - (bc + 1) + 4 else 4) + Builtin.bitAnd (if 2 * prec - (bc + 1) + 4 > 4 then 2 * prec - (bc + 1) + 4 else 4) 1).toNat) * 2 ^ (1:Int).toNat + 1) prec := by unfold rM; rw [hQ]
    have hE : rE ((man * 2 ^ (1:Int).toNat)) ((bc + 1)) prec (exp - 1) = (exp - 1 - (((if 2 * prec - (bc + 1) + 4 > 4 then 2 * prec - (bc + 1) + 4 else 4) + Builtin.bitAnd (if 2 * prec - (bc + 1) + 4 > 4 then 2 * prec - (bc + 1) + 4 else 4) 1) + 2)).fdiv (2:Int) + nE (sq ((man * 2 ^ (1:Int).toNat) * 2 ^ ((if 2 * prec - (bc + 1) + 4 > 4 then 2 * prec - (bc + 1) + 4 else 4) + Builtin.bitAnd (if 2 * prec - (bc + 1) + 4 > 4 then 2 * prec - (bc + 1) + 4 else 4) 1).toNat) * 2 ^ (1:Int).toNat + 1) prec := by unfold rE; rw [hQ, hH]
    have hB : rB ((man * 2 ^ (1:Int).toNat)) ((bc + 1)) prec = nB (sq ((man * 2 ^ (1:Int).toNat) * 2 ^ ((if 2 * prec - (bc + 1) + 4 > 4 then 2 * prec - (bc + 1) + 4 else 4) + Builtin.bitAnd (if 2 * prec - (bc + 1) + 4 > 4 then 2 * prec - (bc + 1) + 4 else 4) 1).toNat) * 2 ^ (1:Int).toNat + 1) prec := by unfold rB; rw [hQ]
    replace hz := PySem.Flt.Hid.mk hz
    clear hQ hH s2 s3 s4 sd
    walk_at "bg walk"
    all_goals first | exact endT hret (by k_asm) (by walk_at "bg led1") (by walk_at "bg lt") ⟨rfl, hM.symm, hE.symm, hB.symm⟩ | trace_state
theorem c_msqrt_e (w : World) (news : Led) (r : Addr) (man exp bc prec : Int) (t₁ t₂ t₃ t₄ t₅ t₆ : Tok) (hr : (r, T4 (.int 0 t₁) (.int man t₂) (.int exp t₃) (.int bc t₄)) ∈ news) (hm : 0 < man) (hp : 0 < prec) (hp2 : prec ≤ 1000) (hbc : bc = Builtin.Int.intBits man) (hb2 : bc ≤ 1000) (hodd : exp % 2 = 0) (h1 : man ≠ 1) :
    Con w 222 5 news [.ref r, .int prec t₅, .str "n" t₆] (RetT news 0 (rM man bc prec) (rE man bc prec (exp)) (rB man bc prec)) := by
  unfold Con; k_fill
  intro loose mean mg mb dp un gd cn cs a ccd cl outer A₀ base h₀ L m s Q E B F X N T hk hdp hu hret; walk_at "bg enter"
  have b1 : Builtin.bitAnd exp 1 = 0 := by rw [band_one', hodd]
  obtain ⟨s1, s2, s3, s4⟩ := sS_even (bc) prec
  have sd : sS (bc) prec = ((if 2 * prec - bc + 4 > 4 then 2 * prec - bc + 4 else 4) + Builtin.bitAnd (if 2 * prec - bc + 4 > 4 then 2 * prec - bc + 4 else 4) 1) := rfl
  have hb1 : 1 ≤ bc := by have : 1 ≤ Builtin.Int.intBits man := bl_pos hm; omega
  have hfd : (Builtin.Str.occurrences (Str.ofString "fd") (Str.ofString "n") 0 (Str.ofString "fd").length 1).isEmpty = true := by decide +kernel
  rw [sd] at s2 s3 s4
  have hmb : (Builtin.Int.intBits (man) : Int) ≤ bc + 1 := by have := bits_shl man ((1:Int).toNat); have e : (1:Int).toNat = 1 := rfl; omega
  have f1 : 0 ≤ ((if 2 * prec - bc + 4 > 4 then 2 * prec - bc + 4 else 4) + Builtin.bitAnd (if 2 * prec - bc + 4 > 4 then 2 * prec - bc + 4 else 4) 1) := by omega
  have f2 : (Builtin.Int.intBits (man) : Int) + ((if 2 * prec - bc + 4 > 4 then 2 * prec - bc + 4 else 4) + Builtin.bitAnd (if 2 * prec - bc + 4 > 4 then 2 * prec - bc + 4 else 4) 1) ≤ 2 ^ 27 := by omega
  have f3 : 0 < (man * 2 ^ ((if 2 * prec - bc + 4 > 4 then 2 * prec - bc + 4 else 4) + Builtin.bitAnd (if 2 * prec - bc + 4 > 4 then 2 * prec - bc + 4 else 4) 1).toNat) := Int.mul_pos hm (two_pow_pos _)
  have f4 : (Builtin.Int.intBits (man * 2 ^ ((if 2 * prec - bc + 4 > 4 then 2 * prec - bc + 4 else 4) + Builtin.bitAnd (if 2 * prec - bc + 4 > 4 then 2 * prec - bc + 4 else 4) 1).toNat) : Int) ≤ 10000 := by have := bits_shl (man) (((if 2 * prec - bc + 4 > 4 then 2 * prec - bc + 4 else 4) + Builtin.bitAnd (if 2 * prec - bc + 4 > 4 then 2 * prec - bc + 4 else 4) 1).toNat); omega
  have g0 : 1 ≤ sq (man * 2 ^ ((if 2 * prec - bc + 4 > 4 then 2 * prec - bc + 4 else 4) + Builtin.bitAnd (if 2 * prec - bc + 4 > 4 then 2 * prec - bc + 4 else 4) 1).toNat) := sq_pos f3
  have g1 : sq (man * 2 ^ ((if 2 * prec - bc + 4 > 4 then 2 * prec - bc + 4 else 4) + Builtin.bitAnd (if 2 * prec - bc + 4 > 4 then 2 * prec - bc + 4 else 4) 1).toNat) * sq (man * 2 ^ ((if 2 * prec - bc + 4 > 4 then 2 * prec - bc + 4 else 4) + Builtin.bitAnd (if 2 * prec - bc + 4 > 4 then 2 * prec - bc + 4 else 4) 1).toNat) ≤ (man * 2 ^ ((if 2 * prec - bc + 4 > 4 then 2 * prec - bc + 4 else 4) + Builtin.bitAnd (if 2 * prec - bc + 4 > 4 then 2 * prec - bc + 4 else 4) 1).toNat) := sq_le (by omega)
  have g2 : (Builtin.Int.intBits (sq (man * 2 ^ ((if 2 * prec - bc + 4 > 4 then 2 * prec - bc + 4 else 4) + Builtin.bitAnd (if 2 * prec - bc + 4 > 4 then 2 * prec - bc + 4 else 4) 1).toNat)) : Int) ≤ 10000 := by have := bits_le_of (sq_nonneg (man * 2 ^ ((if 2 * prec - bc + 4 > 4 then 2 * prec - bc + 4 else 4) + Builtin.bitAnd (if 2 * prec - bc + 4 > 4 then 2 * prec - bc + 4 else 4) 1).toNat)) (sq_le_self (sq_nonneg (man * 2 ^ ((if 2 * prec - bc + 4 > 4 then 2 * prec - bc + 4 else 4) + Builtin.bitAnd (if 2 * prec - bc + 4 > 4 then 2 * prec - bc + 4 else 4) 1).toNat)) g1); omega
  rcases Classical.em ((man * 2 ^ ((if 2 * prec - bc + 4 > 4 then 2 * prec - bc + 4 else 4) + Builtin.bitAnd (if 2 * prec - bc + 4 > 4 then 2 * prec - bc + 4 else 4) 1).toNat) - sq (man * 2 ^ ((if 2 * prec - bc + 4 > 4 then 2 * prec - bc + 4 else 4) + Builtin.bitAnd (if 2 * prec - bc + 4 > 4 then 2 * prec - bc + 4 else 4) 1).toNat) * sq (man * 2 ^ ((if 2 * prec - bc + 4 > 4 then 2 * prec - bc + 4 else 4) + Builtin.bitAnd (if 2 * prec - bc + 4 > 4 then 2 * prec - bc + 4 else 4) 1).toNat) = 0) with hz | hz
  · have hQ : sQ (man) (bc) prec = sq (man * 2 ^ ((if 2 * prec - bc + 4 > 4 then 2 * prec - bc + 4 else 4) + Builtin.bitAnd (if 2 * prec - bc + 4 > 4 then 2 * prec - bc + 4 else 4) 1).toNat) := if_neg (fun q => q hz)
    have hH : sH (man) (bc) prec = ((if 2 * prec - bc + 4 > 4 then 2 * prec - bc + 4 else 4) + Builtin.bitAnd (if 2 * prec - bc + 4 > 4 then 2 * prec - bc + 4 else 4) 1) := if_neg (fun q => q hz)
    have k1 : 0 < sq (man * 2 ^ ((if 2 * prec - bc + 4 > 4 then 2 * prec - bc + 4 else 4) + Builtin.bitAnd (if 2 * prec - bc + 4 > 4 then 2 * prec - bc + 4 else 4) 1).toNat) := by omega
    have k2 : (Builtin.Int.intBits (sq (man * 2 ^ ((if 2 * prec - bc + 4 > 4 then 2 * prec - bc + 4 else 4) + Builtin.bitAnd (if 2 * prec - bc + 4 > 4 then 2 * prec - bc + 4 else 4) 1).toNat)) : Int) ≤ 100000 := by omega
    have hM : rM (man) (bc) prec = nM (sq (man * 2 ^ ((if 2 * prec - bc + 4 > 4 then 2 * prec - bc + 4 else 4) + Builtin.bitAnd (if 2 * prec - bc + 4 > 4 then 2 * prec - bc + 4 else 4) 1).toNat)) prec := by unfold rM; rw [hQ]
    have hE : rE (man) (bc) prec (exp) = (exp - ((if 2 * prec - bc + 4 > 4 then 2 * prec - bc + 4 else 4) + Builtin.bitAnd (if 2 * prec - bc + 4 > 4 then 2 * prec - bc + 4 else 4) 1)).fdiv (2:Int) + nE (sq (man * 2 ^ ((if 2 * prec - bc + 4 > 4 then 2 * prec - bc + 4 else 4) + Builtin.bitAnd (if 2 * prec - bc + 4 > 4 then 2 * prec - bc + 4 else 4) 1).toNat)) prec := by unfold rE; rw [hQ, hH]
    have hB : rB (man) (bc) prec = nB (sq (man * 2 ^ ((if 2 * prec - bc + 4 > 4 then 2 * prec - bc + 4 else 4) + Builtin.bitAnd (if 2 * prec - bc + 4 > 4 then 2 * prec - bc + 4 else 4) 1).toNat)) prec := by unfold rB; rw [hQ]
    replace hz := PySem.Flt.Hid.mk hz
    clear hQ hH s2 s3 s4 sd
    walk_at "bg walk"
    all_goals first | exact endT hret (by k_asm) (by walk_at "bg led1") (by walk_at "bg lt") ⟨rfl, hM.symm, hE.symm, hB.symm⟩ | trace_state
  · have hQ : sQ (man) (bc) prec = sq (man * 2 ^ ((if 2 * prec - bc + 4 > 4 then 2 * prec - bc + 4 else 4) + Builtin.bitAnd (if 2 * prec - bc + 4 > 4 then 2 * prec - bc + 4 else 4) 1).toNat) * 2 ^ (1:Int).toNat + 1 := if_pos hz
    have hH : sH (man) (bc) prec = ((if 2 * prec - bc + 4 > 4 then 2 * prec - bc + 4 else 4) + Builtin.bitAnd (if 2 * prec - bc + 4 > 4 then 2 * prec - bc + 4 else 4) 1) + 2 := if_pos hz
    have k1 : 0 < sq (man * 2 ^ ((if 2 * prec - bc + 4 > 4 then 2 * prec - bc + 4 else 4) + Builtin.bitAnd (if 2 * prec - bc + 4 > 4 then 2 * prec - bc + 4 else 4) 1).toNat) * 2 ^ (1:Int).toNat + 1 := by have := Int.mul_nonneg (sq_nonneg (man * 2 ^ ((if 2 * prec - bc + 4 > 4 then 2 * prec - bc + 4 else 4) + Builtin.bitAnd (if 2 * prec - bc + 4 > 4 then 2 * prec - bc + 4 else 4) 1).toNat)) (show (0:Int) ≤ 2 ^ (1:Int).toNat by decide); omega
    have k3 : (Builtin.Int.intBits (sq (man * 2 ^ ((if 2 * prec - bc + 4 > 4 then 2 * prec - bc + 4 else 4) + Builtin.bitAnd (if 2 * prec - bc + 4 > 4 then 2 * prec - bc + 4 else 4) 1).toNat)) : Int) + 1 ≤ 2 ^ 27 := by omega
    have k2 : (Builtin.Int.intBits (sq (man * 2 ^ ((if 2 * prec - bc + 4 > 4 then 2 * prec - bc + 4 else 4) + Builtin.bitAnd (if 2 * prec - bc + 4 > 4 then 2 * prec - bc + 4 else 4) 1).toNat) * 2 ^ (1:Int).toNat + 1) : Int) ≤ 100000 := by
      have q1 := bits_shl (sq (man * 2 ^ ((if 2 * prec - bc + 4 > 4 then 2 * prec - bc + 4 else 4) + Builtin.bitAnd (if 2 * prec - bc + 4 > 4 then 2 * prec - bc + 4 else 4) 1).toNat)) ((1:Int).toNat)
      have q2 := bits_add q1 (Nat.le_refl (Builtin.Int.intBits 1))
      have e1 : Builtin.Int.intBits 1 = 1 := rfl
      have e : (1:Int).toNat = 1 := rfl
      omega
    have hM : rM (man) (bc) prec = nM (sq (man * 2 ^ ((if 2 * prec - bc + 4 > 4 then 2 * prec - bc + 4 else 4) + Builtin.bitAnd (if 2 * prec - bc + 4 > 4 then 2 * prec - bc + 4 else 4) 1).toNat) * 2 ^ (1:Int).toNat + 1) prec := by unfold rM; rw [hQ]
    have hE : rE (man) (bc) prec (exp) = (exp - (((if 2 * prec - bc + 4 > 4 then 2 * prec - bc + 4 else 4) + Builtin.bitAnd (if 2 * prec - bc + 4 > 4 then 2 * prec - bc + 4 else 4) 1) + 2)).fdiv (2:Int) + nE (sq (man * 2 ^ ((if 2 * prec - bc + 4 > 4 then 2 * prec - bc + 4 else 4) + Builtin.bitAnd (if 2 * prec - bc + 4 > 4 then 2 * prec - bc + 4 else 4) 1).toNat) * 2 ^ (1:Int).toNat + 1) prec := by unfold rE; rw [hQ, hH]
    have hB : rB (man) (bc) prec = nB (sq (man * 2 ^ ((if 2 * prec - bc + 4 > 4 then 2 * prec - bc + 4 else 4) + Builtin.bitAnd (if 2 * prec - bc + 4 > 4 then 2 * prec - bc + 4 else 4) 1).toNat) * 2 ^ (1:Int).toNat + 1) prec := by unfold rB; rw [hQ]
    replace hz := PySem.Flt.Hid.mk hz
    clear hQ hH s2 s3 s4 sd
    walk_at "bg walk"
    all_goals first | exact endT hret (by k_asm) (by walk_at "bg led1") (by walk_at "bg lt") ⟨rfl, hM.symm, hE.symm, hB.symm⟩ | trace_state
theorem c_msqrt_1 (w : World) (news : Led) (r : Addr) (man exp bc prec : Int) (t₁ t₂ t₃ t₄ t₅ t₆ : Tok) (hr : (r, T4 (.int 0 t₁) (.int man t₂) (.int exp t₃) (.int bc t₄)) ∈ news) (hm : man = 1) (hp : 0 < prec) (hbc : bc = Builtin.Int.intBits man) (hodd : exp % 2 = 0) :
    Con w 222 5 news [.ref r, .int prec t₅, .str "n" t₆] (RetT news 0 1 (exp.fdiv 2) 1) := by
  unfold Con; k_fill
  intro loose mean mg mb dp un gd cn cs a ccd cl outer A₀ base h₀ L m s Q E B F X N T hk hdp hu hret; walk_at "bg enter"
  have b1 : Builtin.bitAnd exp 1 = 0 := by rw [band_one', hodd]
  obtain ⟨g1, g2, g3⟩ := nM_one hp
  subst hm
  have k2 : (Builtin.Int.intBits 1 : Int) ≤ 100000 := by have e1 : Builtin.Int.intBits 1 = 1 := rfl; omega
  walk_at "bg walk"
  all_goals first | exact endT hret (by k_asm) (by walk_at "bg led1") (by walk_at "bg lt") ⟨rfl, by omega, by omega, by omega⟩ | trace_state
end
local macro_rules | `(tactic| walk_at "bg none") => `(tactic| skip)
local macro_rules | `(tactic| walk_at "bg none") => `(tactic| skip)
local macro_rules | `(tactic| walk_at "bg none") => `(tactic| skip)
local macro_rules | `(tactic| walk_at "bg none") => `(tactic| skip)
section
set_option maxRecDepth 100000
set_option maxHeartbeats 2000000
theorem c_giant (w : World) (news : Led) (st tg n : Int) (t₁ t₂ t₃ : Tok) (hs : 8 ≤ st) (hs2 : st ≤ 16) (ht : 4 ≤ tg) (ht2 : tg ≤ 303) (hn : 2 ≤ n) (hn2 : n ≤ 4) :
    Con w 22 1 news [.int st t₁, .int tg t₂, .int n t₃] (RetL news (GS st n tg)) := by
  unfold Con; k_fill
  intro loose mean mg mb dp un gd cn cs a ccd cl outer A₀ base h₀ L m s Q E B F X N T hk hdp hu hret; walk_at "bg enter"
  walk_at "bg walk"
  · refine' While_inv2 (fun k m₁ news₁ => ∃ a us x t xs, news₁ = (a, listOf (us ++ [Value.int x t]).toArray 0) :: news ∧ (us.length : Int) + x ≤ 400 ∧ 0 < x ∧ (∀ p ∈ news, p.1 < a) ∧ IntsAre (us ++ [Value.int x t]) (x :: xs).reverse ∧ Asc st n tg (x :: xs) ∧ x.toNat ≤ k ∧
      m₁ "start" = some (.int st t₁) ∧ m₁ "n" = some (.int n t₃) ∧ m₁ "L" = some (.ref a)) ?F ?N ?hJ ?turn ?hE
    case F => k_asm
    case N => k_asm
    case hJ => exact ⟨_, [], tg, t₂, [], rfl, by show ((0:Nat):Int) + tg ≤ 400; omega, by omega, by walk_at "bg lt", .cons _ _ .nil, .one, Nat.le_refl _, rfl, rfl, rfl⟩
    case hE => first | passes_own | with_unfolding_all passes_own
    case turn =>
      rintro k m₁ news₁ h₁ tk₁ F₁ N₁ ⟨a, us, x, t, xs, rfl, hsz, hx0, hlt, hi, hA, hk, e1, e2, e3⟩
      replace F₁ := bgfix F₁ [("start", .int st t₁), ("n", .int n t₃), ("L", .ref a)] (by simp [e1, e2, e3])
      have hmul : IntMulOk st n := IntMulOk.of_left (intBits_le_64 (by omega) (by omega))
      have hz1 : us.length ≤ 400 := by omega
      walk_at "bg walk"
      · rename (st * n < x) => hgt
        have hge : 16 ≤ st * n := by
          have := Int.mul_le_mul hs hn (by decide) (by omega)
          omega
        have hd0 : 0 ≤ x.fdiv n := by rw [fdiv_pos_eq (by omega)]; exact Int.ediv_nonneg (by omega) (by omega)
        have hd2 : x.fdiv n * 2 ≤ x := by
          rw [fdiv_pos_eq (by omega)]
          have h1 := Int.mul_ediv_add_emod x n
          have h2 := Int.emod_nonneg x (show n ≠ 0 by omega)
          have h3 : 2 * (x / n) ≤ n * (x / n) := Int.mul_le_mul_of_nonneg_right hn (by rw [← fdiv_pos_eq (by omega)]; exact hd0)
          omega
        refine ⟨_, _, _, _, k - 1, rfl, by k_asm, drop2 (by assumption), by omega, _, us ++ [Value.int x t], x.fdiv n + 2, _, x :: xs, rfl, ?_, by omega, by walk_at "bg lt", ?_, .cons hA (by omega), by omega, rfl, rfl, rfl⟩
        · rw [List.length_append, List.length_singleton]; push_cast; omega
        · rw [List.reverse_cons]
          exact IntsAre.append hi (.cons _ _ .nil)
      · rename (¬ st * n < x) => hgt
        refine hret _ _ (x :: xs) _ _ (by k_asm) (drop1 (by assumption)) (by walk_at "bg lt") ?_ ⟨hA, x, xs, rfl, by omega⟩
        have := IntsAre.reverse hi
        rw [List.reverse_reverse] at this
        exact this
end
local macro_rules | `(tactic| walk_at "bg none") => `(tactic| skip)
section
set_option maxRecDepth 100000
set_option maxHeartbeats 2000000
theorem giant_apart {news : Led} {st tg n : Int} (hs : 8 ≤ st) (hn : 2 ≤ n) (ht2 : tg ≤ 303) (ht : 4 ≤ tg) {h₀ : Heap} {L : Addr} {m : Str → Option Value} {s : Shared} {Q : Value → Shared → Prop}
    (ret : RetG news tg (fun y r => Asc st n tg (y :: r) ∧ y ≤ st * n ∧ (st * n < tg → st < y ∧ r ≠ [])) h₀ L m s Q) : RetL news (GS st n tg) h₀ L m s Q := by
  rintro a vs xs h' tk' F N l hi ⟨hA, y, r, rfl, hy⟩
  obtain ⟨ys, e⟩ := asc_last hA
  obtain ⟨y', r', e', hl⟩ := asc_len hA hs hn
  injection e' with e1 e2
  subst e1 e2
  have hlen := hi.length
  obtain ⟨t₀, rest, e1, hr⟩ := IntsAre.cons_inv hi
  have hl2 := hr.length
  have hy0 : 0 ≤ y := by
    cases hA with
    | one => omega
    | @cons z r hA' hz =>
      have hp : 0 ≤ z.fdiv n := by
        have h16 : 0 ≤ st * n := Int.mul_nonneg (by omega) (by omega)
        rw [fdiv_pos_eq (by omega)]
        exact Int.ediv_nonneg (by omega) (by omega)
      omega
  rw [e] at hi
  obtain ⟨us, t₉, e9⟩ : ∃ us t₉, vs = us ++ [.int tg t₉] := by
    have h1 := IntsAre.reverse hi
    rw [List.reverse_append, List.reverse_singleton, List.singleton_append] at h1
    obtain ⟨t₉, q, e3, _⟩ := IntsAre.cons_inv h1
    refine ⟨q.reverse, t₉, ?_⟩
    have := congrArg List.reverse e3
    simpa using this
  refine ret a vs y t₀ rest r us t₉ h' tk' F N l e1 e9 hr ⟨hA, hy, fun hlt => ?_⟩ (by omega)
  cases hA with
  | one => omega
  | cons hA' hz => exact ⟨(asc_pair (.cons hA' hz) hs hn).1, by simp⟩
theorem c_giantG (w : World) (news : Led) (st tg n : Int) (t₁ t₂ t₃ : Tok) (hs : 8 ≤ st) (hs2 : st ≤ 16) (ht : 4 ≤ tg) (ht2 : tg ≤ 303) (hn : 2 ≤ n) (hn2 : n ≤ 4) :
    Con w 22 1 news [.int st t₁, .int tg t₂, .int n t₃] (RetG news tg (fun y r => Asc st n tg (y :: r) ∧ y ≤ st * n ∧ (st * n < tg → st < y ∧ r ≠ []))) :=
  (c_giant w news st tg n t₁ t₂ t₃ hs hs2 ht ht2 hn hn2).weaken fun _ _ _ _ _ ret => giant_apart hs hn ht2 ht ret
local macro_rules | `(tactic| walk_at "call ref") => `(tactic| (k_here; (with_reducible show wpAny _ _ (call (Value.ref 22) _) _ _ _); k_dflt (refine' Con.use (c_giant _ _ _ _ _ _ _ _ ?p0 ?p1 ?p2 ?p3 ?p4 ?p5) ?k1 ?k2 ?k3 ?k4 ?k5 ?k6 ?k7 ?k8 ?_; (case k1 => k_asm); (case k2 => k_asm); (case k3 => k_asm); (case k4 => k_asm); (case k5 => k_asm); (case k6 => first | exact rfl | assumption); (case k7 => first | exact bg_room (by assumption) (by decide) | ktr_room); (case k8 => first | exact bg_units (by assumption) (by decide) | ktr_units); (case p0 => first | with_reducible assumption | with_reducible exact rfl | k_mem | walk_at "bg side"); (case p1 => first | with_reducible assumption | with_reducible exact rfl | k_mem | walk_at "bg side"); (case p2 => first | with_reducible assumption | with_reducible exact rfl | k_mem | walk_at "bg side"); (case p3 => first | with_reducible assumption | with_reducible exact rfl | k_mem | walk_at "bg side"); (case p4 => first | with_reducible assumption | with_reducible exact rfl | k_mem | walk_at "bg side"); (case p5 => first | with_reducible assumption | with_reducible exact rfl | k_mem | walk_at "bg side"); intro a' vs' xs' h' tk' F' N' l1 hi' hP'; (try k_lt l1)); (try dsimp only); (try k_fold); (try k_sweep)))
theorem c_lawsteps_A (w : World) (news : Led) (st tg n : Int) (t₁ t₂ t₃ : Tok) (hs : 8 ≤ st) (hs2 : st ≤ 16) (ht : 4 ≤ tg) (ht2 : tg ≤ 303) (hn : 2 ≤ n) (hn2 : n ≤ 4) (hle : tg ≤ st * n) :
    Con w 229 2 news [.int st t₁, .int tg t₂, .int n t₃] (RetB news true) := by
  unfold Con; k_fill
  intro loose mean mg mb dp un gd cn cs a ccd cl outer A₀ base h₀ L m s Q E B F X N T hk hdp hu hret; walk_at "bg enter"
  have hmul : IntMulOk st n := IntMulOk.of_left (intBits_le_64 (by omega) (by omega))
  walk_at "bg walk"
  rename (GS _ _ _ _) => hG
  refine endB hret (decide_eq_true ?_) (by k_asm) (by walk_at "bg led")
  rcases asc_or hG.1 with h | h
  · exact h
  · omega
local macro_rules | `(tactic| walk_at "call ref") => `(tactic| (k_here; (with_reducible show wpAny _ _ (call (Value.ref 22) _) _ _ _); k_dflt (refine' Con.use (c_giantG _ _ _ _ _ _ _ _ ?p0 ?p1 ?p2 ?p3 ?p4 ?p5) ?k1 ?k2 ?k3 ?k4 ?k5 ?k6 ?k7 ?k8 ?_; (case k1 => k_asm); (case k2 => k_asm); (case k3 => k_asm); (case k4 => k_asm); (case k5 => k_asm); (case k6 => first | exact rfl | assumption); (case k7 => first | exact bg_room (by assumption) (by decide) | ktr_room); (case k8 => first | exact bg_units (by assumption) (by decide) | ktr_units); (case p0 => first | with_reducible assumption | with_reducible exact rfl | k_mem | walk_at "bg side"); (case p1 => first | with_reducible assumption | with_reducible exact rfl | k_mem | walk_at "bg side"); (case p2 => first | with_reducible assumption | with_reducible exact rfl | k_mem | walk_at "bg side"); (case p3 => first | with_reducible assumption | with_reducible exact rfl | k_mem | walk_at "bg side"); (case p4 => first | with_reducible assumption | with_reducible exact rfl | k_mem | walk_at "bg side"); (case p5 => first | with_reducible assumption | with_reducible exact rfl | k_mem | walk_at "bg side"); intro a' vs' y' t0' rest' r' us' t9' h' tk' F' N' l1 e1' e2' hi' hP' hz'; (have hQ' := hP'.2.2 (by omega)); (have hQ1' := hQ'.1); (try k_lt l1)); (try dsimp only); (try k_fold); (try k_sweep)))
theorem c_lawsteps_B (w : World) (news : Led) (st tg n : Int) (t₁ t₂ t₃ : Tok) (hs : 8 ≤ st) (hs2 : st ≤ 16) (ht : 4 ≤ tg) (ht2 : tg ≤ 303) (hn : 2 ≤ n) (hn2 : n ≤ 4) (hlt : st * n < tg) :
    Con w 229 2 news [.int st t₁, .int tg t₂, .int n t₃] (RetB news true) := by
  unfold Con; k_fill
  intro loose mean mg mb dp un gd cn cs a ccd cl outer A₀ base h₀ L m s Q E B F X N T hk hdp hu hret; walk_at "bg enter"
  have hmul : IntMulOk st n := IntMulOk.of_left (intBits_le_64 (by omega) (by omega))
  walk_at "bg walk"
  rename (Asc _ _ _ _ ∧ _) => hP
  rename (_ = Value.int _ _ :: _) => e1
  rename (IntsAre _ _) => hI
  have hP1 := hP.1
  have hP2 := hP.2.1
  walk_at "bg for"
  walk_at "bg walk"
  refine items_fix _ (by assumption) ?hws ?hkeep (fun xs m => ∃ low tl rest1 r1, xs = zipItems (.int low tl :: rest1) rest1 ∧ IntsAre rest1 r1 ∧ Asc st n tg (low :: r1) ∧ m "n" = some (.int n t₃)) ?step ?done _ _ ?init
  case hws => simp
  case hkeep => simp
  case init => exact ⟨_, _, _, _, by rw [e1], hI, hP1, rfl⟩
  case done =>
    rintro m h tk _ F₁ N₁
    walk_at "bg walk"
    all_goals first | (walk_at "bg ends") | trace_state
  case step =>
    rintro a r m ⟨low, tl, rest1, r1, e, hi, hA, em⟩ v h tk hv F₁
    cases rest1 with
    | nil => cases e
    | cons v1 rest2 =>
      cases hi with
      | @cons high th _ r2 hi2 =>
        obtain ⟨rfl, rfl⟩ : a = .pair (fun _ => .int low tl) (.int high th) ∧ r = zipItems (.int high th :: rest2) rest2 := by
          injection e with e1 e2; exact ⟨e1, e2⟩
        obtain ⟨T, t, rfl, hT⟩ := hv
        dsimp only at hT
        obtain ⟨q1, q2, q3, q4, q5, q6, q7⟩ := asc_pair hA hs hn
        obtain ⟨y', r', e', hl⟩ := asc_len q5 hs hn
        have hhi : high ≤ 303 := by injection e' with e1 e2; omega
        have hm2 : IntMulOk n low := IntMulOk.of_left (intBits_le_64 (by omega) (by omega))
        have hm3 : IntMulOk 4 n := IntMulOk.of_left (intBits_le_64 (by omega) (by omega))
        replace F₁ := bgfix F₁ [("n", .int n t₃)] (by simp [em])
        ktu_objs
        walk_at "bg walk"
        exact ⟨_, _, _, _, rfl, by k_asm, by assumption, by walk_at "bg sub", high, th, rest2, r2, rfl, hi2, q5, rfl⟩
theorem c_lawsteps (w : World) (news : Led) (st tg n : Int) (t₁ t₂ t₃ : Tok) (hs : 8 ≤ st) (hs2 : st ≤ 16) (ht : 4 ≤ tg) (ht2 : tg ≤ 303) (hn : 2 ≤ n) (hn2 : n ≤ 4) :
    Con w 229 2 news [.int st t₁, .int tg t₂, .int n t₃] (RetB news true) := by
  by_cases hle : tg ≤ st * n
  · exact c_lawsteps_A w news st tg n t₁ t₂ t₃ hs hs2 ht ht2 hn hn2 hle
  · exact c_lawsteps_B w news st tg n t₁ t₂ t₃ hs hs2 ht ht2 hn hn2 (by omega)
end
local macro_rules | `(tactic| walk_at "bg none") => `(tactic| skip)
local macro_rules | `(tactic| walk_at "bg none") => `(tactic| skip)
local macro_rules | `(tactic| walk_at "bg none") => `(tactic| skip)
section
set_option maxRecDepth 100000
set_option maxHeartbeats 2000000
theorem c_to_fixed' (w : World) (news : Led) (r : Addr) (man exp bc n : Int) (t₀ t₂ t₃ t₄ tn : Tok) (hr : (r, T4 (.int 0 t₀) (.int man t₂) (.int exp t₃) (.int bc t₄)) ∈ news) (hz : (Builtin.Int.intBits man : Int) + (exp + n) ≤ 2 ^ 27) :
    Con w 131 1 news [.ref r, .int n tn] (RetI news (tf man exp n)) :=
  c_to_fixed w news r 0 man exp bc n t₀ t₂ t₃ t₄ tn hr rfl hz
theorem c_lshift_p (w : World) (news : Led) (x n : Int) (tx tn : Tok) (hn : 0 ≤ n) (hs : (Builtin.Int.intBits x : Int) + n ≤ 2 ^ 27) :
    Con w 36 1 news [.int x tx, .int n tn] (RetI news (x * 2 ^ n.toNat)) := by
  unfold Con; k_fill
  intro loose mean mg mb dp un gd cn cs a ccd cl outer A₀ base h₀ L m s Q E B F X N T hk hdp hu hret; walk_at "bg enter"
  walk_at "bg walk"
  all_goals first | (walk_at "bg ends") | trace_state
theorem c_rshift_p (w : World) (news : Led) (x n : Int) (tx tn : Tok) (hn : 0 ≤ n) :
    Con w 29 1 news [.int x tx, .int n tn] (RetI news (x.fdiv (2 ^ n.toNat))) := by
  unfold Con; k_fill
  intro loose mean mg mb dp un gd cn cs a ccd cl outer A₀ base h₀ L m s Q E B F X N T hk hdp hu hret; walk_at "bg enter"
  walk_at "bg walk"
  all_goals first | (walk_at "bg ends") | trace_state
local macro_rules | `(tactic| walk_at "call ref") => `(tactic| (k_here; (with_reducible show wpAny _ _ (call (Value.ref 131) _) _ _ _); k_dflt (refine' Con.use (c_to_fixed' _ _ _ _ _ _ _ _ _ _ _ _ ?p0 ?p1) ?k1 ?k2 ?k3 ?k4 ?k5 ?k6 ?k7 ?k8 ?_; (case k1 => k_asm); (case k2 => k_asm); (case k3 => k_asm); (case k4 => k_asm); (case k5 => k_asm); (case k6 => first | exact rfl | assumption); (case k7 => first | exact bg_room (by assumption) (by decide) | ktr_room); (case k8 => first | exact bg_units (by assumption) (by decide) | ktr_units); (case p0 => first | with_reducible assumption | with_reducible exact rfl | k_mem | walk_at "bg side"); (case p1 => first | with_reducible assumption | with_reducible exact rfl | k_mem | walk_at "bg side"); intro t' h' tk' F' N'); (try dsimp only); (try k_fold); (try k_sweep)))
local macro_rules | `(tactic| walk_at "call ref") => `(tactic| (k_here; (with_reducible show wpAny _ _ (call (Value.ref 36) _) _ _ _); k_dflt (refine' Con.use (c_lshift_p _ _ _ _ _ _ ?p0 ?p1) ?k1 ?k2 ?k3 ?k4 ?k5 ?k6 ?k7 ?k8 ?_; (case k1 => k_asm); (case k2 => k_asm); (case k3 => k_asm); (case k4 => k_asm); (case k5 => k_asm); (case k6 => first | exact rfl | assumption); (case k7 => first | exact bg_room (by assumption) (by decide) | ktr_room); (case k8 => first | exact bg_units (by assumption) (by decide) | ktr_units); (case p0 => first | with_reducible assumption | with_reducible exact rfl | k_mem | walk_at "bg side"); (case p1 => first | with_reducible assumption | with_reducible exact rfl | k_mem | walk_at "bg side"); intro t' h' tk' F' N'); (try dsimp only); (try k_fold); (try k_sweep)))
local macro_rules | `(tactic| walk_at "call ref") => `(tactic| (k_here; (with_reducible show wpAny _ _ (call (Value.ref 29) _) _ _ _); k_dflt (refine' Con.use (c_rshift_p _ _ _ _ _ _ ?p0) ?k1 ?k2 ?k3 ?k4 ?k5 ?k6 ?k7 ?k8 ?_; (case k1 => k_asm); (case k2 => k_asm); (case k3 => k_asm); (case k4 => k_asm); (case k5 => k_asm); (case k6 => first | exact rfl | assumption); (case k7 => first | exact bg_room (by assumption) (by decide) | ktr_room); (case k8 => first | exact bg_units (by assumption) (by decide) | ktr_units); (case p0 => first | with_reducible assumption | with_reducible exact rfl | k_mem | walk_at "bg side"); intro t' h' tk' F' N'); (try dsimp only); (try k_fold); (try k_sweep)))
/-- what the rows are: each within the reach, the last at the wanted bits -/
def RowsOK (I : Int → Int → Prop) (tg : Int) (n : Nat) (rs : List (Int × Int)) : Prop :=
  rs.length = n ∧ (∀ p ∈ rs, I p.1 p.2 ∧ 12 ≤ p.1 ∧ p.1 ≤ tg + 8) ∧ ∃ rs' x, rs = rs' ++ [(tg + 8, x)]
theorem c_over (w : World) (news : Led) (ry : Addr) (man ex bc : Int) (c : Nat) (t₀ t₂ t₃ t₄ : Tok) (hy : (ry, T4 (.int 0 t₀) (.int man t₂) (.int ex t₃) (.int bc t₄)) ∈ news) (hex : ex = -(c : Int))
    (al : Addr) (vs rest : List Value) (y st tg : Int) (r : List Int) (ty : Tok) (ha : (al, listOf vs.toArray 0) ∈ news) (e1 : vs = .int y ty :: rest) (hI : IntsAre rest r) (hA : Asc st 2 tg (y :: r)) (hs : 8 ≤ st) (ht : 4 ≤ tg) (ht2 : tg ≤ 303) (hy4 : 4 ≤ y)
    (hm : 0 < man) (hmC : man < 2 ^ c) (hlo : 2 ^ c ≤ 2 * man) (hc : c ≤ 1000) :
    Con w 236 2 news [.ref ry, .ref al] (RetR news (RowsOK (INV man c) tg (r.length + 1))) := by
  unfold Con; k_fill
  intro loose mean mg mb dp un gd cn cs a ccd cl outer A₀ base h₀ L m s Q E B F X N T hk hdp hu hret; walk_at "bg enter"
  obtain ⟨y', r', e', hl⟩ := asc_len hA hs (by decide)
  have hy3 : y ≤ 303 := by injection e' with q1 q2; omega
  have hbm : Builtin.Int.intBits man ≤ c := bl_le_of_lt (by omega) hmC
  have f3 : Builtin.Int.intBits 1 = 1 := rfl
  obtain ⟨s1, s2, s3⟩ := over_start' (w := y + 8) hex (by omega) (by omega) hm hmC hlo
  walk_at "bg walk"
  walk_at "bg for"
  walk_at "bg walk"
  rename_i I hIlt
  refine items_ind (fun xs m₁ news₁ => ∃ (ps : List Int) (vs1 : List Value) (R : Addr) (p0 rr : Int) (tm tc tw tr : Tok) (us : List Value) (rs : List (Int × Int)) (ep : Nat) (tl : Led),
    xs = vs1.map .val ∧ IntsAre vs1 ps ∧ news₁ = (R, listOf us.toArray ep) :: tl ∧ (∀ p ∈ tl, p.1 ≠ R) ∧ (∀ p ∈ news₁, p.1 ≠ I) ∧ (∀ p ∈ news, p ∈ tl) ∧ RowsAre tl us rs ∧
    (m₁ "y" = some (.ref ry) ∧ m₁ "man" = some (.int man tm) ∧ m₁ "c" = some (.int (-ex) tc) ∧ m₁ "wide" = some (.int (p0 + 8) tw) ∧ m₁ "r" = some (.int rr tr) ∧ m₁ "rows" = some (.ref R)) ∧
    INV man c (p0 + 8) rr ∧ 4 ≤ p0 ∧ p0 ≤ 303 ∧ rs.length + ps.length = r.length + 1 ∧ (∀ p ∈ rs, INV man c p.1 p.2 ∧ 12 ≤ p.1 ∧ p.1 ≤ p0 + 8) ∧
    ((rs = [] ∧ (∃ q, ps = p0 :: q) ∧ Asc st 2 tg ps) ∨ (Asc st 2 tg (p0 :: ps) ∧ ∃ rs', rs = rs' ++ [(p0 + 8, rr)]))) ?step ?done _ _ _ ?init
  case init =>
    refine ⟨y :: r, vs, _, y, _, _, _, _, _, [], [], 0, _, rfl, by rw [e1]; exact .cons _ _ hI, rfl, ?_, fun p hp => Nat.ne_of_lt (hIlt p hp), ?_, .nil, ⟨rfl, rfl, rfl, rfl, rfl, rfl⟩, s3, hy4, hy3, by simp, (fun p hp => nomatch hp), .inl ⟨rfl, ⟨_, rfl⟩, hA⟩⟩
    · rename (_ ∧ AllLt _ _) => hl2
      intro p hp
      rcases List.mem_cons.mp hp with rfl | hp
      · exact Nat.ne_of_lt hl2.1
      · exact Nat.ne_of_lt (ktn_ltOf hl2.2 p hp)
    · walk_at "bg sub"
  case done =>
    rintro m₁ news₁ h tk ⟨ps, vs1, R, p0, rr, tm, tc, tw, tr, us, rs, ep, tl, ex1, hi, rfl, hR, hIn, hsub, hrows, ⟨em1, em2, em3, em4, em5, em6⟩, hinv, hp4, hp3, hlen, hall, hph⟩ F₁ N₁
    have hv1 : vs1 = [] := by cases vs1 with | nil => rfl | cons _ _ => cases ex1
    subst hv1
    have hps := IntsAre.length hi
    have hps0 : ps = [] := by cases ps with | nil => rfl | cons _ _ => simp at hps
    subst hps0
    rcases hph with ⟨_, ⟨q, hq⟩, _⟩ | ⟨hA2, hl2⟩
    · cases hq
    · have hpt : p0 = tg := by cases hA2; rfl
      subst hpt
      replace F₁ := bgfix F₁ [("rows", .ref R)] (by simp [em6])
      walk_at "bg walk"
      exact hret R us rs ep tl _ _ (by k_asm) (by k_asm) hsub hrows ⟨by simpa using hlen, hall, by obtain ⟨rs', e⟩ := hl2; exact ⟨rs', rr, e⟩⟩
  case step =>
    rintro x xr m₁ news₁ ⟨ps, vs1, R, p0, rr, tm, tc, tw, tr, us, rs, ep, tl, ex1, hi, rfl, hR, hIn, hsub, hrows, ⟨em1, em2, em3, em4, em5, em6⟩, hinv, hp4, hp3, hlen, hall, hph⟩ v h tk hv F₁
    have hyl := hsub _ hy
    have hal := hsub _ ha
    have hIR : @Ne Nat R I := hIn _ (.head _)
    have hItl : ∀ p ∈ tl, p.1 ≠ I := fun p hp => hIn p (.tail _ hp)
    cases vs1 with
    | nil => cases ex1
    | cons v1 vs2 =>
      injection ex1 with q1 q2
      subst q1 q2
      have hv' : v = v1 := hv
      subst hv'
      replace F₁ := bgfix F₁ [("y", .ref ry), ("man", .int man tm), ("c", .int (-ex) tc), ("wide", .int (p0 + 8) tw), ("r", .int rr tr), ("rows", .ref R)] (by simp [em1, em2, em3, em4, em5, em6])
      have husz : us.length ≤ 1000 := by
        have := hrows.length
        injection e' with z1 z2
        subst z2
        omega
      cases hi with
      | @cons p tp _ ps2 hi2 =>
        rcases hph with ⟨hrs, ⟨q, hq⟩, hA2⟩ | ⟨hA2, hl2⟩
        · obtain ⟨z1, z2⟩ : p = p0 ∧ ps2 = q := by injection hq with z1 z2; exact ⟨z1, z2⟩
          subst z1 z2
          obtain ⟨g1, g2⟩ := over_test (w := p + 8) hex (by omega) (by omega) hc hm hmC hlo hinv
          ktu_objs
          walk_at "bg walk"
          rename News _ _ _ _ => N9
          rename (_ ∧ _ ∧ AllLt _ tl) => hl9
          simp only [List.push_toArray] at N9
          refine ⟨_, _, _, _, rfl, by k_asm, news_turn N9, ?_, subL_of ?_, ps2, vs2, R, p, _, tm, tc, _, _, us ++ [_], rs ++ [(p + 8, _)], ep + 1, _, rfl, hi2, rfl, ?_, ?_, fun q hq => .tail _ (hsub q hq), .snoc (hrows.mono fun q hq => .tail _ hq) (.head _), ⟨rfl, rfl, rfl, rfl, rfl, rfl⟩, hinv, by omega, by omega, by simp at hlen ⊢; omega, ?_, .inr ⟨hA2, rs, rfl⟩⟩
          · intro q hq q' hq'
            rw [List.mem_singleton.mp hq']
            rcases List.mem_cons.mp hq with rfl | hq
            · exact Ne.symm (show I ≠ R from fun z => hIR z.symm)
            rcases List.mem_cons.mp hq with rfl | hq
            · exact Nat.ne_of_gt hl9.1
            · exact hItl q hq
          · intro q hq
            rw [List.mem_singleton.mp hq]
            exact .tail _ (.tail _ hal)
          · intro q hq
            rcases List.mem_cons.mp hq with rfl | hq
            · exact Nat.ne_of_gt hl9.2.1
            · exact hR q hq
          · intro q hq
            rcases List.mem_cons.mp hq with rfl | hq
            · exact Ne.symm (show I ≠ R from fun z => hIR z.symm)
            rcases List.mem_cons.mp hq with rfl | hq
            · exact Nat.ne_of_gt hl9.1
            · exact hItl q hq
          · intro q hq
            rcases List.mem_append.mp hq with hq | hq
            · exact hall q hq
            · rw [List.mem_singleton.mp hq]
              exact ⟨hinv, by show 12 ≤ p + 8; omega, by show p + 8 ≤ p + 8; omega⟩
        · obtain ⟨q1, q2, q3, q4, q5, q6, q7⟩ := asc_pair hA2 hs (by decide)
          obtain ⟨y2, r2, e2', hl3⟩ := asc_len q5 hs (by decide)
          have hp303 : p ≤ 303 := by injection e2' with z1 z2; omega
          have hbr := INV_intBits (w := p0 + 8) (by omega) hm hmC hlo hinv
          obtain ⟨k1, k2, k3⟩ := over_round' (w0 := p0 + 8) (p := p) hex (by omega) (by omega) (by omega) (by omega) hm hmC hlo hinv
          obtain ⟨g1, g2⟩ := over_test (w := p + 8) hex (by omega) (by omega) hc hm hmC hlo k3
          ktu_objs
          walk_at "bg walk"
          rename News _ _ _ _ => N9
          rename (_ ∧ _ ∧ AllLt _ tl) => hl9
          simp only [List.push_toArray] at N9
          refine ⟨_, _, _, _, rfl, by k_asm, news_turn N9, ?_, subL_of ?_, ps2, vs2, R, p, _, tm, tc, _, _, us ++ [_], rs ++ [(p + 8, _)], ep + 1, _, rfl, hi2, rfl, ?_, ?_, fun q hq => .tail _ (hsub q hq), .snoc (hrows.mono fun q hq => .tail _ hq) (.head _), ⟨rfl, rfl, rfl, rfl, rfl, rfl⟩, k3, by omega, by omega, by simp at hlen ⊢; omega, ?_, .inr ⟨q5, rs, rfl⟩⟩
          · intro q hq q' hq'
            rw [List.mem_singleton.mp hq']
            rcases List.mem_cons.mp hq with rfl | hq
            · exact Ne.symm (show I ≠ R from fun z => hIR z.symm)
            rcases List.mem_cons.mp hq with rfl | hq
            · exact Nat.ne_of_gt hl9.1
            · exact hItl q hq
          · intro q hq
            rw [List.mem_singleton.mp hq]
            exact .tail _ (.tail _ hal)
          · intro q hq
            rcases List.mem_cons.mp hq with rfl | hq
            · exact Nat.ne_of_gt hl9.2.1
            · exact hR q hq
          · intro q hq
            rcases List.mem_cons.mp hq with rfl | hq
            · exact Ne.symm (show I ≠ R from fun z => hIR z.symm)
            rcases List.mem_cons.mp hq with rfl | hq
            · exact Nat.ne_of_gt hl9.1
            · exact hItl q hq
          · intro q hq
            rcases List.mem_append.mp hq with hq | hq
            · obtain ⟨z1, z2, z3⟩ := hall q hq; exact ⟨z1, z2, by omega⟩
            · rw [List.mem_singleton.mp hq]
              exact ⟨k3, by show 12 ≤ p + 8; omega, by show p + 8 ≤ p + 8; omega⟩
end
local macro_rules | `(tactic| walk_at "bg none") => `(tactic| skip)
local macro_rules | `(tactic| walk_at "bg none") => `(tactic| skip)
local macro_rules | `(tactic| walk_at "bg none") => `(tactic| skip)
local macro_rules | `(tactic| walk_at "bg none") => `(tactic| skip)
section
set_option maxRecDepth 100000
set_option maxHeartbeats 4000000
local macro_rules | `(tactic| walk_at "call ref") => `(tactic| (k_here; (with_reducible show wpAny _ _ (call (Value.ref 131) _) _ _ _); k_dflt (refine' Con.use (c_to_fixed' _ _ _ _ _ _ _ _ _ _ _ _ ?p0 ?p1) ?k1 ?k2 ?k3 ?k4 ?k5 ?k6 ?k7 ?k8 ?_; (case k1 => k_asm); (case k2 => k_asm); (case k3 => k_asm); (case k4 => k_asm); (case k5 => k_asm); (case k6 => first | exact rfl | assumption); (case k7 => first | exact bg_room (by assumption) (by decide) | ktr_room); (case k8 => first | exact bg_units (by assumption) (by decide) | ktr_units); (case p0 => first | with_reducible assumption | with_reducible exact rfl | k_mem | walk_at "bg side"); (case p1 => first | with_reducible assumption | with_reducible exact rfl | k_mem | walk_at "bg side"); intro t' h' tk' F' N'); (try dsimp only); (try k_fold); (try k_sweep)))
local macro_rules | `(tactic| walk_at "call ref") => `(tactic| (k_here; (with_reducible show wpAny _ _ (call (Value.ref 36) _) _ _ _); k_dflt (refine' Con.use (c_lshift_p _ _ _ _ _ _ ?p0 ?p1) ?k1 ?k2 ?k3 ?k4 ?k5 ?k6 ?k7 ?k8 ?_; (case k1 => k_asm); (case k2 => k_asm); (case k3 => k_asm); (case k4 => k_asm); (case k5 => k_asm); (case k6 => first | exact rfl | assumption); (case k7 => first | exact bg_room (by assumption) (by decide) | ktr_room); (case k8 => first | exact bg_units (by assumption) (by decide) | ktr_units); (case p0 => first | with_reducible assumption | with_reducible exact rfl | k_mem | walk_at "bg side"); (case p1 => first | with_reducible assumption | with_reducible exact rfl | k_mem | walk_at "bg side"); intro t' h' tk' F' N'); (try dsimp only); (try k_fold); (try k_sweep)))
local macro_rules | `(tactic| walk_at "call ref") => `(tactic| (k_here; (with_reducible show wpAny _ _ (call (Value.ref 29) _) _ _ _); k_dflt (refine' Con.use (c_rshift_p _ _ _ _ _ _ ?p0) ?k1 ?k2 ?k3 ?k4 ?k5 ?k6 ?k7 ?k8 ?_; (case k1 => k_asm); (case k2 => k_asm); (case k3 => k_asm); (case k4 => k_asm); (case k5 => k_asm); (case k6 => first | exact rfl | assumption); (case k7 => first | exact bg_room (by assumption) (by decide) | ktr_room); (case k8 => first | exact bg_units (by assumption) (by decide) | ktr_units); (case p0 => first | with_reducible assumption | with_reducible exact rfl | k_mem | walk_at "bg side"); intro t' h' tk' F' N'); (try dsimp only); (try k_fold); (try k_sweep)))
local macro_rules | `(tactic| walk_at "call ref") => `(tactic| (k_here; (with_reducible show wpAny _ _ (call (Value.ref 71) _) _ _ _); k_dflt (refine' Con.use (c_sqrt_fixed' _ _ _ _ _ _ ?p0 ?p1 ?p2) ?k1 ?k2 ?k3 ?k4 ?k5 ?k6 ?k7 ?k8 ?_; (case k1 => k_asm); (case k2 => k_asm); (case k3 => k_asm); (case k4 => k_asm); (case k5 => k_asm); (case k6 => first | exact rfl | assumption); (case k7 => first | exact bg_room (by assumption) (by decide) | ktr_room); (case k8 => first | exact bg_units (by assumption) (by decide) | ktr_units); (case p0 => first | with_reducible assumption | with_reducible exact rfl | k_mem | walk_at "bg side"); (case p1 => first | with_reducible assumption | with_reducible exact rfl | k_mem | walk_at "bg side"); (case p2 => first | with_reducible assumption | with_reducible exact rfl | k_mem | walk_at "bg side"); intro t' h' tk' F' N'); (try dsimp only); (try k_fold); (try k_sweep)))
theorem c_rover (w : World) (news : Led) (ry : Addr) (man ex bc : Int) (c : Nat) (t₀ t₂ t₃ t₄ : Tok) (hy : (ry, T4 (.int 0 t₀) (.int man t₂) (.int ex t₃) (.int bc t₄)) ∈ news) (hex : ex = -(c : Int))
    (al : Addr) (vs rest : List Value) (y st tg : Int) (r : List Int) (ty : Tok) (ha : (al, listOf vs.toArray 0) ∈ news) (e1 : vs = .int y ty :: rest) (hI : IntsAre rest r) (hA : Asc st 2 tg (y :: r)) (hs : 8 ≤ st) (ht : 4 ≤ tg) (ht2 : tg ≤ 303) (hy4 : 4 ≤ y)
    (hm : 0 < man) (hmC : man < 2 ^ c) (hlo : 2 ^ c ≤ 4 * man) (hc : c ≤ 1000) :
    Con w 243 5 news [.ref ry, .ref al] (RetR news (RowsOK (INR man c) tg (r.length + 1))) := by
  unfold Con; k_fill
  intro loose mean mg mb dp un gd cn cs a ccd cl outer A₀ base h₀ L m s Q E B F X N T hk hdp hu hret; walk_at "bg enter"
  obtain ⟨y', r', e', hl⟩ := asc_len hA hs (by decide)
  have hy3 : y ≤ 303 := by injection e' with q1 q2; omega
  have hbm : Builtin.Int.intBits man ≤ c := bl_le_of_lt (by omega) hmC
  have f3 : Builtin.Int.intBits 1 = 1 := rfl
  obtain ⟨s0, s00, s1, s2, s3⟩ := root_start' (w := y + 8) hex (by omega) (by omega) hm hmC hlo
  walk_at "bg walk"
  walk_at "bg for"
  walk_at "bg walk"
  rename_i I hIlt
  refine items_ind (fun xs m₁ news₁ => ∃ (ps : List Int) (vs1 : List Value) (R : Addr) (p0 rr : Int) (tm tc tw tr : Tok) (us : List Value) (rs : List (Int × Int)) (ep : Nat) (tl : Led),
    xs = vs1.map .val ∧ IntsAre vs1 ps ∧ news₁ = (R, listOf us.toArray ep) :: tl ∧ (∀ p ∈ tl, p.1 ≠ R) ∧ (∀ p ∈ news₁, p.1 ≠ I) ∧ (∀ p ∈ news, p ∈ tl) ∧ RowsAre tl us rs ∧
    (m₁ "z" = some (.ref ry) ∧ m₁ "man" = some (.int man tm) ∧ m₁ "c" = some (.int (-ex) tc) ∧ m₁ "wide" = some (.int (p0 + 8) tw) ∧ m₁ "s" = some (.int rr tr) ∧ m₁ "rows" = some (.ref R)) ∧
    INR man c (p0 + 8) rr ∧ 4 ≤ p0 ∧ p0 ≤ 303 ∧ rs.length + ps.length = r.length + 1 ∧ (∀ p ∈ rs, INR man c p.1 p.2 ∧ 12 ≤ p.1 ∧ p.1 ≤ p0 + 8) ∧
    ((rs = [] ∧ (∃ q, ps = p0 :: q) ∧ Asc st 2 tg ps) ∨ (Asc st 2 tg (p0 :: ps) ∧ ∃ rs', rs = rs' ++ [(p0 + 8, rr)]))) ?step ?done _ _ _ ?init
  case init =>
    refine ⟨y :: r, vs, _, y, _, _, _, _, _, [], [], 0, _, rfl, by rw [e1]; exact .cons _ _ hI, rfl, ?_, fun p hp => Nat.ne_of_lt (hIlt p hp), ?_, .nil, ⟨rfl, rfl, rfl, rfl, rfl, rfl⟩, s3, hy4, hy3, by simp, (fun p hp => nomatch hp), .inl ⟨rfl, ⟨_, rfl⟩, hA⟩⟩
    · rename (_ ∧ AllLt _ _) => hl2
      intro p hp
      rcases List.mem_cons.mp hp with rfl | hp
      · exact Nat.ne_of_lt hl2.1
      · exact Nat.ne_of_lt (ktn_ltOf hl2.2 p hp)
    · walk_at "bg sub"
  case done =>
    rintro m₁ news₁ h tk ⟨ps, vs1, R, p0, rr, tm, tc, tw, tr, us, rs, ep, tl, ex1, hi, rfl, hR, hIn, hsub, hrows, ⟨em1, em2, em3, em4, em5, em6⟩, hinv, hp4, hp3, hlen, hall, hph⟩ F₁ N₁
    have hv1 : vs1 = [] := by cases vs1 with | nil => rfl | cons _ _ => cases ex1
    subst hv1
    have hps := IntsAre.length hi
    have hps0 : ps = [] := by cases ps with | nil => rfl | cons _ _ => simp at hps
    subst hps0
    rcases hph with ⟨_, ⟨q, hq⟩, _⟩ | ⟨hA2, hl2⟩
    · cases hq
    · have hpt : p0 = tg := by cases hA2; rfl
      subst hpt
      replace F₁ := bgfix F₁ [("rows", .ref R)] (by simp [em6])
      walk_at "bg walk"
      exact hret R us rs ep tl _ _ (by k_asm) (by k_asm) hsub hrows ⟨by simpa using hlen, hall, by obtain ⟨rs', e⟩ := hl2; exact ⟨rs', rr, e⟩⟩
  case step =>
    rintro x xr m₁ news₁ ⟨ps, vs1, R, p0, rr, tm, tc, tw, tr, us, rs, ep, tl, ex1, hi, rfl, hR, hIn, hsub, hrows, ⟨em1, em2, em3, em4, em5, em6⟩, hinv, hp4, hp3, hlen, hall, hph⟩ v h tk hv F₁
    have hyl := hsub _ hy
    have hal := hsub _ ha
    have hIR : @Ne Nat R I := hIn _ (.head _)
    have hItl : ∀ p ∈ tl, p.1 ≠ I := fun p hp => hIn p (.tail _ hp)
    cases vs1 with
    | nil => cases ex1
    | cons v1 vs2 =>
      injection ex1 with q1 q2
      subst q1 q2
      have hv' : v = v1 := hv
      subst hv'
      replace F₁ := bgfix F₁ [("z", .ref ry), ("man", .int man tm), ("c", .int (-ex) tc), ("wide", .int (p0 + 8) tw), ("s", .int rr tr), ("rows", .ref R)] (by simp [em1, em2, em3, em4, em5, em6])
      have husz : us.length ≤ 1000 := by
        have := hrows.length
        injection e' with z1 z2
        subst z2
        omega
      cases hi with
      | @cons p tp _ ps2 hi2 =>
        rcases hph with ⟨hrs, ⟨q, hq⟩, hA2⟩ | ⟨hA2, hl2⟩
        · obtain ⟨z1, z2⟩ : p = p0 ∧ ps2 = q := by injection hq with z1 z2; exact ⟨z1, z2⟩
          subst z1 z2
          obtain ⟨g1, g2, g3, g4, g5, g6⟩ := root_test (w := p + 8) hex (by omega) (by omega) hc hm hmC hlo hinv
          ktu_objs
          walk_at "bg walk"
          rename News _ _ _ _ => N9
          rename (_ ∧ _ ∧ AllLt _ tl) => hl9
          simp only [List.push_toArray] at N9
          refine ⟨_, _, _, _, rfl, by k_asm, news_turn N9, ?_, subL_of ?_, ps2, vs2, R, p, _, tm, tc, _, _, us ++ [_], rs ++ [(p + 8, _)], ep + 1, _, rfl, hi2, rfl, ?_, ?_, fun q hq => .tail _ (hsub q hq), .snoc (hrows.mono fun q hq => .tail _ hq) (.head _), ⟨rfl, rfl, rfl, rfl, rfl, rfl⟩, hinv, by omega, by omega, by simp at hlen ⊢; omega, ?_, .inr ⟨hA2, rs, rfl⟩⟩
          · intro q hq q' hq'
            rw [List.mem_singleton.mp hq']
            rcases List.mem_cons.mp hq with rfl | hq
            · exact Ne.symm (show I ≠ R from fun z => hIR z.symm)
            rcases List.mem_cons.mp hq with rfl | hq
            · exact Nat.ne_of_gt hl9.1
            · exact hItl q hq
          · intro q hq
            rw [List.mem_singleton.mp hq]
            exact .tail _ (.tail _ hal)
          · intro q hq
            rcases List.mem_cons.mp hq with rfl | hq
            · exact Nat.ne_of_gt hl9.2.1
            · exact hR q hq
          · intro q hq
            rcases List.mem_cons.mp hq with rfl | hq
            · exact Ne.symm (show I ≠ R from fun z => hIR z.symm)
            rcases List.mem_cons.mp hq with rfl | hq
            · exact Nat.ne_of_gt hl9.1
            · exact hItl q hq
          · intro q hq
            rcases List.mem_append.mp hq with hq | hq
            · exact hall q hq
            · rw [List.mem_singleton.mp hq]
              exact ⟨hinv, by show 12 ≤ p + 8; omega, by show p + 8 ≤ p + 8; omega⟩
        · obtain ⟨q1, q2, q3, q4, q5, q6, q7⟩ := asc_pair hA2 hs (by decide)
          obtain ⟨y2, r2, e2', hl3⟩ := asc_len q5 hs (by decide)
          have hp303 : p ≤ 303 := by injection e2' with z1 z2; omega
          have hbr := INR_bits (w := p0 + 8) (by omega) hm hmC hlo hinv
          obtain ⟨k1, k2, k4, k3⟩ := root_round' (w0 := p0 + 8) (p := p) hex (by omega) (by omega) (by omega) (by omega) hm hmC hlo hinv
          obtain ⟨g1, g2, g3, g4, g5, g6⟩ := root_test (w := p + 8) hex (by omega) (by omega) hc hm hmC hlo k3
          ktu_objs
          walk_at "bg walk"
          rename News _ _ _ _ => N9
          rename (_ ∧ _ ∧ AllLt _ tl) => hl9
          simp only [List.push_toArray] at N9
          refine ⟨_, _, _, _, rfl, by k_asm, news_turn N9, ?_, subL_of ?_, ps2, vs2, R, p, _, tm, tc, _, _, us ++ [_], rs ++ [(p + 8, _)], ep + 1, _, rfl, hi2, rfl, ?_, ?_, fun q hq => .tail _ (hsub q hq), .snoc (hrows.mono fun q hq => .tail _ hq) (.head _), ⟨rfl, rfl, rfl, rfl, rfl, rfl⟩, k3, by omega, by omega, by simp at hlen ⊢; omega, ?_, .inr ⟨q5, rs, rfl⟩⟩
          · intro q hq q' hq'
            rw [List.mem_singleton.mp hq']
            rcases List.mem_cons.mp hq with rfl | hq
            · exact Ne.symm (show I ≠ R from fun z => hIR z.symm)
            rcases List.mem_cons.mp hq with rfl | hq
            · exact Nat.ne_of_gt hl9.1
            · exact hItl q hq
          · intro q hq
            rw [List.mem_singleton.mp hq]
            exact .tail _ (.tail _ hal)
          · intro q hq
            rcases List.mem_cons.mp hq with rfl | hq
            · exact Nat.ne_of_gt hl9.2.1
            · exact hR q hq
          · intro q hq
            rcases List.mem_cons.mp hq with rfl | hq
            · exact Ne.symm (show I ≠ R from fun z => hIR z.symm)
            rcases List.mem_cons.mp hq with rfl | hq
            · exact Nat.ne_of_gt hl9.1
            · exact hItl q hq
          · intro q hq
            rcases List.mem_append.mp hq with hq | hq
            · obtain ⟨z1, z2, z3⟩ := hall q hq; exact ⟨z1, z2, by omega⟩
            · rw [List.mem_singleton.mp hq]
              exact ⟨k3, by show 12 ≤ p + 8; omega, by show p + 8 ≤ p + 8; omega⟩
end
local macro_rules | `(tactic| walk_at "bg none") => `(tactic| skip)
local macro_rules | `(tactic| walk_at "bg none") => `(tactic| skip)
local macro_rules | `(tactic| walk_at "bg none") => `(tactic| skip)
local macro_rules | `(tactic| walk_at "bg none") => `(tactic| skip)
local macro_rules | `(tactic| walk_at "bg none") => `(tactic| skip)
section
set_option maxRecDepth 100000
set_option maxHeartbeats 2000000
/-- like Con, for a def that catches: the ground may turn -/
def ConS (w : World) (f : Addr) (sz : Nat) (news : Led) (vs : List Value) (b : Bool) : Prop :=
  ∀ (loose : List Str) (mean : ExcName → Option Value) (mg mb : Str → Option Value) (dp un : Nat) (gd : Option (List Code)) (cn : Str) (cs : Scope) (a : Addr) (ccd : Value) (cl : List (Str × Addr)) (outer : List Env) (A₀ : Around) (base h₀ : Heap) (L : Addr) (m : Str → Option Value) (s : Shared) (Q E : Value → Shared → Prop),
    Below A₀ base outer h₀ → Fr h₀ L s.heap m → (hd.heap_39 w.params).In h₀ → News h₀ L s.heap news → Top hd.view_39 loose mean mg mb h₀ → (hd.heap_39 w.params).In base → Top hd.view_39 loose mean mg mb base → KtsDicts (outer.filterMap (·.frame)) h₀ → cs.kind = .function →
    dp + sz < recursionLimit → un + 8 * sz + 128 < cLine →
    (∀ h' tk' g', KtsTurn (outer.filterMap (·.frame)) h₀ g' → Fr g' L h' m → News g' L h' news → Below A₀ base outer g' → (hd.heap_39 w.params).In g' → Top hd.view_39 loose mean mg mb g' → KtsDicts (outer.filterMap (·.frame)) g' → Q (.bool b) { s with heap := h', toks := tk' }) →
    wpAny (model PySem.Challenge.rw_bg5010_01.row.prog w) (ktrTop dp un gd cn cs L a ccd cl outer) (call (.ref f) vs) Q E s
theorem ConS.use {w : World} {f : Addr} {sz : Nat} {news : Led} {vs : List Value} {b : Bool} (C : ConS w f sz news vs b)
    {loose : List Str} {mean : ExcName → Option Value} {mg mb : Str → Option Value} {dp un : Nat} {gd : Option (List Code)} {cn : Str} {cs : Scope} {a : Addr} {ccd : Value} {cl : List (Str × Addr)} {outer : List Env} {A₀ : Around} {base h₀ : Heap} {L : Addr} {m : Str → Option Value} {s : Shared} {Q E : Value → Shared → Prop}
    (B : Below A₀ base outer h₀) (F : Fr h₀ L s.heap m) (X : (hd.heap_39 w.params).In h₀) (N : News h₀ L s.heap news) (T : Top hd.view_39 loose mean mg mb h₀) (XB : (hd.heap_39 w.params).In base) (TB : Top hd.view_39 loose mean mg mb base) (D : KtsDicts (outer.filterMap (·.frame)) h₀) (hk : cs.kind = .function)
    (hdp : dp + sz < recursionLimit) (hu : un + 8 * sz + 128 < cLine)
    (ret : ∀ h' tk' g', KtsTurn (outer.filterMap (·.frame)) h₀ g' → Fr g' L h' m → News g' L h' news → Below A₀ base outer g' → (hd.heap_39 w.params).In g' → Top hd.view_39 loose mean mg mb g' → KtsDicts (outer.filterMap (·.frame)) g' → Q (.bool b) { s with heap := h', toks := tk' }) :
    wpAny (model PySem.Challenge.rw_bg5010_01.row.prog w) (ktrTop dp un gd cn cs L a ccd cl outer) (call (.ref f) vs) Q E s :=
  C loose mean mg mb dp un gd cn cs a ccd cl outer A₀ base h₀ L m s Q E B F X N T XB TB D hk hdp hu ret
local macro_rules | `(tactic| walk_at "bg enterS") => `(tactic| (refine wpAny_call ?_; k_dflt (refine' code_turn ?k1 ?k2 ?k3 ?k4 ?k5 ?XB ?TB ?D ?kA ?kF ?kK ?k6 ?k7 ?k8 ?k9 ?kB ?_ ?c2 ?c3 ?c4 ?c5; (case kA => exact rfl); (case kF => exact rfl); (case kK => first | exact rfl | assumption); (case k2 => k_asm); (case k1 => k_asm); (case XB => assumption); (case TB => assumption); (case D => assumption); (case k3 => k_asm); (case k4 => k_asm); (case k5 => k_asm); (case k6 => k_is); (case k7 => k_is); (case k8 => ktr_room); (case k9 => first | exact BindsTo.of_eq rfl | exact binds_K (by k_in) rfl (by k_is) rfl rfl rfl); (case kB => exact locs rfl); (case c2 => exact rfl); (case c3 => exact rfl); (case c4 => exact rfl); (case c5 => decide); k_whole; intro g' L' h' FG' F' N' B' X' T' D'; (try dsimp only); (try k_lift B'); (try k_fold))))
local macro_rules | `(tactic| walk_at "call ref") => `(tactic| (k_here; walk_at "bg enter"))
local macro_rules | `(tactic| walk_at "exec Raise some none") => `(tactic| (k_here; (with_reducible show wpAny _ _ (exec (Stmt.Raise (some (Expr.Name ("ZeroDivisionError" : Str) _)) none _) _) _ _ _); (with_reducible rename Fr _ _ _ _ => kF); k_dflt (refine' Raise_classB ?hh excClass_ZeroDivisionError ?hs ?hx ?_; (case hh => rfl); (case hs => (rw [isSubtype_type]; kernel_rfl)); (case hx => (refine' name_B kF ?k1 ?k2 ?k3 ?k4 ?k5 ?_; (case k1 => k_asm); (case k2 => k_asm); (case k3 => k_is); (case k4 => boot_by_name); (case k5 => decide); exact ⟨rfl, rfl⟩))); intro h' e' X'))
theorem c_noroot (w : World) (news : Led) (r : Addr) (man exp bc tg : Int) (t₁ t₂ t₃ t₄ t₅ : Tok) (hr : (r, T4 (.int 1 t₁) (.int man t₂) (.int exp t₃) (.int bc t₄)) ∈ news) :
    ConS w 264 6 news [.ref r, .int tg t₅] true := by
  unfold ConS; k_fill
  intro loose mean mg mb dp un gd cn cs a ccd cl outer A₀ base h₀ L m s Q E B F X N T XB TB D hk hdp hu hret; walk_at "bg enterS"
  walk_at "bg walk"
  exact hret _ _ _ (by assumption) (by k_asm) (by walk_at "bg led") (by assumption) (by assumption) (by assumption) (by assumption)
theorem c_refused (w : World) (news : Led) (tg : Int) (t₅ : Tok) :
    ConS w 257 6 news [.ref 85, .int tg t₅] true := by
  unfold ConS; k_fill
  intro loose mean mg mb dp un gd cn cs a ccd cl outer A₀ base h₀ L m s Q E B F X N T XB TB D hk hdp hu hret; walk_at "bg enterS"
  walk_at "bg walk"
  exact hret _ _ _ (by assumption) (by k_asm) (by walk_at "bg led") (by assumption) (by assumption) (by assumption) (by assumption)
end
local macro_rules | `(tactic| walk_at "bg none") => `(tactic| skip)
local macro_rules | `(tactic| walk_at "bg none") => `(tactic| skip)
local macro_rules | `(tactic| walk_at "bg none") => `(tactic| skip)
local macro_rules | `(tactic| walk_at "bg none") => `(tactic| skip)
section
set_option maxRecDepth 100000
set_option maxHeartbeats 2000000
local macro_rules | `(tactic| walk_at "call ref") => `(tactic| (k_here; (with_reducible show wpAny _ _ (call (Value.ref 176) _) _ _ _); k_dflt (refine' Con.use (c_addP _ _ _ _ _ _ _ _ _ _ _ _ _ _ _ _ _ _ _ _ _ ?p0 ?p1 ?p2 ?p3 ?p4 ?p5 ?p6 ?p7 ?p8) ?k1 ?k2 ?k3 ?k4 ?k5 ?k6 ?k7 ?k8 ?_; (case k1 => k_asm); (case k2 => k_asm); (case k3 => k_asm); (case k4 => k_asm); (case k5 => k_asm); (case k6 => first | exact rfl | assumption); (case k7 => first | exact bg_room (by assumption) (by decide) | ktr_room); (case k8 => first | exact bg_units (by assumption) (by decide) | ktr_units); (case p0 => first | with_reducible assumption | with_reducible exact rfl | k_mem | walk_at "bg side"); (case p1 => first | with_reducible assumption | with_reducible exact rfl | k_mem | walk_at "bg side"); (case p2 => first | with_reducible assumption | with_reducible exact rfl | k_mem | walk_at "bg side"); (case p3 => first | with_reducible assumption | with_reducible exact rfl | k_mem | walk_at "bg side"); (case p4 => first | with_reducible assumption | with_reducible exact rfl | k_mem | walk_at "bg side"); (case p5 => first | with_reducible assumption | with_reducible exact rfl | k_mem | walk_at "bg side"); (case p6 => first | with_reducible assumption | with_reducible exact rfl | k_mem | walk_at "bg side"); (case p7 => first | with_reducible assumption | with_reducible exact rfl | k_mem | walk_at "bg side"); (case p8 => first | with_reducible assumption | with_reducible exact rfl | k_mem | walk_at "bg side"); intro v' tl' h' tk' sg' M' e' b' F' N' hT' hM'); (try dsimp only); (try k_fold); (try k_sweep)))
theorem c_subP (w : World) (news : Led) (r r₂ : Addr) (sm se sb tm te tb : Int) (t₁ t₂ t₃ t₄ u₁ u₂ u₃ u₄ : Tok) (hr : (r, T4 (.int 0 t₁) (.int sm t₂) (.int se t₃) (.int sb t₄)) ∈ news) (hr₂ : (r₂, T4 (.int 0 u₁) (.int tm u₂) (.int te u₃) (.int tb u₄)) ∈ news) (hs : 0 < sm) (ht : 0 < tm) (hsb : (Builtin.Int.intBits sm : Int) ≤ 5000) (htb : (Builtin.Int.intBits tm : Int) ≤ 5000) (hd1 : se - te ≤ 5000) (hd2 : te - se ≤ 5000) (ho : 0 < se - te) :
    Con w 184 5 news [.ref r, .ref r₂] (RetSub news (sm * 2 ^ (se - te).toNat - tm) te) := by
  unfold Con; k_fill
  intro loose mean mg mb dp un gd cn cs a ccd cl outer A₀ base h₀ L m s Q E B F X N T hk hdp hu hret; walk_at "bg enter"
  walk_at "bg walk"
  exact hret _ _ _ _ _ _ _ _ (by k_asm) (by k_asm) (by assumption) (by assumption)
local macro_rules | `(tactic| walk_at "call ref") => `(tactic| (k_here; (with_reducible show wpAny _ _ (call (Value.ref 176) _) _ _ _); k_dflt (refine' Con.use (c_addZ _ _ _ _ _ _ _ _ _ _ _ _ _ _ _ _ _ _ _ _ _ ?p0 ?p1 ?p2 ?p3 ?p4 ?p5 ?p6 ?p7 ?p8) ?k1 ?k2 ?k3 ?k4 ?k5 ?k6 ?k7 ?k8 ?_; (case k1 => k_asm); (case k2 => k_asm); (case k3 => k_asm); (case k4 => k_asm); (case k5 => k_asm); (case k6 => first | exact rfl | assumption); (case k7 => first | exact bg_room (by assumption) (by decide) | ktr_room); (case k8 => first | exact bg_units (by assumption) (by decide) | ktr_units); (case p0 => first | with_reducible assumption | with_reducible exact rfl | k_mem | walk_at "bg side"); (case p1 => first | with_reducible assumption | with_reducible exact rfl | k_mem | walk_at "bg side"); (case p2 => first | with_reducible assumption | with_reducible exact rfl | k_mem | walk_at "bg side"); (case p3 => first | with_reducible assumption | with_reducible exact rfl | k_mem | walk_at "bg side"); (case p4 => first | with_reducible assumption | with_reducible exact rfl | k_mem | walk_at "bg side"); (case p5 => first | with_reducible assumption | with_reducible exact rfl | k_mem | walk_at "bg side"); (case p6 => first | with_reducible assumption | with_reducible exact rfl | k_mem | walk_at "bg side"); (case p7 => first | with_reducible assumption | with_reducible exact rfl | k_mem | walk_at "bg side"); (case p8 => first | with_reducible assumption | with_reducible exact rfl | k_mem | walk_at "bg side"); intro v' tl' h' tk' sg' M' e' b' F' N' hT' hM'); (try dsimp only); (try k_fold); (try k_sweep)))
theorem c_subZ (w : World) (news : Led) (r r₂ : Addr) (sm se sb tm te tb : Int) (t₁ t₂ t₃ t₄ u₁ u₂ u₃ u₄ : Tok) (hr : (r, T4 (.int 0 t₁) (.int sm t₂) (.int se t₃) (.int sb t₄)) ∈ news) (hr₂ : (r₂, T4 (.int 0 u₁) (.int tm u₂) (.int te u₃) (.int tb u₄)) ∈ news) (hs : 0 < sm) (ht : 0 < tm) (hsb : (Builtin.Int.intBits sm : Int) ≤ 5000) (htb : (Builtin.Int.intBits tm : Int) ≤ 5000) (hd1 : se - te ≤ 5000) (hd2 : te - se ≤ 5000) (ho : se - te = 0) :
    Con w 184 5 news [.ref r, .ref r₂] (RetSub news (sm - tm) te) := by
  unfold Con; k_fill
  intro loose mean mg mb dp un gd cn cs a ccd cl outer A₀ base h₀ L m s Q E B F X N T hk hdp hu hret; walk_at "bg enter"
  walk_at "bg walk"
  exact hret _ _ _ _ _ _ _ _ (by k_asm) (by k_asm) (by assumption) (by assumption)
local macro_rules | `(tactic| walk_at "call ref") => `(tactic| (k_here; (with_reducible show wpAny _ _ (call (Value.ref 176) _) _ _ _); k_dflt (refine' Con.use (c_addN _ _ _ _ _ _ _ _ _ _ _ _ _ _ _ _ _ _ _ _ _ ?p0 ?p1 ?p2 ?p3 ?p4 ?p5 ?p6 ?p7 ?p8) ?k1 ?k2 ?k3 ?k4 ?k5 ?k6 ?k7 ?k8 ?_; (case k1 => k_asm); (case k2 => k_asm); (case k3 => k_asm); (case k4 => k_asm); (case k5 => k_asm); (case k6 => first | exact rfl | assumption); (case k7 => first | exact bg_room (by assumption) (by decide) | ktr_room); (case k8 => first | exact bg_units (by assumption) (by decide) | ktr_units); (case p0 => first | with_reducible assumption | with_reducible exact rfl | k_mem | walk_at "bg side"); (case p1 => first | with_reducible assumption | with_reducible exact rfl | k_mem | walk_at "bg side"); (case p2 => first | with_reducible assumption | with_reducible exact rfl | k_mem | walk_at "bg side"); (case p3 => first | with_reducible assumption | with_reducible exact rfl | k_mem | walk_at "bg side"); (case p4 => first | with_reducible assumption | with_reducible exact rfl | k_mem | walk_at "bg side"); (case p5 => first | with_reducible assumption | with_reducible exact rfl | k_mem | walk_at "bg side"); (case p6 => first | with_reducible assumption | with_reducible exact rfl | k_mem | walk_at "bg side"); (case p7 => first | with_reducible assumption | with_reducible exact rfl | k_mem | walk_at "bg side"); (case p8 => first | with_reducible assumption | with_reducible exact rfl | k_mem | walk_at "bg side"); intro v' tl' h' tk' sg' M' e' b' F' N' hT' hM'); (try dsimp only); (try k_fold); (try k_sweep)))
theorem c_subN (w : World) (news : Led) (r r₂ : Addr) (sm se sb tm te tb : Int) (t₁ t₂ t₃ t₄ u₁ u₂ u₃ u₄ : Tok) (hr : (r, T4 (.int 0 t₁) (.int sm t₂) (.int se t₃) (.int sb t₄)) ∈ news) (hr₂ : (r₂, T4 (.int 0 u₁) (.int tm u₂) (.int te u₃) (.int tb u₄)) ∈ news) (hs : 0 < sm) (ht : 0 < tm) (hsb : (Builtin.Int.intBits sm : Int) ≤ 5000) (htb : (Builtin.Int.intBits tm : Int) ≤ 5000) (hd1 : se - te ≤ 5000) (hd2 : te - se ≤ 5000) (ho : se - te < 0) :
    Con w 184 5 news [.ref r, .ref r₂] (RetSub news (sm - tm * 2 ^ (-(se - te)).toNat) se) := by
  unfold Con; k_fill
  intro loose mean mg mb dp un gd cn cs a ccd cl outer A₀ base h₀ L m s Q E B F X N T hk hdp hu hret; walk_at "bg enter"
  walk_at "bg walk"
  exact hret _ _ _ _ _ _ _ _ (by k_asm) (by k_asm) (by assumption) (by assumption)
theorem c_sub (w : World) (news : Led) (r r₂ : Addr) (sm se sb tm te tb : Int) (t₁ t₂ t₃ t₄ u₁ u₂ u₃ u₄ : Tok) (hr : (r, T4 (.int 0 t₁) (.int sm t₂) (.int se t₃) (.int sb t₄)) ∈ news) (hr₂ : (r₂, T4 (.int 0 u₁) (.int tm u₂) (.int te u₃) (.int tb u₄)) ∈ news) (hs : 0 < sm) (ht : 0 < tm) (hsb : (Builtin.Int.intBits sm : Int) ≤ 5000) (htb : (Builtin.Int.intBits tm : Int) ≤ 5000) (hd1 : se - te ≤ 5000) (hd2 : te - se ≤ 5000) :
    Con w 184 5 news [.ref r, .ref r₂] (RetSub news (sm * 2 ^ (se - min se te).toNat - tm * 2 ^ (te - min se te).toNat) (min se te)) := by
  rcases Int.lt_trichotomy (se - te) 0 with h | h | h
  · have e1 : min se te = se := by omega
    have e2 : (te - se) = -(se - te) := by omega
    rw [e1, Int.sub_self, e2]
    have := c_subN w news r r₂ sm se sb tm te tb t₁ t₂ t₃ t₄ u₁ u₂ u₃ u₄ hr hr₂ hs ht hsb htb hd1 hd2 h
    simpa using this
  · have e1 : min se te = te := by omega
    rw [e1, Int.sub_self, h]
    have := c_subZ w news r r₂ sm se sb tm te tb t₁ t₂ t₃ t₄ u₁ u₂ u₃ u₄ hr hr₂ hs ht hsb htb hd1 hd2 h
    simpa using this
  · have e1 : min se te = te := by omega
    rw [e1, Int.sub_self]
    have := c_subP w news r r₂ sm se sb tm te tb t₁ t₂ t₃ t₄ u₁ u₂ u₃ u₄ hr hr₂ hs ht hsb htb hd1 hd2 h
    simpa using this
end
local macro_rules | `(tactic| walk_at "bg none") => `(tactic| skip)
local macro_rules | `(tactic| walk_at "bg none") => `(tactic| skip)
local macro_rules | `(tactic| walk_at "bg none") => `(tactic| skip)
local macro_rules | `(tactic| walk_at "bg none") => `(tactic| skip)
section
set_option maxRecDepth 100000
set_option maxHeartbeats 2000000
theorem c_lsh (w : World) (news : Led) (x n : Int) (tx tn : Tok) (hs : (Builtin.Int.intBits x : Int) + n ≤ 2 ^ 27) :
    Con w 36 1 news [.int x tx, .int n tn] (RetI news (lsh x n)) := by
  unfold Con; k_fill
  intro loose mean mg mb dp un gd cn cs a ccd cl outer A₀ base h₀ L m s Q E B F X N T hk hdp hu hret; walk_at "bg enter"
  walk_at "bg walk"
  · exact endI hret (by unfold lsh; rw [if_pos (by assumption)]) (by k_asm) (by k_asm)
  · exact endI hret (by unfold lsh; rw [if_neg (by omega)]) (by k_asm) (by k_asm)
theorem c_rsh (w : World) (news : Led) (x n : Int) (tx tn : Tok) (hs : (Builtin.Int.intBits x : Int) + (-n) ≤ 2 ^ 27) :
    Con w 29 1 news [.int x tx, .int n tn] (RetI news (rsh x n)) := c_rshift w news x n tx tn hs
theorem RowsAre.all {led : Led} {us : List Value} {rs : List (Int × Int)} (h : RowsAre led us rs) : ∀ v ∈ us, ∃ a x y t u, v = .ref a ∧ (a, T2 (.int x t) (.int y u)) ∈ led ∧ (x, y) ∈ rs := by
  induction h with
  | nil => intro v hv; cases hv
  | snoc _ hm ih =>
    intro v hv
    rcases List.mem_append.mp hv with hv | hv
    · obtain ⟨a, x, y, t, u, e, h1, h2⟩ := ih v hv
      exact ⟨a, x, y, t, u, e, h1, List.mem_append_left _ h2⟩
    · rw [List.mem_singleton.mp hv]
      exact ⟨_, _, _, _, _, rfl, hm, List.mem_append_right _ (.head _)⟩
theorem RowsAre.last {led : Led} {us : List Value} {rs' : List (Int × Int)} {x y : Int} (h : RowsAre led us (rs' ++ [(x, y)])) : ∃ us' a t u, us = us' ++ [.ref a] ∧ (a, T2 (.int x t) (.int y u)) ∈ led := by
  generalize e : rs' ++ [(x, y)] = rs at h
  cases h with
  | nil => simp at e
  | snoc _ hm =>
    have := List.append_inj' e rfl
    obtain ⟨_, e2⟩ := this
    injection e2 with e2 _
    injection e2 with e3 e4
    subst e3 e4
    exact ⟨_, _, _, _, rfl, hm⟩
local macro_rules | `(tactic| walk_at "call ref") => `(tactic| (k_here; (with_reducible show wpAny _ _ (call (Value.ref 36) _) _ _ _); k_dflt (refine' Con.use (c_lsh _ _ _ _ _ _ ?p0) ?k1 ?k2 ?k3 ?k4 ?k5 ?k6 ?k7 ?k8 ?_; (case k1 => k_asm); (case k2 => k_asm); (case k3 => k_asm); (case k4 => k_asm); (case k5 => k_asm); (case k6 => first | exact rfl | assumption); (case k7 => first | exact bg_room (by assumption) (by decide) | ktr_room); (case k8 => first | exact bg_units (by assumption) (by decide) | ktr_units); (case p0 => first | with_reducible assumption | with_reducible exact rfl | k_mem | walk_at "bg side"); intro t' h' tk' F' N'); (try dsimp only); (try k_fold); (try k_sweep)))
local macro_rules | `(tactic| walk_at "call ref") => `(tactic| (k_here; (with_reducible show wpAny _ _ (call (Value.ref 29) _) _ _ _); k_dflt (refine' Con.use (c_rsh _ _ _ _ _ _ ?p0) ?k1 ?k2 ?k3 ?k4 ?k5 ?k6 ?k7 ?k8 ?_; (case k1 => k_asm); (case k2 => k_asm); (case k3 => k_asm); (case k4 => k_asm); (case k5 => k_asm); (case k6 => first | exact rfl | assumption); (case k7 => first | exact bg_room (by assumption) (by decide) | ktr_room); (case k8 => first | exact bg_units (by assumption) (by decide) | ktr_units); (case p0 => first | with_reducible assumption | with_reducible exact rfl | k_mem | walk_at "bg side"); intro t' h' tk' F' N'); (try dsimp only); (try k_fold); (try k_sweep)))
theorem c_back (w : World) (news : Led) (R : Addr) (us : List Value) (ep : Nat) (rs rs' : List (Int × Int)) (w9 x9 : Int) (hR : (R, listOf us.toArray ep) ∈ news) (hrows : RowsAre news us rs) (hl : rs = rs' ++ [(w9, x9)]) (hw9 : w9 ≤ 5000) (hb9 : (Builtin.Int.intBits x9 : Int) ≤ 5000) (hall : ∀ p ∈ rs, BackOK w9 x9 p) :
    Con w 250 2 news [.ref R] (RetB news true) := by
  unfold Con; k_fill
  intro loose mean mg mb dp un gd cn cs a ccd cl outer A₀ base h₀ L m s Q E B F X N T hk hdp hu hret; walk_at "bg enter"
  obtain ⟨us', a9, ta9, tb9, eu, hm9⟩ := RowsAre.last (hl ▸ hrows)
  walk_at "bg walk"
  walk_at "bg for"
  walk_at "bg walk"
  refine items_fix _ (by assumption) ?hws ?hkeep (fun xs m => (∀ it ∈ xs, ∃ a x y t u, it = .val (.ref a) ∧ (a, T2 (.int x t) (.int y u)) ∈ news ∧ (x, y) ∈ rs) ∧ m "wide" = some (.int w9 ta9) ∧ m "r" = some (.int x9 tb9)) ?step ?done _ _ ?init
  case hws => simp
  case hkeep => simpa using hR
  case init =>
    refine ⟨fun it hit => ?_, rfl, rfl⟩
    obtain ⟨v, hv, rfl⟩ := List.mem_map.mp hit
    obtain ⟨a, x, y, t, u, rfl, h1, h2⟩ := hrows.all v hv
    exact ⟨a, x, y, t, u, rfl, h1, h2⟩
  case done =>
    rintro m h tk _ F₁ N₁
    walk_at "bg walk"
    all_goals first | (walk_at "bg ends") | trace_state
  case step =>
    rintro it r m ⟨hit, em1, em2⟩ v h tk hv F₁
    obtain ⟨a, x, y, t, u, rfl, hm1, hm2⟩ := hit it (.head _)
    obtain ⟨q1, q2, q3, q4⟩ := hall _ hm2
    dsimp only at q1 q2 q3 q4
    have q5 : rsh y (x - w9) = y * 2 ^ (w9 - x).toNat := by rw [rsh_eq (by omega)]; congr 2; omega
    have q6 : (Builtin.Int.intBits 2 : Int) * (w9 - x) ≤ 2 ^ 27 := by have : Builtin.Int.intBits 2 = 2 := rfl; rw [this]; omega
    have q7 : IntMulOk y ((2:Int) ^ (w9 - x).toNat) := mulOk_of_bits (Nat.le_refl _) (bits_pow _) (by omega)
    have e1 : v = .ref a := hv
    subst e1
    replace F₁ := bgfix F₁ [("wide", .int w9 ta9), ("r", .int x9 tb9)] (by simp [em1, em2])
    ktu_objs
    walk_at "bg walk"
    all_goals exact ⟨_, _, _, _, rfl, by k_asm, by assumption, by walk_at "bg sub", fun it hit' => hit it (.tail _ hit'), rfl, rfl⟩
end
local macro_rules | `(tactic| walk_at "bg none") => `(tactic| skip)
local macro_rules | `(tactic| walk_at "bg none") => `(tactic| skip)
local macro_rules | `(tactic| walk_at "bg none") => `(tactic| skip)
section
set_option maxRecDepth 100000
set_option maxHeartbeats 2000000
theorem c_giant2 (w : World) (news : Led) (st tg : Int) (t₁ t₂ : Tok) (hs : 8 ≤ st) (hs2 : st ≤ 16) (ht : 4 ≤ tg) (ht2 : tg ≤ 303) :
    Con w 22 1 news [.int st t₁, .int tg t₂] (RetL news (GS st 2 tg)) := by
  have hn : (2:Int) ≤ 2 := by decide
  unfold Con; k_fill
  intro loose mean mg mb dp un gd cn cs a ccd cl outer A₀ base h₀ L m s Q E B F X N T hk hdp hu hret; walk_at "bg enter"
  walk_at "bg walk"
  · refine' While_inv2 (fun k m₁ news₁ => ∃ a us x t xs, news₁ = (a, listOf (us ++ [Value.int x t]).toArray 0) :: news ∧ (us.length : Int) + x ≤ 400 ∧ 0 < x ∧ (∀ p ∈ news, p.1 < a) ∧ IntsAre (us ++ [Value.int x t]) (x :: xs).reverse ∧ Asc st (2:Int) tg (x :: xs) ∧ x.toNat ≤ k ∧
      m₁ "start" = some (.int st t₁) ∧ (∃ tn, m₁ "n" = some (.int 2 tn)) ∧ m₁ "L" = some (.ref a)) ?F ?N ?hJ ?turn ?hE
    case F => k_asm
    case N => k_asm
    case hJ => exact ⟨_, [], tg, t₂, [], rfl, by show ((0:Nat):Int) + tg ≤ 400; omega, by omega, by walk_at "bg lt", .cons _ _ .nil, .one, Nat.le_refl _, rfl, ⟨_, rfl⟩, rfl⟩
    case hE => first | passes_own | with_unfolding_all passes_own
    case turn =>
      rintro k m₁ news₁ h₁ tk₁ F₁ N₁ ⟨a, us, x, t, xs, rfl, hsz, hx0, hlt, hi, hA, hk, e1, ⟨tn, e2⟩, e3⟩
      replace F₁ := bgfix F₁ [("start", .int st t₁), ("n", .int 2 tn), ("L", .ref a)] (by simp [e1, e2, e3])
      have hmul : IntMulOk st (2:Int) := IntMulOk.of_left (intBits_le_64 (by omega) (by omega))
      have hz1 : us.length ≤ 400 := by omega
      walk_at "bg walk"
      · rename (st * (2:Int) < x) => hgt
        have hge : 16 ≤ st * (2:Int) := by
          have := Int.mul_le_mul hs hn (by decide) (by omega)
          omega
        have hd0 : 0 ≤ x.fdiv (2:Int) := by rw [fdiv_pos_eq (by omega)]; exact Int.ediv_nonneg (by omega) (by omega)
        have hd2 : x.fdiv (2:Int) * 2 ≤ x := by
          rw [fdiv_pos_eq (by omega)]
          have h1 := Int.mul_ediv_add_emod x (2:Int)
          have h2 := Int.emod_nonneg x (show (2:Int) ≠ 0 by omega)
          have h3 : 2 * (x / (2:Int)) ≤ (2:Int) * (x / (2:Int)) := Int.mul_le_mul_of_nonneg_right hn (by rw [← fdiv_pos_eq (by omega)]; exact hd0)
          omega
        refine ⟨_, _, _, _, k - 1, rfl, by k_asm, drop2 (by assumption), by omega, _, us ++ [Value.int x t], x.fdiv (2:Int) + 2, _, x :: xs, rfl, ?_, by omega, by walk_at "bg lt", ?_, .cons hA (by omega), by omega, rfl, ⟨_, rfl⟩, rfl⟩
        · rw [List.length_append, List.length_singleton]; push_cast; omega
        · rw [List.reverse_cons]
          exact IntsAre.append hi (.cons _ _ .nil)
      · rename (¬ st * (2:Int) < x) => hgt
        refine hret _ _ (x :: xs) _ _ (by k_asm) (drop1 (by assumption)) (by walk_at "bg lt") ?_ ⟨hA, x, xs, rfl, by omega⟩
        have := IntsAre.reverse hi
        rw [List.reverse_reverse] at this
        exact this
theorem c_giantG2 (w : World) (news : Led) (st tg : Int) (t₁ t₂ : Tok) (hs : 8 ≤ st) (hs2 : st ≤ 16) (ht : 4 ≤ tg) (ht2 : tg ≤ 303) :
    Con w 22 1 news [.int st t₁, .int tg t₂] (RetG news tg (fun y r => Asc st 2 tg (y :: r) ∧ y ≤ st * 2 ∧ (st * 2 < tg → st < y ∧ r ≠ []))) :=
  (c_giant2 w news st tg t₁ t₂ hs hs2 ht ht2).weaken fun _ _ _ _ _ ret => giant_apart hs (by decide) ht2 ht ret
/-- the sign and the size of an int -/
def sgn (m : Int) : Int := if m < 0 then 1 else 0
def am (m : Int) : Int := if m < 0 then -m else m
theorem c_fmx (w : World) (news : Led) (m exp : Int) (t₁ t₂ : Tok) (h : m ≠ 0) :
    Con w 116 2 news [.int m t₁, .int exp t₂] (RetT news (sgn m) (od (am m)) (exp + tz (am m)) (bl (od (am m)))) := by
  by_cases hm : m < 0
  · have e1 : sgn m = 1 := if_pos hm
    have e2 : am m = -m := if_pos hm
    rw [e1, e2]; exact c_fmen w news m exp t₁ t₂ hm
  · have e1 : sgn m = 0 := if_neg hm
    have e2 : am m = m := if_neg hm
    rw [e1, e2]; exact c_fme w news m exp t₁ t₂ (by omega)
theorem c_absx (w : World) (news : Led) (r : Addr) (s₀ man exp bc : Int) (t₁ t₂ t₃ t₄ : Tok) (hr : (r, T4 (.int s₀ t₁) (.int man t₂) (.int exp t₃) (.int bc t₄)) ∈ news) (hm : man ≠ 0) :
    Con w 161 1 news [.ref r] (RetD news 0 man exp bc) := by
  by_cases hs : s₀ = 0
  · subst hs
    exact (c_abs0 w news r 0 man exp bc t₁ t₂ t₃ t₄ hr hm rfl).weaken fun h₀ L m s Q ret h' tk' F N => ret r t₁ t₂ t₃ t₄ h' tk' F fun p hp => by
      rcases List.mem_cons.mp hp with rfl | hp
      · exact N _ hr
      · exact N p hp
  · exact (c_abs w news r s₀ man exp bc t₁ t₂ t₃ t₄ hr hm hs).weaken fun h₀ L m s Q ret r' a b c d h' tk' F N l => ret r' a b c d h' tk' F N
theorem c_rdivx (w : World) (news : Led) (r : Addr) (ts tm te tb prec : Int) (t₁ t₂ t₃ t₄ t₅ t₆ t₇ : Tok) (hr : (r, T4 (.int ts t₁) (.int tm t₂) (.int te t₃) (.int tb t₄)) ∈ news) (hm : 0 < tm) (ho : tm % 2 = 1) (hp : 0 < prec) (htb : tb = Builtin.Int.intBits tm) (hp2 : prec ≤ 1000) (htb2 : tb ≤ 1000) :
    Con w 214 4 news [.int 1 t₇, .ref r, .int prec t₅, .str "n" t₆] (RetT news ts (qM tm tb prec) (qE tm tb prec - te) (qB tm tb prec)) := by
  by_cases h1 : tm = 1
  · exact c_rdiv1 w news r ts tm te tb prec t₁ t₂ t₃ t₄ t₅ t₆ t₇ hr h1 hp (by rw [htb, h1]; rfl) hp2
  · exact c_rdiv w news r ts tm te tb prec t₁ t₂ t₃ t₄ t₅ t₆ t₇ hr (by omega) ho hp htb hp2 htb2
theorem c_divx (w : World) (news : Led) (r : Addr) (ts tm te tb prec : Int) (t₁ t₂ t₃ t₄ t₅ t₆ : Tok) (hr : (r, T4 (.int ts t₁) (.int tm t₂) (.int te t₃) (.int tb t₄)) ∈ news) (hm : 0 < tm) (ho : tm % 2 = 1) (hp : 0 < prec) (htb : tb = Builtin.Int.intBits tm) (hp2 : prec ≤ 1000) (htb2 : tb ≤ 1000) (hts : ts = 0 ∨ ts = 1) :
    Con w 206 4 news [.ref 86, .ref r, .int prec t₅, .str "n" t₆] (RetT news ts (qM tm tb prec) (qE tm tb prec - te) (qB tm tb prec)) := by
  by_cases h1 : tm = 1
  · exact c_div1 w news r ts tm te tb prec t₁ t₂ t₃ t₄ t₅ t₆ hr h1 hp hts
  · exact c_div w news r ts tm te tb prec t₁ t₂ t₃ t₄ t₅ t₆ hr (by omega) ho hp htb hp2 htb2 hts
theorem c_msqrtx (w : World) (news : Led) (r : Addr) (man exp bc prec : Int) (t₁ t₂ t₃ t₄ t₅ t₆ : Tok) (hr : (r, T4 (.int 0 t₁) (.int man t₂) (.int exp t₃) (.int bc t₄)) ∈ news) (hm : 0 < man) (hp : 0 < prec) (hp2 : prec ≤ 1000) (hbc : bc = Builtin.Int.intBits man) (hb2 : bc ≤ 1000) :
    Con w 222 5 news [.ref r, .int prec t₅, .str "n" t₆] (RetT news 0 (uM man bc prec exp) (uE man bc prec exp) (uB man bc prec exp)) := by
  unfold uM uE uB
  by_cases ho : exp % 2 = 1
  · rw [if_pos ho, if_pos ho, if_pos ho]
    exact c_msqrt_o w news r man exp bc prec t₁ t₂ t₃ t₄ t₅ t₆ hr hm hp hp2 hbc hb2 ho
  · rw [if_neg ho, if_neg ho, if_neg ho]
    by_cases h1 : man = 1
    · rw [if_pos h1, if_pos h1, if_pos h1]
      exact c_msqrt_1 w news r man exp bc prec t₁ t₂ t₃ t₄ t₅ t₆ hr h1 hp hbc (by omega)
    · rw [if_neg h1, if_neg h1, if_neg h1]
      exact c_msqrt_e w news r man exp bc prec t₁ t₂ t₃ t₄ t₅ t₆ hr hm hp hp2 hbc hb2 (by omega) h1
end
local macro_rules | `(tactic| walk_at "bg none") => `(tactic| skip)
section
set_option maxRecDepth 100000
set_option maxHeartbeats 2000000
/-- what mpf_lt needs of a difference's size -/
def LtOK (M e b T : Int) : Prop := M ≠ 0 → 0 < M ∧ 1 ≤ b ∧ b + e ≤ T
def RetS (news : Led) (T : Int) (h₀ : Heap) (L : Addr) (m : Str → Option Value) (s : Shared) (Q : Value → Shared → Prop) : Prop :=
  ∀ v nw h' tk' sg M e b, Fr h₀ L h' m → News h₀ L h' nw → SubOf news nw → TupV nw v sg M e b → LtOK M e b T → Q v { s with heap := h', toks := tk' }
def RetA (news : Led) (M e b : Int) (h₀ : Heap) (L : Addr) (m : Str → Option Value) (s : Shared) (Q : Value → Shared → Prop) : Prop :=
  ∀ v nw h' tk', Fr h₀ L h' m → News h₀ L h' nw → SubOf news nw → TupV nw v 0 M e b → Q v { s with heap := h', toks := tk' }
theorem TupV.cons {p : Addr × Obj} {nw : Led} {v : Value} {sg M e b : Int} (h : TupV nw v sg M e b) : TupV (p :: nw) v sg M e b := h.mono fun q hq => .tail _ hq
theorem RowsAre.cons {p : Addr × Obj} {nw : Led} {us : List Value} {rs : List (Int × Int)} (h : RowsAre nw us rs) : RowsAre (p :: nw) us rs := h.mono fun q hq => .tail _ hq
theorem c_subx (w : World) (news : Led) (r r₂ : Addr) (sm se sb tm te tb se' te' T : Int) (t₁ t₂ t₃ t₄ u₁ u₂ u₃ u₄ : Tok) (hr : (r, T4 (.int 0 t₁) (.int sm t₂) (.int se t₃) (.int sb t₄)) ∈ news) (hr₂ : (r₂, T4 (.int 0 u₁) (.int tm u₂) (.int te u₃) (.int tb u₄)) ∈ news) (h : SubOK sm se' tm te' T) (e1 : se = se') (e2 : te = te') :
    Con w 184 5 news [.ref r, .ref r₂] (RetS news T) := by
  subst e1 e2
  obtain ⟨h1, h2, h3, h4, h5, h6, h7⟩ := h
  refine (c_sub w news r r₂ sm se sb tm te tb t₁ t₂ t₃ t₄ u₁ u₂ u₃ u₄ hr hr₂ h1 h2 h3 h4 h5 h6).weaken fun h₀ L m s Q ret v tl h' tk' sg M e b F N hT hM => ?_
  refine ret v (tl ++ news) h' tk' sg M e b F N (fun p hp => List.mem_append_right _ hp) hT fun hM0 => ?_
  obtain ⟨q0, q1, q2, q3⟩ := hM hM0
  have := h7 q0
  exact ⟨q1, q2, by omega⟩
theorem c_absvx (w : World) (news : Led) (v : Value) (sg man exp bc : Int) (hv : TupV news v sg man exp bc) :
    Con w 161 1 news [v] (RetA news man exp bc) :=
  (c_absv w news v sg man exp bc hv).weaken fun h₀ L m s Q ret v' tl h' tk' F N hT => ret v' (tl ++ news) h' tk' F N (fun p hp => List.mem_append_right _ hp) hT
theorem c_ltx (w : World) (news : Led) (v : Value) (r₂ : Addr) (man exp bc te T : Int) (u₁ u₂ u₃ u₄ : Tok) (hv : TupV news v 0 man exp bc) (hL : LtOK man exp bc T) (hr₂ : (r₂, T4 (.int 0 u₁) (.int 1 u₂) (.int te u₃) (.int 1 u₄)) ∈ news) (hT : T ≤ te) :
    Con w 145 3 news [v, .ref r₂] (RetB news true) :=
  c_ltv w news v r₂ man exp bc te u₁ u₂ u₃ u₄ hv hr₂ fun h => by obtain ⟨q1, q2, q3⟩ := hL h; exact ⟨q1, q2, by omega⟩
/-- the rows that a round's loop hands on, taken apart -/
def RetRB (news : Led) (tg : Int) (P : Int → Prop) (n : Nat) (h₀ : Heap) (L : Addr) (m : Str → Option Value) (s : Shared) (Q : Value → Shared → Prop) : Prop :=
  ∀ R us us' a9 ta tb rs rs' x9 ep nw h' tk', Fr h₀ L h' m → News h₀ L h' ((R, listOf (List.toArray us) ep) :: nw) → SubOf news nw → us = us' ++ [.ref a9] → (a9, T2 (.int (tg + 8) ta) (.int x9 tb)) ∈ nw → RowsAre nw us rs → rs = rs' ++ [(tg + 8, x9)] → (∀ p ∈ rs, BackOK (tg + 8) x9 p) → us.length = n → P x9 → (Builtin.Int.intBits x9 : Int) ≤ 5000 → Q (.ref R) { s with heap := h', toks := tk' }
theorem rows_apart {news : Led} {tg : Int} {I : Int → Int → Prop} {P : Int → Prop} {n : Nat} {h₀ : Heap} {L : Addr} {m : Str → Option Value} {s : Shared} {Q : Value → Shared → Prop} (hB : ∀ w x x9, 12 ≤ w → w ≤ tg + 8 → I w x → I (tg + 8) x9 → BackOK (tg + 8) x9 (w, x)) (hP : ∀ x9, I (tg + 8) x9 → P x9 ∧ (Builtin.Int.intBits x9 : Int) ≤ 5000)
    (ret : RetRB news tg P n h₀ L m s Q) : RetR news (RowsOK I tg n) h₀ L m s Q := by
  intro R us rs ep tl h' tk' F N hsub hrows ⟨hlen, hall, rs', x9, e⟩
  have h9 : I (tg + 8) x9 := (hall (tg + 8, x9) (by rw [e]; exact List.mem_append_right _ (.head _))).1
  obtain ⟨us', a9, ta, tb, eu, hm⟩ := RowsAre.last (e ▸ hrows)
  obtain ⟨p1, p2⟩ := hP x9 h9
  refine ret R us us' a9 ta tb rs rs' x9 ep tl h' tk' F N hsub eu hm hrows e (fun p hp => ?_) (by rw [RowsAre.length hrows, hlen]) p1 p2
  obtain ⟨a1, a2, a3⟩ := hall p hp
  exact hB p.1 p.2 x9 a2 a3 a1 h9
theorem c_overB (w : World) (news : Led) (ry : Addr) (man ex bc : Int) (c : Nat) (t₀ t₂ t₃ t₄ : Tok) (hy : (ry, T4 (.int 0 t₀) (.int man t₂) (.int ex t₃) (.int bc t₄)) ∈ news) (hex : ex = -(c : Int))
    (al : Addr) (vs rest : List Value) (y st tg : Int) (r : List Int) (ty : Tok) (ha : (al, listOf vs.toArray 0) ∈ news) (e1 : vs = .int y ty :: rest) (hI : IntsAre rest r) (hA : Asc st 2 tg (y :: r)) (hs : 8 ≤ st) (ht : 4 ≤ tg) (ht2 : tg ≤ 303) (hy4 : 4 ≤ y)
    (hm : 0 < man) (hb : bc = Builtin.Int.intBits man) (hcb : c = Builtin.Int.intBits man) (ho : man % 2 = 1) (hc : c ≤ 900) :
    Con w 236 2 news [.ref ry, .ref al] (RetRB news tg (fun x => 0 < x ∧ SubOK (qM man bc tg) (qE man bc tg + bc) (od x) ((tz x : Int) - (tg + 8)) (1 - tg)) (r.length + 1)) := by
  have hmC : man < 2 ^ c := by rw [hcb]; exact bl_lt (by omega)
  have hlo : 2 ^ c ≤ 2 * man := by
    have h1 := bl_ge hm
    have h2 := bl_pos hm
    have : c = (bl man - 1) + 1 := by show c = Builtin.Int.intBits man - 1 + 1; have h3 : 1 ≤ Builtin.Int.intBits man := h2; omega
    rw [this, Int.pow_succ]; omega
  refine (c_over w news ry man ex bc c t₀ t₂ t₃ t₄ hy hex al vs rest y st tg r ty ha e1 hI hA hs ht ht2 hy4 hm hmC hlo (by omega)).weaken fun h₀ L m s Q ret => rows_apart ?_ ?_ ret
  · intro w' x x9 h1 h2 h3 h4
    exact back_over h1 h2 (by omega) hm hmC hlo h3 h4
  · intro x9 h9
    obtain ⟨g1, g2⟩ := inv_R (by omega) (by omega) hm hmC hlo h9
    have hbc : bc = (c : Int) := by omega
    rw [hbc]
    exact ⟨⟨g1, q_sub hm ho hcb (by omega) ht ht2 h9⟩, by omega⟩
/-- what the law asks of the last root -/
def RootOK (M : Int) (c : Nat) (tg s : Int) : Prop := IntMulOk (tf M (-(c : Int)) (tg + 8)) s ∧ (Builtin.Int.intBits (tf M (-(c : Int)) (tg + 8) * s) : Int) ≤ 5000 ∧
  ¬ ((if rsh (tf M (-(c : Int)) (tg + 8) * s) (tg + 8) - sq (tf M (-(c : Int)) (tg + 8) * 2 ^ (tg + 8).toNat) < 0 then -(rsh (tf M (-(c : Int)) (tg + 8) * s) (tg + 8) - sq (tf M (-(c : Int)) (tg + 8) * 2 ^ (tg + 8).toNat)) else rsh (tf M (-(c : Int)) (tg + 8) * s) (tg + 8) - sq (tf M (-(c : Int)) (tg + 8) * 2 ^ (tg + 8).toNat)) > 264)
theorem root_ok {M s tg : Int} {c : Nat} (hM : 0 < M) (hmC : M < 2 ^ c) (hlo : 2 ^ c ≤ 4 * M) (ht : 4 ≤ tg) (ht2 : tg ≤ 303) (h : INR M c (tg + 8) s) : RootOK M c tg s := by
  obtain ⟨t, rfl⟩ : ∃ t : Nat, tg = t := ⟨tg.toNat, by omega⟩
  obtain ⟨g1, g2⟩ := root264 hM hmC hlo (by omega) h rfl rfl rfl
  have hb := INR_bits (by omega) hM hmC hlo h
  obtain ⟨F1, F2⟩ := tf_bounds (v := t + 8) (by omega) hM hmC hlo
  have e1 : (((t + 8 : Nat)) : Int) = (t : Int) + 8 := by push_cast; rfl
  have e2 : ((t : Int) + 8).toNat = t + 8 := by omega
  rw [e1] at g1 g2 F1 F2
  have hbF : Builtin.Int.intBits (tf M (-(c : Int)) ((t : Int) + 8)) ≤ t + 8 := bl_le_of_lt (by omega) F2
  have hbm := bits_mul hbF (Nat.le_refl (Builtin.Int.intBits s))
  unfold RootOK
  refine ⟨mulOk_of_bits hbF (Nat.le_refl _) (by omega), by omega, ?_⟩
  have e3 : rsh (tf M (-(c : Int)) ((t : Int) + 8) * s) ((t : Int) + 8) = (tf M (-(c : Int)) ((t : Int) + 8) * s) / 2 ^ (t + 8) := by
    unfold rsh; rw [if_pos (by omega), e2, fdiv_pow]
  rw [e3, e2]
  split <;> omega
theorem c_roverB (w : World) (news : Led) (ry : Addr) (man ex bc : Int) (c : Nat) (t₀ t₂ t₃ t₄ : Tok) (hy : (ry, T4 (.int 0 t₀) (.int man t₂) (.int ex t₃) (.int bc t₄)) ∈ news) (hex : ex = -(c : Int))
    (al : Addr) (vs rest : List Value) (y st tg : Int) (r : List Int) (ty : Tok) (ha : (al, listOf vs.toArray 0) ∈ news) (e1 : vs = .int y ty :: rest) (hI : IntsAre rest r) (hA : Asc st 2 tg (y :: r)) (hs : 8 ≤ st) (ht : 4 ≤ tg) (ht2 : tg ≤ 303) (hy4 : 4 ≤ y)
    (hm : 0 < man) (hcb : c = Builtin.Int.intBits man ∨ c = Builtin.Int.intBits man + 1) (hc : c ≤ 900) :
    Con w 243 5 news [.ref ry, .ref al] (RetRB news tg (fun x => RootOK man c tg x) (r.length + 1)) := by
  have hmB : man < 2 ^ (bl man) := bl_lt (by omega)
  have hbl : 2 ^ (bl man) ≤ 2 * man := by
    have h1 := bl_ge hm
    have h2 := bl_pos hm
    have : bl man = (bl man - 1) + 1 := by omega
    rw [this, Int.pow_succ]; omega
  have hmC : man < 2 ^ c := by
    have := pow_le (i := bl man) (j := c) (by show Builtin.Int.intBits man ≤ c; omega)
    omega
  have hlo : 2 ^ c ≤ 4 * man := by
    rcases hcb with rfl | rfl
    · have hbl' : 2 ^ Builtin.Int.intBits man ≤ 2 * man := hbl
      omega
    · have hbl' : 2 ^ Builtin.Int.intBits man ≤ 2 * man := hbl
      rw [Int.pow_succ]; omega
  refine (c_rover w news ry man ex bc c t₀ t₂ t₃ t₄ hy hex al vs rest y st tg r ty ha e1 hI hA hs ht ht2 hy4 hm hmC hlo (by omega)).weaken fun h₀ L m s Q ret => rows_apart ?_ ?_ ret
  · intro w' x x9 h1 h2 h3 h4
    exact back_root h1 h2 (by omega) hm hmC hlo h3 h4
  · intro x9 h9
    have hb := INR_bits (by omega) hm hmC hlo h9
    exact ⟨root_ok hm hmC hlo ht ht2 h9, by omega⟩
end
local macro_rules | `(tactic| walk_at "bg none") => `(tactic| skip)
section
set_option maxRecDepth 100000
set_option maxHeartbeats 40000000
/-- the drawn number, brought below the bound -/
def mm (x : Int) : Int := if (if x < 0 then -x else x) < 10 ^ (110:Int).toNat then x else x.fmod (10 ^ (110:Int).toNat)
theorem mm_lt (x : Int) : -(10 ^ (110:Int).toNat) < mm x ∧ mm x < 10 ^ (110:Int).toNat := by
  have hp : (0:Int) < 10 ^ (110:Int).toNat := by decide
  unfold mm
  generalize (10:Int) ^ (110:Int).toNat = B at *
  by_cases h : (if x < 0 then -x else x) < B
  · rw [if_pos h]
    by_cases h1 : x < 0
    · rw [if_pos h1] at h; omega
    · rw [if_neg h1] at h; omega
  · rw [if_neg h]
    have h1 := Int.fmod_nonneg_of_pos x hp
    have h2 := Int.fmod_lt_of_pos x hp
    omega
theorem join_int {prog : Program} {w : World} {A : Around} {c : Sem Value} {Q E : Value → Shared → Prop} {s : Shared} (x : Int) (h1 : wpAny (model prog w) A c (fun v s' => ∃ t tk, v = .int x t ∧ s' = { s with toks := tk }) E s) (h2 : ∀ t tk, Q (.int x t) { s with toks := tk }) : wpAny (model prog w) A c Q E s :=
  wpAny_mono h1 (fun v s' ⟨t, tk, e1, e2⟩ => by subst e1 e2; exact h2 t tk) fun _ _ e => e
theorem ne_c1 {l : Led} {L : Addr} (h : ∀ p ∈ l, p.1 < L) : ∀ p ∈ l, p.1 ≠ L + 1 := fun p hp e => by
  have h1 := h p hp
  rw [e] at h1
  exact absurd (Nat.lt_of_succ_lt h1) (Nat.lt_irrefl _)
theorem ne_c2 {l : Led} {L : Addr} (h : ∀ p ∈ l, p.1 < L) : ∀ p ∈ l, p.1 ≠ L + 1 + 1 := fun p hp e => by
  have h1 := h p hp
  rw [e] at h1
  exact absurd (Nat.lt_of_succ_lt (Nat.lt_of_succ_lt h1)) (Nat.lt_irrefl _)
local macro_rules | `(tactic| k_all) => `(tactic| first | (refine' List.forall_mem_cons.mpr ⟨?a, ?b⟩; (case a => k_ne); (case b => k_all)) | exact ne_c1 (by assumption) | exact ne_c2 (by assumption))
local macro_rules | `(tactic| walk_at "bg enterC") => `(tactic| (refine wpAny_call ?_; k_dflt (refine' code_turnC ?k1 ?k2 ?k3 ?k4 ?k5 ?XB ?TB ?D ?kA ?kF ?kK ?k6 ?k7 ?k8 ?k9 ?kB ?kD ?_ ?c2 ?c3 ?c4; (case kA => exact rfl); (case kF => exact rfl); (case kK => first | exact rfl | assumption); (case k2 => k_asm); (case k1 => k_asm); (case XB => assumption); (case TB => assumption); (case D => assumption); (case k3 => k_asm); (case k4 => k_asm); (case k5 => k_asm); (case k6 => k_is); (case k7 => k_is); (case k8 => ktr_room); (case k9 => first | exact BindsTo.of_eq rfl | exact binds_K (by k_in) rfl (by k_is) rfl rfl rfl); (case kB => exact rfl); (case kD => decide +kernel); (case c2 => exact rfl); (case c3 => exact rfl); (case c4 => exact rfl); k_whole; intro g' L' h' tk' cells' FG' F' N' Y' B' X' T' l1 D'; (try k_lt l1); k_cells Y'; (try simp only [List.cons_append, List.nil_append] at N'); (try dsimp only); (try k_lift B'); (try k_fold))))
local macro_rules | `(tactic| walk_at "bg walk1") => `(tactic| repeat' ((fail_if_success (with_reducible show wpAny _ _ (eval (Expr.IfExp _ _ _ _) _) _ _ _)); (fail_if_success (with_reducible show wpAny _ _ (exec (Stmt.If (Expr.BinOp _ _ _ _) _ _ _) _) _ _ _)); (fail_if_success (with_reducible show wpAny _ _ (exec (Stmt.While _ _ _ _) _) _ _ _)); (fail_if_success (with_reducible show wpAny _ _ (exec (Stmt.For _ _ _ _ _) _) _ _ _)); (fail_if_success (with_reducible show ItemsRest _ _ _ _ _ _ _ _ _ _ _ _ _ _ _)); (fail_if_success (with_reducible show UnrEndW _ _ _ _ _ _)); walk_at "bg step"))
local macro_rules | `(tactic| walk_at "eval Call") => `(tactic| k_dflt (refine Call_ ?_))
local macro_rules | `(tactic| walk_at "eval ListComp") => `(tactic| (k_here; k_dflt (refine ListComp_tup (by k_asm) (by with_unfolding_all rfl) (by decide) (by rfl) (by decide) (by rfl) ?_)))
local macro_rules | `(tactic| walk_at "CompTup") => `(tactic| (k_here; k_dflt (refine comp_three (by rfl) (by k_asm) (by k_asm) (by k_mem) ?_); intro g'))
local macro_rules | `(tactic| walk_at "CompRest") => `(tactic| (with_unfolding_all first
  | (refine LCg.CompRest.succ ?_; intro v' I' oI' C' oC' D' m' h' tk' E' hv' hC' hx' F' N' off' ne'; lcg_open hv')
  | refine LCg.CompRest.zero ?_))
local macro_rules | `(tactic| walk_at "CompEnd") => `(tactic| (refine LCg.CompEnd.intro (by k_asm) (by k_asm) _ (fun p hp => hp) (by assumption) ⟨_, by k_mem, rfl, _, rfl⟩ ?_))
local macro_rules | `(tactic| walk_at "call ref") => `(tactic| (k_here; (with_reducible show wpAny _ _ (call (Value.ref 116) _) _ _ _); k_dflt (refine' Con.use (c_fmez _ _ _ _ _ ) ?k1 ?k2 ?k3 ?k4 ?k5 ?k6 ?k7 ?k8 ?_; (case k1 => k_asm); (case k2 => k_asm); (case k3 => k_asm); (case k4 => k_asm); (case k5 => k_asm); (case k6 => first | exact rfl | assumption); (case k7 => first | exact bg_room (by assumption) (by decide) | ktr_room); (case k8 => first | exact bg_units (by assumption) (by decide) | ktr_units); intro h' tk' F' N'); (try dsimp only); (try k_fold); (try k_sweep)))
local macro_rules | `(tactic| walk_at "call ref") => `(tactic| (k_here; (with_reducible show wpAny _ _ (call (Value.ref 229) _) _ _ _); k_dflt (refine' Con.use (c_lawsteps _ _ _ _ _ _ _ _ ?p0 ?p1 ?p2 ?p3 ?p4 ?p5 ) ?k1 ?k2 ?k3 ?k4 ?k5 ?k6 ?k7 ?k8 ?_; (case k1 => k_asm); (case k2 => k_asm); (case k3 => k_asm); (case k4 => k_asm); (case k5 => k_asm); (case k6 => first | exact rfl | assumption); (case k7 => first | exact bg_room (by assumption) (by decide) | ktr_room); (case k8 => first | exact bg_units (by assumption) (by decide) | ktr_units); (case p0 => first | with_reducible assumption | with_reducible exact rfl | k_mem | exact TupV.cons (by with_reducible assumption) | exact RowsAre.cons (by with_reducible assumption) | walk_at "bg side"); (case p1 => first | with_reducible assumption | with_reducible exact rfl | k_mem | exact TupV.cons (by with_reducible assumption) | exact RowsAre.cons (by with_reducible assumption) | walk_at "bg side"); (case p2 => first | with_reducible assumption | with_reducible exact rfl | k_mem | exact TupV.cons (by with_reducible assumption) | exact RowsAre.cons (by with_reducible assumption) | walk_at "bg side"); (case p3 => first | with_reducible assumption | with_reducible exact rfl | k_mem | exact TupV.cons (by with_reducible assumption) | exact RowsAre.cons (by with_reducible assumption) | walk_at "bg side"); (case p4 => first | with_reducible assumption | with_reducible exact rfl | k_mem | exact TupV.cons (by with_reducible assumption) | exact RowsAre.cons (by with_reducible assumption) | walk_at "bg side"); (case p5 => first | with_reducible assumption | with_reducible exact rfl | k_mem | exact TupV.cons (by with_reducible assumption) | exact RowsAre.cons (by with_reducible assumption) | walk_at "bg side"); intro h' tk' F' N'); (try dsimp only); (try k_fold); (try k_sweep)))
theorem c_zero (w : World) (news : Led) (x t : Int) (tx tt : Tok) (h0 : 0 ≤ t) (h5 : t ≤ 5) (em : mm x = 0) :
    ConS w 269 8 news [.int x tx, .int t tt] true := by
  unfold ConS; k_fill
  intro loose mean mg mb dp un gd cn cs a ccd cl outer A₀ base h₀ L m₀ s Q E B F X N T XB TB D hk hdp hu hret; walk_at "bg enterC"
  have g1 := Int.fmod_nonneg_of_pos x (show (0:Int) < 9 by decide)
  have g2 := Int.fmod_lt_of_pos x (show (0:Int) < 9 by decide)
  have g3 := Int.fmod_nonneg_of_pos (x.fdiv 7 + 90 + 60 * t) (show (0:Int) < 300 by decide)
  have g4 := Int.fmod_lt_of_pos (x.fdiv 7 + 90 + 60 * t) (show (0:Int) < 300 by decide)
  have f1 : (Builtin.Int.intBits 10 : Int) * 110 ≤ 2 ^ 27 := by decide
  walk_at "bg walk1"
  refine join_int 0 ?_ ?_
  · by_cases hx : (if x < 0 then -x else x) < 10 ^ (110:Int).toNat
    · have e : (0:Int) = x := by rw [← em]; exact if_pos hx
      rw [e]
      walk_at "bg walk"
    · have e : (0:Int) = x.fmod (10 ^ (110:Int).toNat) := by rw [← em]; exact if_neg hx
      rw [e]
      walk_at "bg walk"
  · intro tm tk
    (try dsimp only)
    walk_at "bg walk1"
    k_dflt (refine' ConS.use (c_refused _ _ _ _) ?k1 ?k2 ?k3 ?k4 ?k5 ?XB ?TB ?D ?k6 ?k7 ?k8 ?_; (case k2 => k_asm); (case k1 => k_asm); (case k3 => k_asm); (case k4 => k_asm); (case k5 => k_asm); (case XB => assumption); (case TB => assumption); (case D => assumption); (case k6 => first | exact rfl | assumption); (case k7 => ktr_room); (case k8 => ktr_units))
    intro h' tk' g' T' F' N' B' X' TP' D'
    (try dsimp only); (try k_lift B'); (try k_fold); (try k_sweep)
    walk_at "bg walk"
    all_goals exact hret _ _ _ (by assumption) (by k_asm) (by walk_at "bg led") (by assumption) (by assumption) (by assumption) (by assumption)
end
local macro_rules | `(tactic| walk_at "bg none") => `(tactic| skip)
local macro_rules | `(tactic| walk_at "bg none") => `(tactic| skip)
local macro_rules | `(tactic| walk_at "bg none") => `(tactic| skip)
local macro_rules | `(tactic| walk_at "bg none") => `(tactic| skip)
local macro_rules | `(tactic| walk_at "bg none") => `(tactic| skip)
local macro_rules | `(tactic| walk_at "bg none") => `(tactic| skip)
local macro_rules | `(tactic| walk_at "bg none") => `(tactic| skip)
local macro_rules | `(tactic| walk_at "bg none") => `(tactic| skip)
local macro_rules | `(tactic| walk_at "bg none") => `(tactic| skip)
local macro_rules | `(tactic| walk_at "bg none") => `(tactic| skip)
local macro_rules | `(tactic| walk_at "bg none") => `(tactic| skip)
section
set_option maxRecDepth 100000
set_option maxHeartbeats 40000000
theorem asc_ge4 {st tg y : Int} {r : List Int} (h : Asc st 2 tg (y :: r)) (hs : 8 ≤ st) (ht : 4 ≤ tg) : 4 ≤ y := by
  cases h with
  | one => exact ht
  | cons h1 h2 => exact Int.le_of_lt (Int.lt_of_lt_of_le (show (4:Int) < 8 by decide) (Int.le_trans hs (Int.le_of_lt (asc_pair (.cons h1 h2) hs (by decide)).1)))
/-- the drawn number's parts -/
theorem parts {m : Int} (hm : m ≠ 0) (h1 : -(10 ^ (110:Int).toNat) < m) (h2 : m < 10 ^ (110:Int).toNat) :
    ∃ sg M : Int, ∃ b z : Nat, sgn m = sg ∧ od (am m) = M ∧ tz (am m) = z ∧ bl M = b ∧ ((sg = 0 ∧ 0 < m) ∨ (sg = 1 ∧ m < 0)) ∧ 0 < M ∧ M % 2 = 1 ∧ b + z ≤ 366 := by
  have ha : 0 < am m := by unfold am; split <;> omega
  have hb : am m < 2 ^ 366 := by
    have : (10:Int) ^ (110:Int).toNat < 2 ^ 366 := by decide
    unfold am; split <;> omega
  obtain ⟨_, o2, o3⟩ := od_spec ha
  refine ⟨_, _, _, _, rfl, rfl, rfl, rfl, ?_, o3, o2, ?_⟩
  · unfold sgn
    by_cases h : m < 0
    · exact .inr ⟨if_pos h, h⟩
    · exact .inl ⟨if_neg h, by omega⟩
  · have := bl_od ha
    have h3 := bl_le_of_lt (by omega) hb
    omega
theorem c_fmX (w : World) (news : Led) (m exp sg M : Int) (b z : Nat) (t₁ t₂ : Tok) (h : m ≠ 0) (h1 : sgn m = sg) (h2 : od (am m) = M) (h3 : tz (am m) = z) (h4 : bl M = b) :
    Con w 116 2 news [.int m t₁, .int exp t₂] (RetT news sg M (exp + z) b) := by
  subst h1 h2 h3 h4
  exact c_fmx w news m exp t₁ t₂ h
/-- what both arms of a choice hand on: a tuple of four beside what stood -/
def JoinT (g : Heap) (L : Addr) (m : Str → Option Value) (news : Led) (x₁ x₂ x₃ x₄ : Int) (s : Shared) (v : Value) (s' : Shared) : Prop :=
  ∃ r t₁ t₂ t₃ t₄ h tk, v = .ref r ∧ s' = { s with heap := h, toks := tk } ∧ Fr g L h m ∧ News g L h ((r, T4 (.int x₁ t₁) (.int x₂ t₂) (.int x₃ t₃) (.int x₄ t₄)) :: news)
theorem news_dup {g h : Heap} {L : Addr} {p : Addr × Obj} {news : Led} (N : News g L h news) (hp : p ∈ news) : News g L h (p :: news) := fun q hq => by
  rcases List.mem_cons.mp hq with rfl | hq
  · exact N _ hp
  · exact N _ hq
theorem join_T {prog : Program} {w : World} {A : Around} {c : Sem Value} {Q E : Value → Shared → Prop} {s : Shared} {g : Heap} {L : Addr} {m : Str → Option Value} {news : Led} (x₁ x₂ x₃ x₄ : Int) (_F : Fr g L s.heap m) (_N : News g L s.heap news)
    (h1 : wpAny (model prog w) A c (JoinT g L m news x₁ x₂ x₃ x₄ s) E s)
    (h2 : ∀ r t₁ t₂ t₃ t₄ h tk, Fr g L h m → News g L h ((r, T4 (.int x₁ t₁) (.int x₂ t₂) (.int x₃ t₃) (.int x₄ t₄)) :: news) → Q (.ref r) { s with heap := h, toks := tk }) : wpAny (model prog w) A c Q E s :=
  wpAny_mono h1 (fun v s' ⟨r, t₁, t₂, t₃, t₄, h, tk, e1, e2, F', N'⟩ => by subst e1 e2; exact h2 r t₁ t₂ t₃ t₄ h tk F' N') fun _ _ e => e
def JoinZ (g : Heap) (L : Addr) (m : Str → Option Value) (news : Led) (M b : Int) (P : Int → Int → Prop) (s : Shared) (fl : Flow) (s' : Shared) : Prop :=
  fl = .next ∧ ∃ r t₁ t₂ t₃ t₄ xe hk th h tk m', s' = { s with heap := h, toks := tk } ∧ Fr g L h m' ∧ m' "z" = some (.ref r) ∧ m' "h" = some (.int hk th) ∧ (∀ y : Str, y ≠ ("z" : Str) → y ≠ ("h" : Str) → m' y = m y) ∧ News g L h ((r, T4 (.int 0 t₁) (.int M t₂) (.int xe t₃) (.int b t₄)) :: news) ∧ P xe hk
theorem join_Z {prog : Program} {w : World} {A : Around} {c : Sem Flow} {Q : Flow → Shared → Prop} {E : Value → Shared → Prop} {s : Shared} {g : Heap} {L : Addr} {m : Str → Option Value} {news : Led} (M b : Int) (P : Int → Int → Prop) (_F : Fr g L s.heap m) (_N : News g L s.heap news)
    (h1 : wpAny (model prog w) A c (JoinZ g L m news M b P s) E s)
    (h2 : ∀ r t₁ t₂ t₃ t₄ xe hk th h tk, Fr g L h (fun y => if y = "h" then some (.int hk th) else if y = "z" then some (.ref r) else m y) → News g L h ((r, T4 (.int 0 t₁) (.int M t₂) (.int xe t₃) (.int b t₄)) :: news) → P xe hk → Q .next { s with heap := h, toks := tk }) : wpAny (model prog w) A c Q E s :=
  wpAny_mono h1 (fun v s' ⟨e0, r, t₁, t₂, t₃, t₄, xe, hk, th, h, tk, m', e2, F', z1, z2, z3, N', hP⟩ => by
    subst e0 e2
    have e : m' = (fun y : Str => if y = ("h" : Str) then some (.int hk th) else if y = ("z" : Str) then some (.ref r) else m y) := by
      funext y
      by_cases y1 : y = ("h" : Str)
      · rw [if_pos y1, y1]; exact z2
      · rw [if_neg y1]
        by_cases y2 : y = ("z" : Str)
        · rw [if_pos y2, y2]; exact z1
        · rw [if_neg y2]; exact z3 y y2 y1
    exact h2 r t₁ t₂ t₃ t₄ xe hk th h tk (e ▸ F') N' hP) fun _ _ e => e
theorem near_all {M : Int} {b c : Nat} {tg : Int} (hM : 0 < M) (hb : b = Builtin.Int.intBits M) (hc : c = Builtin.Int.intBits M ∨ c = Builtin.Int.intBits M + 1) (hb2 : b ≤ 800) (ht : 4 ≤ tg) (ht2 : tg ≤ 303) :
    0 < tf M (-(c : Int)) (tg + 8) ∧ (Builtin.Int.intBits (tf M (-(c : Int)) (tg + 8)) : Int) ≤ tg + 8 ∧ 0 < sq (tf M (-(c : Int)) (tg + 8) * 2 ^ (tg + 8).toNat) ∧
    SubOK (uM M b tg (-(c : Int))) (uE M b tg (-(c : Int))) (od (sq (tf M (-(c : Int)) (tg + 8) * 2 ^ (tg + 8).toNat))) ((tz (sq (tf M (-(c : Int)) (tg + 8) * 2 ^ (tg + 8).toNat)) : Int) - (tg + 8)) (-tg) := by
  obtain ⟨t, rfl⟩ : ∃ t : Nat, tg = t := ⟨tg.toNat, by omega⟩
  have hs := near_sub (c := c) (t := t) hM hb (by rw [hb]; exact hc) (by omega) (by omega) (by omega)
  have e1 : (((t + 8 : Nat)) : Int) = (t : Int) + 8 := by push_cast; rfl
  have e2 : ((t : Int) + 8).toNat = t + 8 := by omega
  rw [e1] at hs
  rw [e2]
  have hmB : M < 2 ^ b := by rw [hb]; exact bl_lt (by omega)
  have hbl : 2 ^ b ≤ 2 * M := by
    have h1 := bl_ge hM
    have h2 := bl_pos hM
    have : b = (bl M - 1) + 1 := by rw [hb]; show Builtin.Int.intBits M = Builtin.Int.intBits M - 1 + 1; have h3 : 1 ≤ Builtin.Int.intBits M := h2; omega
    rw [this, Int.pow_succ]; omega
  have hmC : M < 2 ^ c := by
    have := pow_le (i := b) (j := c) (by omega)
    omega
  have hlo : 2 ^ c ≤ 4 * M := by
    rcases hc with rfl | rfl
    · rw [← hb]; omega
    · rw [← hb, Int.pow_succ]; omega
  obtain ⟨F1, F2⟩ := tf_bounds (v := t + 8) (by omega) hM hmC hlo
  rw [e1] at F1 F2
  obtain ⟨r1, _⟩ := root_size F1 F2 (by omega)
  have hbF : Builtin.Int.intBits (tf M (-(c : Int)) ((t : Int) + 8)) ≤ t + 8 := bl_le_of_lt (by omega) F2
  exact ⟨F1, by omega, r1, hs⟩
local macro_rules | `(tactic| k_all) => `(tactic| first | (refine' List.forall_mem_cons.mpr ⟨?a, ?b⟩; (case a => k_ne); (case b => k_all)) | exact ne_c1 (by assumption) | exact ne_c2 (by assumption))
local macro_rules | `(tactic| walk_at "bg enterC") => `(tactic| (refine wpAny_call ?_; k_dflt (refine' code_turnC ?k1 ?k2 ?k3 ?k4 ?k5 ?XB ?TB ?D ?kA ?kF ?kK ?k6 ?k7 ?k8 ?k9 ?kB ?kD ?_ ?c2 ?c3 ?c4; (case kA => exact rfl); (case kF => exact rfl); (case kK => first | exact rfl | assumption); (case k2 => k_asm); (case k1 => k_asm); (case XB => assumption); (case TB => assumption); (case D => assumption); (case k3 => k_asm); (case k4 => k_asm); (case k5 => k_asm); (case k6 => k_is); (case k7 => k_is); (case k8 => ktr_room); (case k9 => first | exact BindsTo.of_eq rfl | exact binds_K (by k_in) rfl (by k_is) rfl rfl rfl); (case kB => exact rfl); (case kD => decide +kernel); (case c2 => exact rfl); (case c3 => exact rfl); (case c4 => exact rfl); k_whole; intro g' L' h' tk' cells' FG' F' N' Y' B' X' T' l1 D'; (try k_lt l1); k_cells Y'; (try simp only [List.cons_append, List.nil_append] at N'); (try dsimp only); (try k_lift B'); (try k_fold))))
local macro_rules | `(tactic| walk_at "bg walk1") => `(tactic| repeat' ((fail_if_success (with_reducible show wpAny _ _ (eval (Expr.IfExp _ _ _ _) _) _ _ _)); (fail_if_success (with_reducible show wpAny _ _ (exec (Stmt.If (Expr.BinOp _ _ _ _) _ _ _) _) _ _ _)); (fail_if_success (with_reducible show wpAny _ _ (exec (Stmt.If (Expr.Compare (Expr.Name _ _) [CmpOp.Lt] _ _) _ _ _) _) _ _ _)); (fail_if_success (with_reducible show wpAny _ _ (exec (Stmt.While _ _ _ _) _) _ _ _)); (fail_if_success (with_reducible show wpAny _ _ (exec (Stmt.For _ _ _ _ _) _) _ _ _)); (fail_if_success (with_reducible show ItemsRest _ _ _ _ _ _ _ _ _ _ _ _ _ _ _)); (fail_if_success (with_reducible show UnrEndW _ _ _ _ _ _)); walk_at "bg step"))
local macro_rules | `(tactic| walk_at "bg walkM") => `(tactic| repeat' ((fail_if_success (with_reducible show wpAny _ _ (call (Value.ref 264) _) _ _ _)); walk_at "bg step"))
theorem len_R {prog : Program} {w : World} {A : Around} {E : Value → Shared → Prop} {s : Shared} {Q : Value → Shared → Prop} {h₀ : Heap} {L : Addr} {news : Led} {l : Addr} {us : List Value} {ep n : Nat} (N : News h₀ L s.heap news) (hm : (l, listOf us.toArray ep) ∈ news) (hn : us.length = n) (hz : (n : Int) < 2 ^ 63)
    (h : Q (.int n (s.toks + 1)) { s with toks := s.toks + 1 + 1 }) : wpAny (model prog w) A (call (.builtin "len") [.ref l]) Q E s := by
  subst hn
  exact len_list (News.isList N hm) (by simpa using hz) (by simpa using h)
local macro_rules | `(tactic| walk_at "call builtin:len") => `(tactic| (k_here; (with_reducible show wpAny _ _ (call (Value.builtin "len") [Value.ref _]) _ _ _); k_dflt (refine' len_R ?N ?m ?n ?z ?_; (case N => k_asm); (case m => k_mem); (case n => with_reducible assumption); (case z => omega)); (try dsimp only)))
theorem SubOK.pos {sm se tm te T : Int} (h : SubOK sm se tm te T) : 0 < sm := h.1
theorem sub4_3 {prog : Program} {w : World} {A : Around} {E : Value → Shared → Prop} {s : Shared} {Q : Value → Shared → Prop} {h₀ : Heap} {L : Addr} {news : Led} {l : Addr} {value slice : PySem.Expr} {a b c d : Value} {u : Tok} (N : News h₀ L s.heap news) (hm : (l, T4 a b c d) ∈ news) (h : Q d s)
    (hs : subscripted slice false (.ref l) (.int 3 u) = operate [.ref l, .int 3 u] (getItem (.ref l) (.int 3 u))) (hg : ∀ r, letTemporaryGo value (.ref l) r = pure ()) :
    wpAny (model prog w) A (subscriptTail value slice (.ref l) (.int 3 u)) Q E s :=
  item_tuple (items := [a, b, c, d].toArray) (j := 3) (x := d) ⟨_, (N _ hm).1, rfl, _, rfl⟩ (by decide) (by decide) rfl rfl h hs hg
local macro_rules | `(tactic| walk_at "subscriptTail Name Constant ref int") => `(tactic| (k_here; (with_reducible show wpAny _ _ (subscriptTail _ _ (Value.ref _) (Value.int 3 _)) _ _ _); k_dflt (refine' sub4_3 ?N ?m ?_ ?s ?g; (case N => k_asm); (case m => k_mem); (case s => with_unfolding_all rfl); (case g => (intro _; with_unfolding_all rfl)))))
theorem sub4_2 {prog : Program} {w : World} {A : Around} {E : Value → Shared → Prop} {s : Shared} {Q : Value → Shared → Prop} {h₀ : Heap} {L : Addr} {news : Led} {l : Addr} {value slice : PySem.Expr} {a b c d : Value} {u : Tok} (N : News h₀ L s.heap news) (hm : (l, T4 a b c d) ∈ news) (h : Q c s)
    (hs : subscripted slice false (.ref l) (.int 2 u) = operate [.ref l, .int 2 u] (getItem (.ref l) (.int 2 u))) (hg : ∀ r, letTemporaryGo value (.ref l) r = pure ()) :
    wpAny (model prog w) A (subscriptTail value slice (.ref l) (.int 2 u)) Q E s :=
  item_tuple (items := [a, b, c, d].toArray) (j := 2) (x := c) ⟨_, (N _ hm).1, rfl, _, rfl⟩ (by decide) (by decide) rfl rfl h hs hg
local macro_rules | `(tactic| walk_at "subscriptTail Name Constant ref int") => `(tactic| (k_here; (with_reducible show wpAny _ _ (subscriptTail _ _ (Value.ref _) (Value.int 2 _)) _ _ _); k_dflt (refine' sub4_2 ?N ?m ?_ ?s ?g; (case N => k_asm); (case m => k_mem); (case s => with_unfolding_all rfl); (case g => (intro _; with_unfolding_all rfl)))))
local macro_rules | `(tactic| walk_at "eval ListComp") => `(tactic| (k_here; k_dflt (refine ListComp_tup (by k_asm) (by with_unfolding_all rfl) (by decide) (by rfl) (by decide) (by rfl) ?_)))
local macro_rules | `(tactic| walk_at "CompTup") => `(tactic| (k_here; k_dflt (refine comp_three (by rfl) (by k_asm) (by k_asm) (by k_mem) ?_); intro g'))
local macro_rules | `(tactic| walk_at "CompRest") => `(tactic| (with_unfolding_all first
  | (refine LCg.CompRest.succ ?_; intro v' I' oI' C' oC' D' m' h' tk' E' hv' hC' hx' F' N' off' ne'; lcg_open hv')
  | refine LCg.CompRest.zero ?_))
local macro_rules | `(tactic| walk_at "CompEnd") => `(tactic| (refine LCg.CompEnd.intro (by k_asm) (by k_asm) _ (fun p hp => hp) (by assumption) ⟨_, by k_mem, rfl, _, rfl⟩ ?_))
local macro_rules | `(tactic| walk_at "call ref") => `(tactic| (k_here; (with_reducible show wpAny _ _ (call (Value.ref 116) _) _ _ _); k_dflt (refine' Con.use (c_fmX _ _ _ _ _ _ _ _ _ _ ?p0 ?p1 ?p2 ?p3 ?p4 ) ?k1 ?k2 ?k3 ?k4 ?k5 ?k6 ?k7 ?k8 ?_; (case k1 => k_asm); (case k2 => k_asm); (case k3 => k_asm); (case k4 => k_asm); (case k5 => k_asm); (case k6 => first | exact rfl | assumption); (case k7 => first | exact bg_room (by assumption) (by decide) | ktr_room); (case k8 => first | exact bg_units (by assumption) (by decide) | ktr_units); (case p0 => first | with_reducible assumption | with_reducible exact rfl | k_mem | exact TupV.cons (by with_reducible assumption) | exact RowsAre.cons (by with_reducible assumption) | walk_at "bg side"); (case p1 => first | with_reducible assumption | with_reducible exact rfl | k_mem | exact TupV.cons (by with_reducible assumption) | exact RowsAre.cons (by with_reducible assumption) | walk_at "bg side"); (case p2 => first | with_reducible assumption | with_reducible exact rfl | k_mem | exact TupV.cons (by with_reducible assumption) | exact RowsAre.cons (by with_reducible assumption) | walk_at "bg side"); (case p3 => first | with_reducible assumption | with_reducible exact rfl | k_mem | exact TupV.cons (by with_reducible assumption) | exact RowsAre.cons (by with_reducible assumption) | walk_at "bg side"); (case p4 => first | with_reducible assumption | with_reducible exact rfl | k_mem | exact TupV.cons (by with_reducible assumption) | exact RowsAre.cons (by with_reducible assumption) | walk_at "bg side"); intro r' t1' t2' t3' t4' h' tk' F' N' l1; (try k_lt l1); (try dsimp only [T4] at N')); (try dsimp only); (try k_fold); (try k_sweep)))
local macro_rules | `(tactic| walk_at "call ref") => `(tactic| (k_here; (with_reducible show wpAny _ _ (call (Value.ref 116) _) _ _ _); k_dflt (refine' Con.use (c_fme _ _ _ _ _ _ ?p0 ) ?k1 ?k2 ?k3 ?k4 ?k5 ?k6 ?k7 ?k8 ?_; (case k1 => k_asm); (case k2 => k_asm); (case k3 => k_asm); (case k4 => k_asm); (case k5 => k_asm); (case k6 => first | exact rfl | assumption); (case k7 => first | exact bg_room (by assumption) (by decide) | ktr_room); (case k8 => first | exact bg_units (by assumption) (by decide) | ktr_units); (case p0 => first | with_reducible assumption | with_reducible exact rfl | k_mem | exact TupV.cons (by with_reducible assumption) | exact RowsAre.cons (by with_reducible assumption) | walk_at "bg side"); intro r' t1' t2' t3' t4' h' tk' F' N' l1; (clear l1); (try dsimp only [T4] at N')); (try dsimp only); (try k_fold); (try k_sweep)))
local macro_rules | `(tactic| walk_at "call ref") => `(tactic| (k_here; (with_reducible show wpAny _ _ (call (Value.ref 229) _) _ _ _); k_dflt (refine' Con.use (c_lawsteps _ _ _ _ _ _ _ _ ?p0 ?p1 ?p2 ?p3 ?p4 ?p5 ) ?k1 ?k2 ?k3 ?k4 ?k5 ?k6 ?k7 ?k8 ?_; (case k1 => k_asm); (case k2 => k_asm); (case k3 => k_asm); (case k4 => k_asm); (case k5 => k_asm); (case k6 => first | exact rfl | assumption); (case k7 => first | exact bg_room (by assumption) (by decide) | ktr_room); (case k8 => first | exact bg_units (by assumption) (by decide) | ktr_units); (case p0 => first | with_reducible assumption | with_reducible exact rfl | k_mem | exact TupV.cons (by with_reducible assumption) | exact RowsAre.cons (by with_reducible assumption) | walk_at "bg side"); (case p1 => first | with_reducible assumption | with_reducible exact rfl | k_mem | exact TupV.cons (by with_reducible assumption) | exact RowsAre.cons (by with_reducible assumption) | walk_at "bg side"); (case p2 => first | with_reducible assumption | with_reducible exact rfl | k_mem | exact TupV.cons (by with_reducible assumption) | exact RowsAre.cons (by with_reducible assumption) | walk_at "bg side"); (case p3 => first | with_reducible assumption | with_reducible exact rfl | k_mem | exact TupV.cons (by with_reducible assumption) | exact RowsAre.cons (by with_reducible assumption) | walk_at "bg side"); (case p4 => first | with_reducible assumption | with_reducible exact rfl | k_mem | exact TupV.cons (by with_reducible assumption) | exact RowsAre.cons (by with_reducible assumption) | walk_at "bg side"); (case p5 => first | with_reducible assumption | with_reducible exact rfl | k_mem | exact TupV.cons (by with_reducible assumption) | exact RowsAre.cons (by with_reducible assumption) | walk_at "bg side"); intro h' tk' F' N'); (try dsimp only); (try k_fold); (try k_sweep)))
local macro_rules | `(tactic| walk_at "call ref") => `(tactic| (k_here; (with_reducible show wpAny _ _ (call (Value.ref 22) _) _ _ _); k_dflt (refine' Con.use (c_giantG2 _ _ _ _ _ _ ?p0 ?p1 ?p2 ?p3 ) ?k1 ?k2 ?k3 ?k4 ?k5 ?k6 ?k7 ?k8 ?_; (case k1 => k_asm); (case k2 => k_asm); (case k3 => k_asm); (case k4 => k_asm); (case k5 => k_asm); (case k6 => first | exact rfl | assumption); (case k7 => first | exact bg_room (by assumption) (by decide) | ktr_room); (case k8 => first | exact bg_units (by assumption) (by decide) | ktr_units); (case p0 => first | with_reducible assumption | with_reducible exact rfl | k_mem | exact TupV.cons (by with_reducible assumption) | exact RowsAre.cons (by with_reducible assumption) | walk_at "bg side"); (case p1 => first | with_reducible assumption | with_reducible exact rfl | k_mem | exact TupV.cons (by with_reducible assumption) | exact RowsAre.cons (by with_reducible assumption) | walk_at "bg side"); (case p2 => first | with_reducible assumption | with_reducible exact rfl | k_mem | exact TupV.cons (by with_reducible assumption) | exact RowsAre.cons (by with_reducible assumption) | walk_at "bg side"); (case p3 => first | with_reducible assumption | with_reducible exact rfl | k_mem | exact TupV.cons (by with_reducible assumption) | exact RowsAre.cons (by with_reducible assumption) | walk_at "bg side"); intro a' vs' y' t0' rest' r' us' t9' h' tk' F' N' l1 e1' e2' hi' hP' hz'; (have hA' := hP'.1); (have hy' := asc_ge4 hA' (by omega) (by omega)); (have hlen' := IntsAre.length hi'); (have hvl' : List.length vs' = List.length r' + 1 := by rw [← hlen', e1']; rfl); (clear l1)); (try dsimp only); (try k_fold); (try k_sweep)))
local macro_rules | `(tactic| walk_at "call ref") => `(tactic| (k_here; (with_reducible show wpAny _ _ (call (Value.ref 161) _) _ _ _); k_dflt (refine' Con.use (c_absx _ _ _ _ _ _ _ _ _ _ _ ?p0 ?p1 ) ?k1 ?k2 ?k3 ?k4 ?k5 ?k6 ?k7 ?k8 ?_; (case k1 => k_asm); (case k2 => k_asm); (case k3 => k_asm); (case k4 => k_asm); (case k5 => k_asm); (case k6 => first | exact rfl | assumption); (case k7 => first | exact bg_room (by assumption) (by decide) | ktr_room); (case k8 => first | exact bg_units (by assumption) (by decide) | ktr_units); (case p0 => first | with_reducible assumption | with_reducible exact rfl | k_mem | exact TupV.cons (by with_reducible assumption) | exact RowsAre.cons (by with_reducible assumption) | walk_at "bg side"); (case p1 => first | with_reducible assumption | with_reducible exact rfl | k_mem | exact TupV.cons (by with_reducible assumption) | exact RowsAre.cons (by with_reducible assumption) | walk_at "bg side"); intro r' t1' t2' t3' t4' h' tk' F' N'; (try dsimp only [T4] at N')); (try dsimp only); (try k_fold); (try k_sweep)))
local macro_rules | `(tactic| walk_at "call ref") => `(tactic| (k_here; (with_reducible show wpAny _ _ (call (Value.ref 198) _) _ _ _); k_dflt (refine' Con.use (c_frexp _ _ _ _ _ _ _ _ _ _ _ ?p0 ?p1 ) ?k1 ?k2 ?k3 ?k4 ?k5 ?k6 ?k7 ?k8 ?_; (case k1 => k_asm); (case k2 => k_asm); (case k3 => k_asm); (case k4 => k_asm); (case k5 => k_asm); (case k6 => first | exact rfl | assumption); (case k7 => first | exact bg_room (by assumption) (by decide) | ktr_room); (case k8 => first | exact bg_units (by assumption) (by decide) | ktr_units); (case p0 => first | with_reducible assumption | with_reducible exact rfl | k_mem | exact TupV.cons (by with_reducible assumption) | exact RowsAre.cons (by with_reducible assumption) | walk_at "bg side"); (case p1 => first | with_reducible assumption | with_reducible exact rfl | k_mem | exact TupV.cons (by with_reducible assumption) | exact RowsAre.cons (by with_reducible assumption) | walk_at "bg side"); intro r' r2' t1' t2' t3' t4' t5' h' tk' F' N' l1 l2; (clear l1 l2); (try dsimp only [T4, T2] at N')); (try dsimp only); (try k_fold); (try k_sweep)))
local macro_rules | `(tactic| walk_at "call ref") => `(tactic| (k_here; (with_reducible show wpAny _ _ (call (Value.ref 191) _) _ _ _); k_dflt (refine' Con.use (c_shift _ _ _ _ _ _ _ _ _ _ _ _ _ ?p0 ?p1 ) ?k1 ?k2 ?k3 ?k4 ?k5 ?k6 ?k7 ?k8 ?_; (case k1 => k_asm); (case k2 => k_asm); (case k3 => k_asm); (case k4 => k_asm); (case k5 => k_asm); (case k6 => first | exact rfl | assumption); (case k7 => first | exact bg_room (by assumption) (by decide) | ktr_room); (case k8 => first | exact bg_units (by assumption) (by decide) | ktr_units); (case p0 => first | with_reducible assumption | with_reducible exact rfl | k_mem | exact TupV.cons (by with_reducible assumption) | exact RowsAre.cons (by with_reducible assumption) | walk_at "bg side"); (case p1 => first | with_reducible assumption | with_reducible exact rfl | k_mem | exact TupV.cons (by with_reducible assumption) | exact RowsAre.cons (by with_reducible assumption) | walk_at "bg side"); intro r' t1' t2' t3' t4' h' tk' F' N' l1; (clear l1); (try dsimp only [T4] at N')); (try dsimp only); (try k_fold); (try k_sweep)))
local macro_rules | `(tactic| walk_at "call ref") => `(tactic| (k_here; (with_reducible show wpAny _ _ (call (Value.ref 191) _) _ _ _); k_dflt (refine' Con.use (c_shift1 _ _ _ _ ) ?k1 ?k2 ?k3 ?k4 ?k5 ?k6 ?k7 ?k8 ?_; (case k1 => k_asm); (case k2 => k_asm); (case k3 => k_asm); (case k4 => k_asm); (case k5 => k_asm); (case k6 => first | exact rfl | assumption); (case k7 => first | exact bg_room (by assumption) (by decide) | ktr_room); (case k8 => first | exact bg_units (by assumption) (by decide) | ktr_units); intro r' t1' t2' t3' t4' h' tk' F' N' l1; (clear l1); (try dsimp only [T4] at N')); (try dsimp only); (try k_fold); (try k_sweep)))
local macro_rules | `(tactic| walk_at "call ref") => `(tactic| (k_here; (with_reducible show wpAny _ _ (call (Value.ref 153) _) _ _ _); k_dflt (refine' Con.use (c_neg _ _ _ _ _ _ _ _ _ _ _ ?p0 ?p1 ) ?k1 ?k2 ?k3 ?k4 ?k5 ?k6 ?k7 ?k8 ?_; (case k1 => k_asm); (case k2 => k_asm); (case k3 => k_asm); (case k4 => k_asm); (case k5 => k_asm); (case k6 => first | exact rfl | assumption); (case k7 => first | exact bg_room (by assumption) (by decide) | ktr_room); (case k8 => first | exact bg_units (by assumption) (by decide) | ktr_units); (case p0 => first | with_reducible assumption | with_reducible exact rfl | k_mem | exact TupV.cons (by with_reducible assumption) | exact RowsAre.cons (by with_reducible assumption) | walk_at "bg side"); (case p1 => first | with_reducible assumption | with_reducible exact rfl | k_mem | exact TupV.cons (by with_reducible assumption) | exact RowsAre.cons (by with_reducible assumption) | walk_at "bg side"); intro r' t1' t2' t3' t4' h' tk' F' N' l1; (clear l1); (try dsimp only [T4] at N')); (try dsimp only); (try k_fold); (try k_sweep)))
local macro_rules | `(tactic| walk_at "call ref") => `(tactic| (k_here; (with_reducible show wpAny _ _ (call (Value.ref 236) _) _ _ _); k_dflt (refine' Con.use (c_overB _ _ _ _ _ _ _ _ _ _ _ ?p0 ?p1 _ _ _ _ _ _ _ _ ?p2 ?p3 ?p4 ?p5 ?p6 ?p7 ?p8 ?p9 ?p10 ?p11 ?p12 ?p13 ?p14 ) ?k1 ?k2 ?k3 ?k4 ?k5 ?k6 ?k7 ?k8 ?_; (case k1 => k_asm); (case k2 => k_asm); (case k3 => k_asm); (case k4 => k_asm); (case k5 => k_asm); (case k6 => first | exact rfl | assumption); (case k7 => first | exact bg_room (by assumption) (by decide) | ktr_room); (case k8 => first | exact bg_units (by assumption) (by decide) | ktr_units); (case p0 => first | with_reducible assumption | with_reducible exact rfl | k_mem | exact TupV.cons (by with_reducible assumption) | exact RowsAre.cons (by with_reducible assumption) | walk_at "bg side"); (case p1 => first | with_reducible assumption | with_reducible exact rfl | k_mem | exact TupV.cons (by with_reducible assumption) | exact RowsAre.cons (by with_reducible assumption) | walk_at "bg side"); (case p2 => first | with_reducible assumption | with_reducible exact rfl | k_mem | exact TupV.cons (by with_reducible assumption) | exact RowsAre.cons (by with_reducible assumption) | walk_at "bg side"); (case p3 => first | with_reducible assumption | with_reducible exact rfl | k_mem | exact TupV.cons (by with_reducible assumption) | exact RowsAre.cons (by with_reducible assumption) | walk_at "bg side"); (case p4 => first | with_reducible assumption | with_reducible exact rfl | k_mem | exact TupV.cons (by with_reducible assumption) | exact RowsAre.cons (by with_reducible assumption) | walk_at "bg side"); (case p5 => first | with_reducible assumption | with_reducible exact rfl | k_mem | exact TupV.cons (by with_reducible assumption) | exact RowsAre.cons (by with_reducible assumption) | walk_at "bg side"); (case p6 => first | with_reducible assumption | with_reducible exact rfl | k_mem | exact TupV.cons (by with_reducible assumption) | exact RowsAre.cons (by with_reducible assumption) | walk_at "bg side"); (case p7 => first | with_reducible assumption | with_reducible exact rfl | k_mem | exact TupV.cons (by with_reducible assumption) | exact RowsAre.cons (by with_reducible assumption) | walk_at "bg side"); (case p8 => first | with_reducible assumption | with_reducible exact rfl | k_mem | exact TupV.cons (by with_reducible assumption) | exact RowsAre.cons (by with_reducible assumption) | walk_at "bg side"); (case p9 => first | with_reducible assumption | with_reducible exact rfl | k_mem | exact TupV.cons (by with_reducible assumption) | exact RowsAre.cons (by with_reducible assumption) | walk_at "bg side"); (case p10 => first | with_reducible assumption | with_reducible exact rfl | k_mem | exact TupV.cons (by with_reducible assumption) | exact RowsAre.cons (by with_reducible assumption) | walk_at "bg side"); (case p11 => first | with_reducible assumption | with_reducible exact rfl | k_mem | exact TupV.cons (by with_reducible assumption) | exact RowsAre.cons (by with_reducible assumption) | walk_at "bg side"); (case p12 => first | with_reducible assumption | with_reducible exact rfl | k_mem | exact TupV.cons (by with_reducible assumption) | exact RowsAre.cons (by with_reducible assumption) | walk_at "bg side"); (case p13 => first | with_reducible assumption | with_reducible exact rfl | k_mem | exact TupV.cons (by with_reducible assumption) | exact RowsAre.cons (by with_reducible assumption) | walk_at "bg side"); (case p14 => first | with_reducible assumption | with_reducible exact rfl | k_mem | exact TupV.cons (by with_reducible assumption) | exact RowsAre.cons (by with_reducible assumption) | walk_at "bg side"); intro R' us' us2' a9' ta' tb' rs' rs2' x9' ep' nw' h' tk' F' N' hs' eu' hm' hr' er' hb' hl' hP' hx'; (have hP1' := hP'.1); (have hP2' := hP'.2); (have hP3' := SubOK.pos hP2'); (clear hP')); (try dsimp only); (try k_fold); (try k_sweep)))
local macro_rules | `(tactic| walk_at "call ref") => `(tactic| (k_here; (with_reducible show wpAny _ _ (call (Value.ref 250) _) _ _ _); k_dflt (refine' Con.use (c_back _ _ _ _ _ _ _ _ _ ?p0 ?p1 ?p2 ?p3 ?p4 ?p5 ) ?k1 ?k2 ?k3 ?k4 ?k5 ?k6 ?k7 ?k8 ?_; (case k1 => k_asm); (case k2 => k_asm); (case k3 => k_asm); (case k4 => k_asm); (case k5 => k_asm); (case k6 => first | exact rfl | assumption); (case k7 => first | exact bg_room (by assumption) (by decide) | ktr_room); (case k8 => first | exact bg_units (by assumption) (by decide) | ktr_units); (case p0 => first | with_reducible assumption | with_reducible exact rfl | k_mem | exact TupV.cons (by with_reducible assumption) | exact RowsAre.cons (by with_reducible assumption) | walk_at "bg side"); (case p1 => first | with_reducible assumption | with_reducible exact rfl | k_mem | exact TupV.cons (by with_reducible assumption) | exact RowsAre.cons (by with_reducible assumption) | walk_at "bg side"); (case p2 => first | with_reducible assumption | with_reducible exact rfl | k_mem | exact TupV.cons (by with_reducible assumption) | exact RowsAre.cons (by with_reducible assumption) | walk_at "bg side"); (case p3 => first | with_reducible assumption | with_reducible exact rfl | k_mem | exact TupV.cons (by with_reducible assumption) | exact RowsAre.cons (by with_reducible assumption) | walk_at "bg side"); (case p4 => first | with_reducible assumption | with_reducible exact rfl | k_mem | exact TupV.cons (by with_reducible assumption) | exact RowsAre.cons (by with_reducible assumption) | walk_at "bg side"); (case p5 => first | with_reducible assumption | with_reducible exact rfl | k_mem | exact TupV.cons (by with_reducible assumption) | exact RowsAre.cons (by with_reducible assumption) | walk_at "bg side"); intro h' tk' F' N'); (try dsimp only); (try k_fold); (try k_sweep)))
local macro_rules | `(tactic| walk_at "call ref") => `(tactic| (k_here; (with_reducible show wpAny _ _ (call (Value.ref 214) _) _ _ _); k_dflt (refine' Con.use (c_rdivx _ _ _ _ _ _ _ _ _ _ _ _ _ _ _ ?p0 ?p1 ?p2 ?p3 ?p4 ?p5 ?p6 ) ?k1 ?k2 ?k3 ?k4 ?k5 ?k6 ?k7 ?k8 ?_; (case k1 => k_asm); (case k2 => k_asm); (case k3 => k_asm); (case k4 => k_asm); (case k5 => k_asm); (case k6 => first | exact rfl | assumption); (case k7 => first | exact bg_room (by assumption) (by decide) | ktr_room); (case k8 => first | exact bg_units (by assumption) (by decide) | ktr_units); (case p0 => first | with_reducible assumption | with_reducible exact rfl | k_mem | exact TupV.cons (by with_reducible assumption) | exact RowsAre.cons (by with_reducible assumption) | walk_at "bg side"); (case p1 => first | with_reducible assumption | with_reducible exact rfl | k_mem | exact TupV.cons (by with_reducible assumption) | exact RowsAre.cons (by with_reducible assumption) | walk_at "bg side"); (case p2 => first | with_reducible assumption | with_reducible exact rfl | k_mem | exact TupV.cons (by with_reducible assumption) | exact RowsAre.cons (by with_reducible assumption) | walk_at "bg side"); (case p3 => first | with_reducible assumption | with_reducible exact rfl | k_mem | exact TupV.cons (by with_reducible assumption) | exact RowsAre.cons (by with_reducible assumption) | walk_at "bg side"); (case p4 => first | with_reducible assumption | with_reducible exact rfl | k_mem | exact TupV.cons (by with_reducible assumption) | exact RowsAre.cons (by with_reducible assumption) | walk_at "bg side"); (case p5 => first | with_reducible assumption | with_reducible exact rfl | k_mem | exact TupV.cons (by with_reducible assumption) | exact RowsAre.cons (by with_reducible assumption) | walk_at "bg side"); (case p6 => first | with_reducible assumption | with_reducible exact rfl | k_mem | exact TupV.cons (by with_reducible assumption) | exact RowsAre.cons (by with_reducible assumption) | walk_at "bg side"); intro r' t1' t2' t3' t4' h' tk' F' N' l1; (clear l1); (try dsimp only [T4] at N')); (try dsimp only); (try k_fold); (try k_sweep)))
local macro_rules | `(tactic| walk_at "call ref") => `(tactic| (k_here; (with_reducible show wpAny _ _ (call (Value.ref 206) _) _ _ _); k_dflt (refine' Con.use (c_divx _ _ _ _ _ _ _ _ _ _ _ _ _ _ ?p0 ?p1 ?p2 ?p3 ?p4 ?p5 ?p6 ?p7 ) ?k1 ?k2 ?k3 ?k4 ?k5 ?k6 ?k7 ?k8 ?_; (case k1 => k_asm); (case k2 => k_asm); (case k3 => k_asm); (case k4 => k_asm); (case k5 => k_asm); (case k6 => first | exact rfl | assumption); (case k7 => first | exact bg_room (by assumption) (by decide) | ktr_room); (case k8 => first | exact bg_units (by assumption) (by decide) | ktr_units); (case p0 => first | with_reducible assumption | with_reducible exact rfl | k_mem | exact TupV.cons (by with_reducible assumption) | exact RowsAre.cons (by with_reducible assumption) | walk_at "bg side"); (case p1 => first | with_reducible assumption | with_reducible exact rfl | k_mem | exact TupV.cons (by with_reducible assumption) | exact RowsAre.cons (by with_reducible assumption) | walk_at "bg side"); (case p2 => first | with_reducible assumption | with_reducible exact rfl | k_mem | exact TupV.cons (by with_reducible assumption) | exact RowsAre.cons (by with_reducible assumption) | walk_at "bg side"); (case p3 => first | with_reducible assumption | with_reducible exact rfl | k_mem | exact TupV.cons (by with_reducible assumption) | exact RowsAre.cons (by with_reducible assumption) | walk_at "bg side"); (case p4 => first | with_reducible assumption | with_reducible exact rfl | k_mem | exact TupV.cons (by with_reducible assumption) | exact RowsAre.cons (by with_reducible assumption) | walk_at "bg side"); (case p5 => first | with_reducible assumption | with_reducible exact rfl | k_mem | exact TupV.cons (by with_reducible assumption) | exact RowsAre.cons (by with_reducible assumption) | walk_at "bg side"); (case p6 => first | with_reducible assumption | with_reducible exact rfl | k_mem | exact TupV.cons (by with_reducible assumption) | exact RowsAre.cons (by with_reducible assumption) | walk_at "bg side"); (case p7 => first | with_reducible assumption | with_reducible exact rfl | k_mem | exact TupV.cons (by with_reducible assumption) | exact RowsAre.cons (by with_reducible assumption) | walk_at "bg side"); intro r' t1' t2' t3' t4' h' tk' F' N' l1; (clear l1); (try dsimp only [T4] at N')); (try dsimp only); (try k_fold); (try k_sweep)))
local macro_rules | `(tactic| walk_at "call ref") => `(tactic| (k_here; (with_reducible show wpAny _ _ (call (Value.ref 243) _) _ _ _); k_dflt (refine' Con.use (c_roverB _ _ _ _ _ _ _ _ _ _ _ ?p0 ?p1 _ _ _ _ _ _ _ _ ?p2 ?p3 ?p4 ?p5 ?p6 ?p7 ?p8 ?p9 ?p10 ?p11 ?p12 ) ?k1 ?k2 ?k3 ?k4 ?k5 ?k6 ?k7 ?k8 ?_; (case k1 => k_asm); (case k2 => k_asm); (case k3 => k_asm); (case k4 => k_asm); (case k5 => k_asm); (case k6 => first | exact rfl | assumption); (case k7 => first | exact bg_room (by assumption) (by decide) | ktr_room); (case k8 => first | exact bg_units (by assumption) (by decide) | ktr_units); (case p0 => first | with_reducible assumption | with_reducible exact rfl | k_mem | exact TupV.cons (by with_reducible assumption) | exact RowsAre.cons (by with_reducible assumption) | walk_at "bg side"); (case p1 => first | with_reducible assumption | with_reducible exact rfl | k_mem | exact TupV.cons (by with_reducible assumption) | exact RowsAre.cons (by with_reducible assumption) | walk_at "bg side"); (case p2 => first | with_reducible assumption | with_reducible exact rfl | k_mem | exact TupV.cons (by with_reducible assumption) | exact RowsAre.cons (by with_reducible assumption) | walk_at "bg side"); (case p3 => first | with_reducible assumption | with_reducible exact rfl | k_mem | exact TupV.cons (by with_reducible assumption) | exact RowsAre.cons (by with_reducible assumption) | walk_at "bg side"); (case p4 => first | with_reducible assumption | with_reducible exact rfl | k_mem | exact TupV.cons (by with_reducible assumption) | exact RowsAre.cons (by with_reducible assumption) | walk_at "bg side"); (case p5 => first | with_reducible assumption | with_reducible exact rfl | k_mem | exact TupV.cons (by with_reducible assumption) | exact RowsAre.cons (by with_reducible assumption) | walk_at "bg side"); (case p6 => first | with_reducible assumption | with_reducible exact rfl | k_mem | exact TupV.cons (by with_reducible assumption) | exact RowsAre.cons (by with_reducible assumption) | walk_at "bg side"); (case p7 => first | with_reducible assumption | with_reducible exact rfl | k_mem | exact TupV.cons (by with_reducible assumption) | exact RowsAre.cons (by with_reducible assumption) | walk_at "bg side"); (case p8 => first | with_reducible assumption | with_reducible exact rfl | k_mem | exact TupV.cons (by with_reducible assumption) | exact RowsAre.cons (by with_reducible assumption) | walk_at "bg side"); (case p9 => first | with_reducible assumption | with_reducible exact rfl | k_mem | exact TupV.cons (by with_reducible assumption) | exact RowsAre.cons (by with_reducible assumption) | walk_at "bg side"); (case p10 => first | with_reducible assumption | with_reducible exact rfl | k_mem | exact TupV.cons (by with_reducible assumption) | exact RowsAre.cons (by with_reducible assumption) | walk_at "bg side"); (case p11 => first | with_reducible assumption | with_reducible exact rfl | k_mem | exact TupV.cons (by with_reducible assumption) | exact RowsAre.cons (by with_reducible assumption) | walk_at "bg side"); (case p12 => first | with_reducible assumption | with_reducible exact rfl | k_mem | exact TupV.cons (by with_reducible assumption) | exact RowsAre.cons (by with_reducible assumption) | walk_at "bg side"); intro R' us' us2' a9' ta' tb' rs' rs2' x9' ep' nw' h' tk' F' N' hs' eu' hm' hr' er' hb' hl' hP' hx'; (obtain ⟨hq1', hq2', hq3'⟩ := hP')); (try dsimp only); (try k_fold); (try k_sweep)))
local macro_rules | `(tactic| walk_at "call ref") => `(tactic| (k_here; (with_reducible show wpAny _ _ (call (Value.ref 131) _) _ _ _); k_dflt (refine' Con.use (c_to_fixed' _ _ _ _ _ _ _ _ _ _ _ _ ?p0 ?p1 ) ?k1 ?k2 ?k3 ?k4 ?k5 ?k6 ?k7 ?k8 ?_; (case k1 => k_asm); (case k2 => k_asm); (case k3 => k_asm); (case k4 => k_asm); (case k5 => k_asm); (case k6 => first | exact rfl | assumption); (case k7 => first | exact bg_room (by assumption) (by decide) | ktr_room); (case k8 => first | exact bg_units (by assumption) (by decide) | ktr_units); (case p0 => first | with_reducible assumption | with_reducible exact rfl | k_mem | exact TupV.cons (by with_reducible assumption) | exact RowsAre.cons (by with_reducible assumption) | walk_at "bg side"); (case p1 => first | with_reducible assumption | with_reducible exact rfl | k_mem | exact TupV.cons (by with_reducible assumption) | exact RowsAre.cons (by with_reducible assumption) | walk_at "bg side"); intro t' h' tk' F' N'); (try dsimp only); (try k_fold); (try k_sweep)))
local macro_rules | `(tactic| walk_at "call ref") => `(tactic| (k_here; (with_reducible show wpAny _ _ (call (Value.ref 71) _) _ _ _); k_dflt (refine' Con.use (c_sqrt_fixed' _ _ _ _ _ _ ?p0 ?p1 ?p2 ) ?k1 ?k2 ?k3 ?k4 ?k5 ?k6 ?k7 ?k8 ?_; (case k1 => k_asm); (case k2 => k_asm); (case k3 => k_asm); (case k4 => k_asm); (case k5 => k_asm); (case k6 => first | exact rfl | assumption); (case k7 => first | exact bg_room (by assumption) (by decide) | ktr_room); (case k8 => first | exact bg_units (by assumption) (by decide) | ktr_units); (case p0 => first | with_reducible assumption | with_reducible exact rfl | k_mem | exact TupV.cons (by with_reducible assumption) | exact RowsAre.cons (by with_reducible assumption) | walk_at "bg side"); (case p1 => first | with_reducible assumption | with_reducible exact rfl | k_mem | exact TupV.cons (by with_reducible assumption) | exact RowsAre.cons (by with_reducible assumption) | walk_at "bg side"); (case p2 => first | with_reducible assumption | with_reducible exact rfl | k_mem | exact TupV.cons (by with_reducible assumption) | exact RowsAre.cons (by with_reducible assumption) | walk_at "bg side"); intro t' h' tk' F' N'); (try dsimp only); (try k_fold); (try k_sweep)))
local macro_rules | `(tactic| walk_at "call ref") => `(tactic| (k_here; (with_reducible show wpAny _ _ (call (Value.ref 29) _) _ _ _); k_dflt (refine' Con.use (c_rsh _ _ _ _ _ _ ?p0 ) ?k1 ?k2 ?k3 ?k4 ?k5 ?k6 ?k7 ?k8 ?_; (case k1 => k_asm); (case k2 => k_asm); (case k3 => k_asm); (case k4 => k_asm); (case k5 => k_asm); (case k6 => first | exact rfl | assumption); (case k7 => first | exact bg_room (by assumption) (by decide) | ktr_room); (case k8 => first | exact bg_units (by assumption) (by decide) | ktr_units); (case p0 => first | with_reducible assumption | with_reducible exact rfl | k_mem | exact TupV.cons (by with_reducible assumption) | exact RowsAre.cons (by with_reducible assumption) | walk_at "bg side"); intro t' h' tk' F' N'); (try dsimp only); (try k_fold); (try k_sweep)))
local macro_rules | `(tactic| walk_at "call ref") => `(tactic| (k_here; (with_reducible show wpAny _ _ (call (Value.ref 222) _) _ _ _); k_dflt (refine' Con.use (c_msqrtx _ _ _ _ _ _ _ _ _ _ _ _ _ ?p0 ?p1 ?p2 ?p3 ?p4 ?p5 ) ?k1 ?k2 ?k3 ?k4 ?k5 ?k6 ?k7 ?k8 ?_; (case k1 => k_asm); (case k2 => k_asm); (case k3 => k_asm); (case k4 => k_asm); (case k5 => k_asm); (case k6 => first | exact rfl | assumption); (case k7 => first | exact bg_room (by assumption) (by decide) | ktr_room); (case k8 => first | exact bg_units (by assumption) (by decide) | ktr_units); (case p0 => first | with_reducible assumption | with_reducible exact rfl | k_mem | exact TupV.cons (by with_reducible assumption) | exact RowsAre.cons (by with_reducible assumption) | walk_at "bg side"); (case p1 => first | with_reducible assumption | with_reducible exact rfl | k_mem | exact TupV.cons (by with_reducible assumption) | exact RowsAre.cons (by with_reducible assumption) | walk_at "bg side"); (case p2 => first | with_reducible assumption | with_reducible exact rfl | k_mem | exact TupV.cons (by with_reducible assumption) | exact RowsAre.cons (by with_reducible assumption) | walk_at "bg side"); (case p3 => first | with_reducible assumption | with_reducible exact rfl | k_mem | exact TupV.cons (by with_reducible assumption) | exact RowsAre.cons (by with_reducible assumption) | walk_at "bg side"); (case p4 => first | with_reducible assumption | with_reducible exact rfl | k_mem | exact TupV.cons (by with_reducible assumption) | exact RowsAre.cons (by with_reducible assumption) | walk_at "bg side"); (case p5 => first | with_reducible assumption | with_reducible exact rfl | k_mem | exact TupV.cons (by with_reducible assumption) | exact RowsAre.cons (by with_reducible assumption) | walk_at "bg side"); intro r' t1' t2' t3' t4' h' tk' F' N' l1; (clear l1); (try dsimp only [T4] at N')); (try dsimp only); (try k_fold); (try k_sweep)))
local macro_rules | `(tactic| walk_at "call ref") => `(tactic| (k_here; (with_reducible show wpAny _ _ (call (Value.ref 184) _) _ _ _); k_dflt (refine' Con.use (c_subx _ _ _ _ _ _ _ _ _ _ _ _ _ _ _ _ _ _ _ _ _ ?p0 ?p1 ?p2 ?p3 ?p4 ) ?k1 ?k2 ?k3 ?k4 ?k5 ?k6 ?k7 ?k8 ?_; (case k1 => k_asm); (case k2 => k_asm); (case k3 => k_asm); (case k4 => k_asm); (case k5 => k_asm); (case k6 => first | exact rfl | assumption); (case k7 => first | exact bg_room (by assumption) (by decide) | ktr_room); (case k8 => first | exact bg_units (by assumption) (by decide) | ktr_units); (case p0 => first | with_reducible assumption | with_reducible exact rfl | k_mem | exact TupV.cons (by with_reducible assumption) | exact RowsAre.cons (by with_reducible assumption) | walk_at "bg side"); (case p1 => first | with_reducible assumption | with_reducible exact rfl | k_mem | exact TupV.cons (by with_reducible assumption) | exact RowsAre.cons (by with_reducible assumption) | walk_at "bg side"); (case p2 => first | with_reducible assumption | with_reducible exact rfl | k_mem | exact TupV.cons (by with_reducible assumption) | exact RowsAre.cons (by with_reducible assumption) | walk_at "bg side"); (case p3 => first | with_reducible assumption | with_reducible exact rfl | k_mem | exact TupV.cons (by with_reducible assumption) | exact RowsAre.cons (by with_reducible assumption) | walk_at "bg side"); (case p4 => first | with_reducible assumption | with_reducible exact rfl | k_mem | exact TupV.cons (by with_reducible assumption) | exact RowsAre.cons (by with_reducible assumption) | walk_at "bg side"); intro v' nw' h' tk' sg' M' e' b' F' N' hs' hT' hL'); (try dsimp only); (try k_fold); (try k_sweep)))
local macro_rules | `(tactic| walk_at "call ref") => `(tactic| (k_here; (with_reducible show wpAny _ _ (call (Value.ref 161) _) _ _ _); k_dflt (refine' Con.use (c_absvx _ _ _ _ _ _ _ ?p0 ) ?k1 ?k2 ?k3 ?k4 ?k5 ?k6 ?k7 ?k8 ?_; (case k1 => k_asm); (case k2 => k_asm); (case k3 => k_asm); (case k4 => k_asm); (case k5 => k_asm); (case k6 => first | exact rfl | assumption); (case k7 => first | exact bg_room (by assumption) (by decide) | ktr_room); (case k8 => first | exact bg_units (by assumption) (by decide) | ktr_units); (case p0 => first | with_reducible assumption | with_reducible exact rfl | k_mem | exact TupV.cons (by with_reducible assumption) | exact RowsAre.cons (by with_reducible assumption) | walk_at "bg side"); intro v' nw' h' tk' F' N' hs' hT'); (try dsimp only); (try k_fold); (try k_sweep)))
local macro_rules | `(tactic| walk_at "call ref") => `(tactic| (k_here; (with_reducible show wpAny _ _ (call (Value.ref 145) _) _ _ _); k_dflt (refine' Con.use (c_ltx _ _ _ _ _ _ _ _ _ _ _ _ _ ?p0 ?p1 ?p2 ?p3 ) ?k1 ?k2 ?k3 ?k4 ?k5 ?k6 ?k7 ?k8 ?_; (case k1 => k_asm); (case k2 => k_asm); (case k3 => k_asm); (case k4 => k_asm); (case k5 => k_asm); (case k6 => first | exact rfl | assumption); (case k7 => first | exact bg_room (by assumption) (by decide) | ktr_room); (case k8 => first | exact bg_units (by assumption) (by decide) | ktr_units); (case p0 => first | with_reducible assumption | with_reducible exact rfl | k_mem | exact TupV.cons (by with_reducible assumption) | exact RowsAre.cons (by with_reducible assumption) | walk_at "bg side"); (case p1 => first | with_reducible assumption | with_reducible exact rfl | k_mem | exact TupV.cons (by with_reducible assumption) | exact RowsAre.cons (by with_reducible assumption) | walk_at "bg side"); (case p2 => first | with_reducible assumption | with_reducible exact rfl | k_mem | exact TupV.cons (by with_reducible assumption) | exact RowsAre.cons (by with_reducible assumption) | walk_at "bg side"); (case p3 => first | with_reducible assumption | with_reducible exact rfl | k_mem | exact TupV.cons (by with_reducible assumption) | exact RowsAre.cons (by with_reducible assumption) | walk_at "bg side"); intro h' tk' F' N'); (try dsimp only); (try k_fold); (try k_sweep)))
theorem c_one (w : World) (news : Led) (x t m sg M : Int) (b z : Nat) (tx tt : Tok) (h0 : 0 ≤ t) (h5 : t ≤ 5) (hm : m ≠ 0) (em : mm x = m) (p1 : sgn m = sg) (p2 : od (am m) = M) (p3 : tz (am m) = z) (p4 : bl M = b) (p5 : (sg = 0 ∧ 0 < m) ∨ (sg = 1 ∧ m < 0)) (p6 : 0 < M) (p7 : M % 2 = 1) (p8 : b + z ≤ 366) :
    ConS w 269 8 news [.int x tx, .int t tt] true := by
  unfold ConS; k_fill
  intro loose mean mg mb dp un gd cn cs a ccd cl outer A₀ base h₀ L m₀ s Q E B F X N T XB TB D hk hdp hu hret; walk_at "bg enterC"
  have g1 := Int.fmod_nonneg_of_pos x (show (0:Int) < 9 by decide)
  have g2 := Int.fmod_lt_of_pos x (show (0:Int) < 9 by decide)
  have g3 := Int.fmod_nonneg_of_pos (x.fdiv 7 + 90 + 60 * t) (show (0:Int) < 300 by decide)
  have g4 := Int.fmod_lt_of_pos (x.fdiv 7 + 90 + 60 * t) (show (0:Int) < 300 by decide)
  have g5 := Int.fmod_nonneg_of_pos (x.fdiv 5 + 31 * t) (show (0:Int) < 201 by decide)
  have g6 := Int.fmod_lt_of_pos (x.fdiv 5 + 31 * t) (show (0:Int) < 201 by decide)
  have f1 : (Builtin.Int.intBits 10 : Int) * 110 ≤ 2 ^ 27 := by decide
  have f2 : b = Builtin.Int.intBits M := p4.symm
  have f3 : (b : Int) = (Builtin.Int.intBits M : Int) := by rw [f2]
  have f4 : (x.fdiv 5 + 31 * t).fmod 201 - 100 + (z : Int) + (-(b : Int) - ((x.fdiv 5 + 31 * t).fmod 201 - 100 + (z : Int))) = -(b : Int) := by omega
  have f5 : sg = 0 ∨ sg = 1 := by omega
  have f7 : m < 0 → sg = 1 := by omega
  have f8 : ¬ m < 0 → sg = 0 := by omega
  walk_at "bg walk1"
  refine join_int m ?_ ?_
  · by_cases hx : (if x < 0 then -x else x) < 10 ^ (110:Int).toNat
    · have e : m = x := by rw [← em]; exact if_pos hx
      rw [e]
      walk_at "bg walk"
    · have e : m = x.fmod (10 ^ (110:Int).toNat) := by rw [← em]; exact if_neg hx
      rw [e]
      walk_at "bg walk"
  · intro tm tk
    (try dsimp only)
    walk_at "bg walk1"
    rename Fr _ _ _ _ => F9
    rename News _ _ _ _ => N9
    refine join_T sg (qM M b (4 + (x.fdiv 7 + 90 + 60 * t).fmod 300)) (qE M b (4 + (x.fdiv 7 + 90 + 60 * t).fmod 300) - (((x.fdiv 5 + 31 * t).fmod 201 - 100 + (z : Int)) + (-(b : Int) - ((x.fdiv 5 + 31 * t).fmod 201 - 100 + (z : Int))))) (qB M b (4 + (x.fdiv 7 + 90 + 60 * t).fmod 300)) F9 N9 ?_ ?_
    · rcases p5 with ⟨e5, e6⟩ | ⟨e5, e6⟩
      · subst e5
        walk_at "bg walk"
        all_goals exact ⟨_, _, _, _, _, _, _, rfl, rfl, by k_asm, news_dup (by k_asm) (by k_mem)⟩
      · subst e5
        walk_at "bg walk"
        all_goals exact ⟨_, _, _, _, _, _, _, rfl, rfl, by k_asm, by k_asm⟩
    · intro r9 t91 t92 t93 t94 h9 tk9 F99 N99
      clear F9 N9
      (try dsimp only)
      walk_at "bg walk1"
      rename Fr _ _ _ _ => F9
      rename News _ _ _ _ => N9
      refine join_Z M b (fun xe hk => ∃ c : Nat, xe = -(c : Int) ∧ (c = Builtin.Int.intBits M ∨ c = Builtin.Int.intBits M + 1) ∧ c ≤ 900 ∧ hk = c + ((x.fdiv 5 + 31 * t).fmod 201 - 100 + (z : Int)) ∧ hk % 2 = 0) F9 N9 ?_ ?_
      · by_cases hk2 : ((b : Int) + ((x.fdiv 5 + 31 * t).fmod 201 - 100 + (z : Int))).fmod 2 = 0
        · walk_at "bg walk"
          all_goals exact ⟨rfl, _, _, _, _, _, _, _, _, _, _, _, rfl, by k_asm, rfl, rfl, (fun y h1 h2 => by rw [if_neg h2, if_neg h1]), news_dup (by walk_at "bg led") (by k_mem), b, f4, .inl f2, by omega, by omega, by rw [Int.fmod_eq_emod_of_nonneg _ (by decide)] at hk2; omega⟩
        · walk_at "bg walk"
          all_goals exact ⟨rfl, _, _, _, _, _, _, _, _, _, _, _, rfl, by k_asm, rfl, rfl, (fun y h1 h2 => by rw [if_neg h2, if_neg h1]), by walk_at "bg led", b + 1, by omega, .inr (by rw [f2]), by omega, by omega, by rw [Int.fmod_eq_emod_of_nonneg _ (by decide)] at hk2; omega⟩
      · rintro r10 t11 t12 t13 t14 xe hk' th h10 tk10 F98 N98 ⟨c, rfl, hc1, hc2, hc3, hc4⟩
        obtain ⟨n1, n2, n3, n4⟩ := near_all (tg := (4 + (x.fdiv 7 + 90 + 60 * t).fmod 300)) p6 f2 hc1 (by omega) (by omega) (by omega)
        have n5 := n4.pos
        have j1 := uM_shift M b (4 + (x.fdiv 7 + 90 + 60 * t).fmod 300) (-(c : Int)) (hk'.fdiv 2)
        have j2 := uE_shift M b (4 + (x.fdiv 7 + 90 + 60 * t).fmod 300) (-(c : Int)) (hk'.fdiv 2)
        have j3 : -(c : Int) + 2 * hk'.fdiv 2 = ((x.fdiv 5 + 31 * t).fmod 201 - 100 + (z : Int)) := by rw [fdiv_pos_eq (by decide)]; omega
        rw [j3] at j1 j2
        obtain ⟨j4, j5⟩ := j1
        clear F9 N9
        (try dsimp only)
        walk_at "bg walk1"
        rcases p5 with ⟨e5, e6⟩ | ⟨e5, e6⟩
        · subst e5
          have e7 : ¬ m < 0 := Int.not_lt.mpr (Int.le_of_lt e6)
          walk_at "bg walk"
          all_goals first
            | exact hret _ _ _ (by assumption) (by k_asm) (by walk_at "bg led") (by assumption) (by assumption) (by assumption) (by assumption)
            | exact hret _ _ _ KtsTurn.refl (by k_asm) (by walk_at "bg led") (by assumption) (by assumption) (by assumption) (by assumption)
        · subst e5
          walk_at "bg walkM"
          k_dflt (refine' ConS.use (c_noroot _ _ _ _ _ _ _ _ _ _ _ _ ?hr) ?k1 ?k2 ?k3 ?k4 ?k5 ?XB ?TB ?D ?k6 ?k7 ?k8 ?_; (case k2 => k_asm); (case k1 => k_asm); (case k3 => k_asm); (case k4 => k_asm); (case hr => k_mem); (case k5 => k_asm); (case XB => assumption); (case TB => assumption); (case D => assumption); (case k6 => first | exact rfl | assumption); (case k7 => first | exact bg_room (by assumption) (by decide) | ktr_room); (case k8 => first | exact bg_units (by assumption) (by decide) | ktr_units))
          intro h' tk' g' T' F' N' B' X' TP' D'
          (try dsimp only); (try k_lift B'); (try k_fold); (try k_sweep)
          walk_at "bg walk"
          all_goals exact hret _ _ _ (by assumption) (by k_asm) (by walk_at "bg led") (by assumption) (by assumption) (by assumption) (by assumption)
end
local macro_rules | `(tactic| walk_at "bg none") => `(tactic| skip)
local macro_rules | `(tactic| walk_at "bg none") => `(tactic| skip)
local macro_rules | `(tactic| walk_at "bg none") => `(tactic| skip)
local macro_rules | `(tactic| walk_at "bg none") => `(tactic| skip)
local macro_rules | `(tactic| walk_at "bg none") => `(tactic| skip)
local macro_rules | `(tactic| walk_at "bg none") => `(tactic| skip)
local macro_rules | `(tactic| walk_at "bg none") => `(tactic| skip)
local macro_rules | `(tactic| walk_at "bg none") => `(tactic| skip)
local macro_rules | `(tactic| walk_at "bg none") => `(tactic| skip)
local macro_rules | `(tactic| walk_at "bg none") => `(tactic| skip)
local macro_rules | `(tactic| walk_at "bg none") => `(tactic| skip)
local macro_rules | `(tactic| walk_at "bg none") => `(tactic| skip)
local macro_rules | `(tactic| walk_at "bg none") => `(tactic| skip)
local macro_rules | `(tactic| walk_at "bg none") => `(tactic| skip)
local macro_rules | `(tactic| walk_at "bg none") => `(tactic| skip)
local macro_rules | `(tactic| walk_at "bg none") => `(tactic| skip)
local macro_rules | `(tactic| walk_at "bg none") => `(tactic| skip)
local macro_rules | `(tactic| walk_at "bg none") => `(tactic| skip)
local macro_rules | `(tactic| walk_at "bg none") => `(tactic| skip)
local macro_rules | `(tactic| walk_at "bg none") => `(tactic| skip)
local macro_rules | `(tactic| walk_at "bg none") => `(tactic| skip)
local macro_rules | `(tactic| walk_at "bg none") => `(tactic| skip)
local macro_rules | `(tactic| walk_at "bg none") => `(tactic| skip)
local macro_rules | `(tactic| walk_at "bg none") => `(tactic| skip)
local macro_rules | `(tactic| walk_at "bg none") => `(tactic| skip)
local macro_rules | `(tactic| walk_at "bg none") => `(tactic| skip)
local macro_rules | `(tactic| walk_at "bg none") => `(tactic| skip)
local macro_rules | `(tactic| walk_at "bg none") => `(tactic| skip)
local macro_rules | `(tactic| walk_at "bg none") => `(tactic| skip)
local macro_rules | `(tactic| walk_at "bg none") => `(tactic| skip)
local macro_rules | `(tactic| walk_at "bg none") => `(tactic| skip)
local macro_rules | `(tactic| walk_at "bg none") => `(tactic| skip)
local macro_rules | `(tactic| walk_at "bg none") => `(tactic| skip)
section
set_option maxRecDepth 100000
set_option maxHeartbeats 4000000
theorem turn_nil_F {h₀ g h : Heap} {L : Addr} {m : Str → Option Value} (T : KtsTurn [] h₀ g) (F : Fr g L h m) : Fr h₀ L h m :=
  ⟨F.ns, fun b o e => F.keep b o (T.other b o e (fun q => nomatch q)), by rw [← T.size]; exact F.above⟩
theorem turn_nil_N {h₀ g h : Heap} {L : Addr} {l : Led} (T : KtsTurn [] h₀ g) (N : News g L h l) : News h₀ L h l := fun p hp => by
  refine ⟨(N p hp).1, (N p hp).2.1, ?_⟩
  cases q : h₀.get? p.1 with
  | none => rfl
  | some o =>
    have h1 := T.other _ _ q (fun q => nomatch q)
    rw [(N p hp).2.2] at h1
    cases h1
/-- a def that catches, called from the law's own frame: the ground stays -/
theorem ConS.top {w : World} {f : Addr} {sz : Nat} {news : Led} {vs : List Value} {b : Bool} (C : ConS w f sz news vs b)
    {loose : List Str} {mean : ExcName → Option Value} {mg mb : Str → Option Value} {dp un : Nat} {gd : Option (List Code)} {cn : Str} {cs : Scope} {a : Addr} {ccd : Value} {cl : List (Str × Addr)} {A₀ : Around} {h₀ : Heap} {L : Addr} {m : Str → Option Value} {s : Shared} {Q E : Value → Shared → Prop}
    (B : Below A₀ h₀ [] h₀) (F : Fr h₀ L s.heap m) (X : (hd.heap_39 w.params).In h₀) (N : News h₀ L s.heap news) (T : Top hd.view_39 loose mean mg mb h₀) (hk : cs.kind = .function)
    (hdp : dp + sz < recursionLimit) (hu : un + 8 * sz + 128 < cLine)
    (ret : ∀ h' tk', Fr h₀ L h' m → News h₀ L h' news → Q (.bool b) { s with heap := h', toks := tk' }) :
    wpAny (model PySem.Challenge.rw_bg5010_01.row.prog w) (ktrTop dp un gd cn cs L a ccd cl []) (call (.ref f) vs) Q E s :=
  C.use B F X N T X T ktsDicts_nil hk hdp hu fun h' tk' g' T' F' N' _ _ _ _ => ret h' tk' (turn_nil_F T' F') (turn_nil_N T' N')
section
variable {prog : Program} {w : World} {A : Around} {E : Value → Shared → Prop} {s : Shared} {Q : Value → Shared → Prop} {h₀ : Heap} {L : Addr} {m : Str → Option Value} {news : List (Addr × Obj)} {value slice : PySem.Expr} {l b : Addr} {us vs : List Value} {v : Value} {u : Tok} {n n' : Nat}
theorem addI_K (F : Fr h₀ L s.heap m) (N : News h₀ L s.heap news) (ha : h₀.IsList l us.toArray) (hb : (b, listOf vs.toArray n') ∈ news) (hz : us.length + vs.length ≤ sizeLine)
    (h : ∀ D h', Fr h₀ L h' m → News h₀ L h' ((D, listOf (us ++ vs).toArray 0) :: news) → (∀ p ∈ news, p.1 < D) → Q (.ref D) { s with heap := h' }) :
    wpAny (model prog w) A (binaryOp .Add (.ref l) (.ref b)) Q E s :=
  add_lists F N (by obtain ⟨o, e, r⟩ := ha; exact ⟨o, F.keep _ _ e, r⟩) (News.isList N hb) (fun h' F' N' => h _ h' F' N' fun p hp => Heap.lt_size (N p hp).1) hz
theorem to6_K (F : Fr h₀ L s.heap m) (N : News h₀ L s.heap news) (hm : (l, listOf vs.toArray n) ∈ news) (hz : vs.length ≤ sizeLine)
    (h : ∀ D h', Fr h₀ L h' m → News h₀ L h' ((D, listOf (vs.take 6).toArray 0) :: news) → (∀ p ∈ news, p.1 < D) → Q (.ref D) { s with heap := h' })
    (hs : subscripted slice false (.ref l) (.ref s.heap.objs.size) = operate [.ref s.heap.objs.size, .ref l] (getItem (.ref l) (.ref s.heap.objs.size))) :
    wpAny (model prog w) A (subscriptTail value slice (.ref l) (.ref s.heap.objs.size)) Q E { s with heap := s.heap.push { cls := .type "slice", data := .fields #[.none, .int 6 u, .none] } } := by
  have hl : s.heap.IsList l vs.toArray := News.isList N hm
  have e : slicePick vs.toArray none (some 6) none = (vs.take 6).toArray := by
    rw [kmk_pick_nat (a := 0) (b := min 6 vs.length) _ (by simp [sliceBounds]; omega)]
    simp [kmk_take_min]
  refine tail_any (Heap.IsList.typeIs (s := { s with heap := s.heap.push { cls := .type "slice", data := .fields #[.none, .int 6 u, .none] } }) (hl.push _)) list_getitem_lookup
    (wpAny_getItem_list_slice (hl.push _) (Heap.IsSliceOf.new ..) .none (IsPart.int _ _) .none (by simp) ?_ (by rw [List.size_toArray]; exact hz)) hs
  have N1 := News.push (F.push { cls := .type "slice", data := .fields #[.none, .int 6 u, .none] }) (N.grown fun _ _ e => Heap.get?_push_of_some _ e) { cls := .type "list", data := .seq (slicePick vs.toArray none (some 6) none) }
  rw [e] at N1 ⊢
  exact h _ _ ((F.push _).push _) N1 fun p hp => Nat.lt_trans (Heap.lt_size (N p hp).1) (by rw [Heap.size_push]; exact Nat.lt_succ_self _)
end
theorem c_lawone (w : World) (news : Led) (x t : Int) (tx tt : Tok) (h0 : 0 ≤ t) (h5 : t ≤ 5) : ConS w 269 8 news [.int x tx, .int t tt] true := by
  by_cases hm : mm x = 0
  · exact c_zero w news x t tx tt h0 h5 hm
  · obtain ⟨q1, q2⟩ := mm_lt x
    obtain ⟨sg, M, b, z, p1, p2, p3, p4, p5, p6, p7, p8⟩ := parts hm q1 q2
    exact c_one w news x t (mm x) sg M b z tx tt h0 h5 hm rfl p1 p2 p3 p4 p5 p6 p7 p8
local macro_rules | `(tactic| walk_at "binaryOp Add ref ref") => `(tactic| (k_here; k_dflt (refine' addI_K ?F ?N ?a ?b ?z ?_; (case F => k_asm); (case N => k_asm); (case a => assumption); (case b => k_mem); (case z => (simp only [sizeLine_eq, List.length_cons, List.length_nil]; omega))); intro D' h' F' N' l1; (try k_lt l1); (try dsimp only); (try k_sweep)))
local macro_rules | `(tactic| walk_at "subscriptTail BinOp Name Add List Slice ref ref") => `(tactic| (k_here; (with_reducible show wpAny _ _ (subscriptTail _ (PySem.Expr.Slice none (some _) none _) (Value.ref _) (Value.ref _)) _ _ _); k_dflt (refine' to6_K ?F ?N ?m ?z ?_ ?s; (case F => k_asm); (case N => k_asm); (case m => k_mem); (case z => (simp only [sizeLine_eq, List.length_append, List.length_cons, List.length_nil]; omega)); (case s => (dsimp only; exact rfl))); intro D' h' F' N' l1; (try k_lt l1); (try dsimp only); (try k_sweep)))
local macro_rules | `(tactic| walk_at "call type:enumerate") => `(tactic| (k_here; k_dflt (refine' ktu_enum ?hh ?F ?N ?m ?c ?d ?x ?_; (case hh => exact rfl); (case F => k_asm); (case N => k_asm); (case m => k_mem); (case c => exact rfl); (case d => exact rfl); (case x => exact rfl)); intro I' l1; (try dsimp only)))
local macro_rules | `(tactic| walk_at "call ref") => `(tactic| (k_here; (with_reducible show wpAny _ _ (call (Value.ref 269) _) _ _ _); k_dflt (refine' ConS.top (c_lawone _ _ _ _ _ _ ?p0 ?p1) ?k1 ?k2 ?k3 ?k4 ?k5 ?k6 ?k7 ?k8 ?_; (case p0 => omega); (case p1 => omega); (case k2 => k_asm); (case k1 => k_asm); (case k3 => k_asm); (case k4 => k_asm); (case k5 => k_asm); (case k6 => first | exact rfl | assumption); (case k7 => ktr_room); (case k8 => ktr_units)); intro h' tk' F' N'; (try dsimp only)))
theorem law_holds : PySem.Challenge.rw_bg5010_01.Holds := hd (by
  k_go0
  all_goals try k_fold
  all_goals (rename (¬ ((63:Nat):Int) < _) => hlen; rename (IntsAre _ _) => hI; rename (Heap.IsList _ _ _) => hL)
  walk_at "bg walk"
  all_goals try dsimp only
  walk_at "bg for"
  have hz1 := IntsAre.length hI
  iterate 22 (walk_at "bg step")
  iterate 3 (walk_at "bg step")
  refine items_fix _ (by assumption) ?hws ?hkeep (fun xs _ => ∃ i us ms, xs = enumItems i us ∧ IntsAre us ms ∧ i + us.length ≤ 6) ?step ?done _ _ ?init
  case hws => simp
  case hkeep => simp
  case init => exact ⟨0, _, _, rfl, IntsAre.take (IntsAre.append hI (.cons _ _ (.cons _ _ .nil))) 6, by rw [List.length_take]; omega⟩
  case done =>
    rintro m h tk _ F₁ N₁
    walk_at "bg walk"
  case step =>
    rintro a r m ⟨i, us, ms, e, hi, hle⟩ v h tk hv F₁
    cases us with
    | nil => cases e
    | cons v1 us =>
      cases hi with
      | @cons x tx _ ms2 hi2 =>
        obtain ⟨rfl, rfl⟩ : a = .pair (fun t => .int (i : Int) t) (.int x tx) ∧ r = enumItems (i + 1) us := by
          injection e with e1 e2; exact ⟨e1, e2⟩
        obtain ⟨T, t, rfl, hT⟩ := hv
        dsimp only at hT
        rw [List.length_cons] at hle
        ktu_objs
        walk_at "bg walk"
        exact ⟨_, _, _, _, rfl, by k_asm, by assumption, by walk_at "bg sub", i + 1, us, ms2, rfl, hi2, by omega⟩
)
end
local macro_rules | `(tactic| walk_at "bg none") => `(tactic| skip)
local macro_rules | `(tactic| walk_at "bg none") => `(tactic| skip)
local macro_rules | `(tactic| walk_at "bg none") => `(tactic| skip)
local macro_rules | `(tactic| walk_at "bg none") => `(tactic| skip)
local macro_rules | `(tactic| walk_at "bg none") => `(tactic| skip)
end Mine
set_option maxRecDepth 100000 in
set_option maxHeartbeats 8000000 in
theorem PySem.Challenge.cw_bg5010_01_holds : PySem.Challenge.rw_bg5010_01.Holds :=
  Mine.law_holds
