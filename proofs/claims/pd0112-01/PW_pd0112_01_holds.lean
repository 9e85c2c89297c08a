import PyProof.Rows.All
import Wide.All
import OpenK.AllK
import Wide.FinOn
import PySem.Challenge.RW_pd0112_01
open PySem PySem.W PyProof.Rows PySem.Calls
set_option Elab.async false
set_option compiler.extract_closed false
set_option maxRecDepth 100000
set_option maxHeartbeats 8000000
namespace Mine
set_option synthInstance.maxSize 1 in
open_top hd for PySem.Challenge.rw_pd0112_01
theorem off_p00 : True := by
  w_top off
  trivial
/-- A goal that the walk shall leave alone. -/
def Hold (P : Prop) : Prop := P
theorem Hold.of {P : Prop} (h : Hold P) : P := h
theorem Hold.mk {P : Prop} (h : P) : Hold P := h

inductive Go : Prop
  | mk
inductive GoI : Prop
  | mk
/-- What a call of a def promises, whatever stands in the ledger. -/
def Ctr (w : World) (f : Addr) (news : List (Addr × Obj)) (args : List Value) (dep : Nat) (Post : Value → List (Addr × Obj) → Prop) : Prop :=
  ∀ (mean : ExcName → Option Value) (mg mb : Str → Option Value) (dp un : Nat) (gd : Option (List Code)) (cn : Str) (cs : Scope) (a : Addr) (ccd : Value) (cl : List (Str × Addr)) (outer : List Env) (A₀ : Around) (base h₀ : Heap) (L : Addr) (m : Str → Option Value) (s : Shared) (Q E : Value → Shared → Prop),
    Below A₀ base outer h₀ → Fr h₀ L s.heap m → (hd.heap_39 w.params).In h₀ → News h₀ L s.heap news → Top hd.view_39 (looseW hd.view_39 [Str.ofString "Whitespace"]) mean mg mb h₀ → cs.kind = .function → dp + dep < recursionLimit → un + 8 * dep < cLine →
    (∀ v tl h' tk', Fr h₀ L h' m → News h₀ L h' (tl ++ news) → (∀ q ∈ news, ∀ p ∈ tl, q.1 < p.1) → Post v tl → Q v { s with heap := h', toks := tk' }) →
    wpAny (model Challenge.rw_pd0112_01.row.prog w) (ktrTop dp un gd cn cs L a ccd cl outer) (call (.ref f) args) Q E s
theorem Ctr.use {w : World} {f : Addr} {news : List (Addr × Obj)} {args : List Value} {dep : Nat} {Post : Value → List (Addr × Obj) → Prop} (C : Ctr w f news args dep Post)
    {mean : ExcName → Option Value} {mg mb : Str → Option Value} {dp un : Nat} {gd : Option (List Code)} {cn : Str} {cs : Scope} {a : Addr} {ccd : Value} {cl : List (Str × Addr)} {outer : List Env} {A₀ : Around} {base h₀ : Heap} {L : Addr} {m : Str → Option Value} {s : Shared} {Q E : Value → Shared → Prop}
    (B : Below A₀ base outer h₀) (F : Fr h₀ L s.heap m) (X : (hd.heap_39 w.params).In h₀) (N : News h₀ L s.heap news) (T : Top hd.view_39 (looseW hd.view_39 [Str.ofString "Whitespace"]) mean mg mb h₀) (hk : cs.kind = .function) (hd : dp + dep < recursionLimit) (hu : un + 8 * dep < cLine)
    (ret : ∀ v tl h' tk', Fr h₀ L h' m → News h₀ L h' (tl ++ news) → (∀ q ∈ news, ∀ p ∈ tl, q.1 < p.1) → Post v tl → Q v { s with heap := h', toks := tk' }) :
    wpAny (model Challenge.rw_pd0112_01.row.prog w) (ktrTop dp un gd cn cs L a ccd cl outer) (call (.ref f) args) Q E s :=
  C _ _ _ _ _ _ _ _ _ _ _ _ _ _ _ _ _ _ _ _ B F X N T hk hd hu ret
theorem Ctr.useE {w : World} {f : Addr} {news : List (Addr × Obj)} {args : List Value} {dep : Nat} {g : Tok → Value} (C : Ctr w f news args dep (fun v tl => tl = [] ∧ ∃ t, v = g t))
    {mean : ExcName → Option Value} {mg mb : Str → Option Value} {dp un : Nat} {gd : Option (List Code)} {cn : Str} {cs : Scope} {a : Addr} {ccd : Value} {cl : List (Str × Addr)} {outer : List Env} {A₀ : Around} {base h₀ : Heap} {L : Addr} {m : Str → Option Value} {s : Shared} {Q E : Value → Shared → Prop}
    (B : Below A₀ base outer h₀) (F : Fr h₀ L s.heap m) (X : (hd.heap_39 w.params).In h₀) (N : News h₀ L s.heap news) (T : Top hd.view_39 (looseW hd.view_39 [Str.ofString "Whitespace"]) mean mg mb h₀) (hk : cs.kind = .function) (hd : dp + dep < recursionLimit) (hu : un + 8 * dep < cLine)
    (ret : ∀ h' tk', Fr h₀ L h' m → News h₀ L h' news → ∀ t, Q (g t) { s with heap := h', toks := tk' }) :
    wpAny (model Challenge.rw_pd0112_01.row.prog w) (ktrTop dp un gd cn cs L a ccd cl outer) (call (.ref f) args) Q E s :=
  C.use B F X N T hk hd hu fun _ _ h' tk' F' N' _ P => by
    obtain ⟨rfl, t, rfl⟩ := P
    exact ret h' tk' F' N' t
theorem Ctr.useF {w : World} {f : Addr} {news : List (Addr × Obj)} {args : List Value} {dep : Nat} {g : Tok → Value}
    {mean : ExcName → Option Value} {mg mb : Str → Option Value} {dp un : Nat} {gd : Option (List Code)} {cn : Str} {cs : Scope} {a : Addr} {ccd : Value} {cl : List (Str × Addr)} {outer : List Env} {A₀ : Around} {base h₀ : Heap} {L : Addr} {m : Str → Option Value} {s : Shared} {Q E : Value → Shared → Prop}
    (B : Below A₀ base outer h₀) (F : Fr h₀ L s.heap m) (X : (hd.heap_39 w.params).In h₀) (N : News h₀ L s.heap news) (T : Top hd.view_39 (looseW hd.view_39 [Str.ofString "Whitespace"]) mean mg mb h₀) (hk : cs.kind = .function) (C : Ctr w f news args dep (fun v tl => tl = [] ∧ ∃ t, v = g t)) (hd : dp + dep < recursionLimit) (hu : un + 8 * dep < cLine)
    (ret : ∀ h' tk', Fr h₀ L h' m → News h₀ L h' news → ∀ t, Q (g t) { s with heap := h', toks := tk' }) :
    wpAny (model Challenge.rw_pd0112_01.row.prog w) (ktrTop dp un gd cn cs L a ccd cl outer) (call (.ref f) args) Q E s :=
  C.useE B F X N T hk hd hu ret
theorem Ctr.useV {w : World} {f : Addr} {news : List (Addr × Obj)} {args : List Value} {dep : Nat} {x : Value} (C : Ctr w f news args dep (fun v tl => tl = [] ∧ v = x))
    {mean : ExcName → Option Value} {mg mb : Str → Option Value} {dp un : Nat} {gd : Option (List Code)} {cn : Str} {cs : Scope} {a : Addr} {ccd : Value} {cl : List (Str × Addr)} {outer : List Env} {A₀ : Around} {base h₀ : Heap} {L : Addr} {m : Str → Option Value} {s : Shared} {Q E : Value → Shared → Prop}
    (B : Below A₀ base outer h₀) (F : Fr h₀ L s.heap m) (X : (hd.heap_39 w.params).In h₀) (N : News h₀ L s.heap news) (T : Top hd.view_39 (looseW hd.view_39 [Str.ofString "Whitespace"]) mean mg mb h₀) (hk : cs.kind = .function) (hd : dp + dep < recursionLimit) (hu : un + 8 * dep < cLine)
    (ret : ∀ h' tk', Fr h₀ L h' m → News h₀ L h' news → Q x { s with heap := h', toks := tk' }) :
    wpAny (model Challenge.rw_pd0112_01.row.prog w) (ktrTop dp un gd cn cs L a ccd cl outer) (call (.ref f) args) Q E s :=
  C.use B F X N T hk hd hu fun _ _ h' tk' F' N' _ P => by
    obtain ⟨rfl, rfl⟩ := P
    exact ret h' tk' F' N'
theorem Ctr.useR {w : World} {f : Addr} {news : List (Addr × Obj)} {args : List Value} {dep : Nat} {o : Tok → Tok → Tok → Obj}
    {mean : ExcName → Option Value} {mg mb : Str → Option Value} {dp un : Nat} {gd : Option (List Code)} {cn : Str} {cs : Scope} {a : Addr} {ccd : Value} {cl : List (Str × Addr)} {outer : List Env} {A₀ : Around} {base h₀ : Heap} {L : Addr} {m : Str → Option Value} {s : Shared} {Q E : Value → Shared → Prop}
    (B : Below A₀ base outer h₀) (F : Fr h₀ L s.heap m) (X : (hd.heap_39 w.params).In h₀) (N : News h₀ L s.heap news) (T : Top hd.view_39 (looseW hd.view_39 [Str.ofString "Whitespace"]) mean mg mb h₀) (hk : cs.kind = .function) (C : Ctr w f news args dep (fun v tl => ∃ D t1 t2 t3, v = .ref D ∧ tl = [(D, o t1 t2 t3)])) (hd : dp + dep < recursionLimit) (hu : un + 8 * dep < cLine)
    (ret : ∀ D h' tk', (∀ q ∈ news, q.1 < D) → ∀ t1 t2 t3, Fr h₀ L h' m → News h₀ L h' ((D, o t1 t2 t3) :: news) → Q (.ref D) { s with heap := h', toks := tk' }) :
    wpAny (model Challenge.rw_pd0112_01.row.prog w) (ktrTop dp un gd cn cs L a ccd cl outer) (call (.ref f) args) Q E s :=
  C.use B F X N T hk hd hu fun _ _ h' tk' F' N' l P => by
    obtain ⟨D, t1, t2, t3, rfl, rfl⟩ := P
    exact ret D h' tk' (fun q hq => l q hq _ (List.mem_singleton.mpr rfl)) t1 t2 t3 F' N'
theorem Hold.ofL {prog : Program} {w : World} {A A' : Around} {h₀ : Heap} {env : Env} {x : Str} {body : List Stmt} {Q : Flow → Shared → Prop} {E E' : Value → Shared → Prop} {s : Shared} {M : Model} {a : Addr} (h : Hold (wpAny M A (pyIter (.ref a)) (fun it s₂ => LoopAtV prog w A' h₀ env x body Q E' it s₂) E s)) : wpAny M A (pyIter (.ref a)) (fun it s₂ => LoopAtV prog w A' h₀ env x body Q E' it s₂) E s := h
theorem Hold.ofT {prog : Program} {w : World} {A A' : Around} {h₀ : Heap} {env : Env} {x : Expr} {body : List Stmt} {Q : Flow → Shared → Prop} {E E' : Value → Shared → Prop} {s : Shared} {M : Model} {a : Addr} (h : Hold (wpAny M A (pyIter (.ref a)) (fun it s₂ => TurnsAt prog w A' h₀ env x body Q E' it s₂) E s)) : wpAny M A (pyIter (.ref a)) (fun it s₂ => TurnsAt prog w A' h₀ env x body Q E' it s₂) E s := h
theorem Ctr.mono {w : World} {f : Addr} {news : List (Addr × Obj)} {args : List Value} {dep : Nat} {Post Post' : Value → List (Addr × Obj) → Prop} (C : Ctr w f news args dep Post) (h : ∀ v tl, Post v tl → Post' v tl) : Ctr w f news args dep Post' :=
  fun _ _ _ _ _ _ _ _ _ _ _ _ _ _ _ _ _ _ _ _ B F X N T hk hd hu ret => C _ _ _ _ _ _ _ _ _ _ _ _ _ _ _ _ _ _ _ _ B F X N T hk hd hu fun v tl h' tk' F' N' l P => ret v tl h' tk' F' N' l (h v tl P)

theorem fr_congr {h₀ : Heap} {L : Addr} {h : Heap} {m m' : Str → Option Value} (F : Fr h₀ L h m) (e : ∀ y, m y = m' y) : Fr h₀ L h m' := by
  have : m = m' := funext e
  rw [← this]; exact F
theorem fr_get {h₀ : Heap} {L : Addr} {h : Heap} {m : Str → Option Value} {x : Str} {v : Option Value} (F : Fr h₀ L h m) (e : m x = v) : Fr h₀ L h (fun y => if y = x then v else m y) :=
  fr_congr F fun y => by
    by_cases h : y = x
    · subst h; rw [if_pos rfl]; exact e
    · rw [if_neg h]
theorem fr_split {h₀ : Heap} {L : Addr} {h : Heap} {m : Str → Option Value} {x : Str} {v : Value} (F : Fr h₀ L h m) (e : m x = some v) : ∃ m0 : Str → Option Value, Fr h₀ L h (fun y => if y = x then some v else m0 y) :=
  ⟨m, fr_congr F fun y => by
    by_cases h : y = x
    · subst h; rw [if_pos rfl]; exact e
    · rw [if_neg h]⟩
theorem fr_ent2 {h₀ : Heap} {L : Addr} {h : Heap} {m : Str → Option Value} (x y : Str) {v u : Value} (F : Fr h₀ L h m) (e : m x = some v) (e2 : m y = some u) : ∃ m0 : Str → Option Value, Fr h₀ L h (fun z => if z = x then some v else if z = y then some u else m0 z) :=
  ⟨m, fr_congr F fun z => by
    by_cases h : z = x
    · subst h; rw [if_pos rfl]; exact e
    · rw [if_neg h]
      by_cases h : z = y
      · subst h; rw [if_pos rfl]; exact e2
      · rw [if_neg h]⟩
theorem letAE {M : Model} {A : Around} {b : List Stmt} {env : Env} {Q : Flow → Shared → Prop} {E : Value → Shared → Prop} {s : Shared} (h : let e9 := env; let A9 := A; wpAny M A9 (execs b e9) Q E s) : wpAny M A (execs b env) Q E s := h
theorem letQ {M : Model} {α : Type} {A : Around} {t : Sem α} {Q : α → Shared → Prop} {E : Value → Shared → Prop} {s : Shared} (h : let Q9 := Q; wpAny M A t Q9 E s) : wpAny M A t Q E s := h
theorem letU {M : Model} {α β : Type} {A : Around} {t : Sem α} {u : Sem β} {Q : β → Shared → Prop} {E E' : Value → Shared → Prop} {s : Shared} (h : let Q9 := Q; wpAny M A t (fun _ s₂ => wpAny M A u Q9 E' s₂) E s) : wpAny M A t (fun _ s₂ => wpAny M A u Q E' s₂) E s := h
theorem letG {P : Prop} (h : let G9 := P; G9) : P := h
theorem blk {α : Sort u} {P : α → Prop} (h : ∀ x, P x) : ∀ x, P x := h
theorem stk {M : Model} {α : Type} {A : Around} {t : Sem α} {Q : α → Shared → Prop} {E : Value → Shared → Prop} {h : Heap} {g d k o} (H : ∀ k, wpAny M A t Q E (Shared.mk h g d k o)) : wpAny M A t Q E (Shared.mk h g d k o) := H k
theorem unrPost_mono {h₀ : Heap} {L : Addr} {s₁ : Shared} {I : Addr} {it : Obj} {rest rest' : (Str → Option Value) → List (Addr × Obj) → Prop} {Q : Flow → Shared → Prop} {f : Flow} {s₂ : Shared} (h : UnrPost h₀ L s₁ I it rest Q f s₂) (hr : ∀ m n, rest m n → rest' m n) : UnrPost h₀ L s₁ I it rest' Q f s₂ := by
  cases f with
  | ret v => exact h
  | brk => exact h
  | next => obtain ⟨h', tk, m', news', e, F', N', off, r⟩ := h; exact ⟨h', tk, m', news', e, F', N', off, hr _ _ r⟩
  | cont => obtain ⟨h', tk, m', news', e, F', N', off, r⟩ := h; exact ⟨h', tk, m', news', e, F', N', off, hr _ _ r⟩

section
variable {prog : Program} {w : World} {A : Around} {E : Value → Shared → Prop} {s : Shared} {env : Env} {h₀ : Heap} {x : Str} {body : List Stmt} {Q : Flow → Shared → Prop}
theorem rangeRest_inv {I : Addr} {a : Int} {n : Nat} (J : Nat → (Str → Option Value) → List (Addr × Obj) → Prop)
    (turn : ∀ i m news t h tk, i < n → J i m news → Fr h₀ env.locals h (fun y => if y = x then some (.int (a + (i : Int)) t) else m y) → News h₀ env.locals h ((I, itR (a + ((i + 1 : Nat) : Int)) ((n : Int) - ((i + 1 : Nat) : Int))) :: news) →
      wpAny (model prog w) A (execs body env) (UnrPost h₀ env.locals { s with heap := h, toks := tk } I (itR (a + ((i + 1 : Nat) : Int)) ((n : Int) - ((i + 1 : Nat) : Int))) (J (i + 1)) Q) E { s with heap := h, toks := tk })
    (done : ∀ m news h tk, J n m news → Fr h₀ env.locals h m → News h₀ env.locals h news → Q .next { s with heap := h, toks := tk }) :
    ∀ k i m news, i + k = n → J i m news → RangeRest prog w A E h₀ env x body Q s I a n k i m news
  | 0, i, m, news, e, hj => by
    have e' : i = n := by omega
    subst e'
    exact RangeRest.zero fun h tk F N => done m news h tk hj F N
  | k + 1, i, m, news, e, hj => RangeRest.succ fun t h tk F N =>
    wpAny_mono (turn i m news t h tk (by omega) hj F N) (fun f s₂ p => unrPost_mono p fun m' n' r => rangeRest_inv J turn done k (i + 1) m' n' (by omega) r) fun _ _ e => e
theorem listRest_inv {I : Addr} {lp : Addr × Obj} {vs : List Value} (J : Nat → (Str → Option Value) → List (Addr × Obj) → Prop)
    (turn : ∀ i v m news (it : Obj) h tk, vs[i]? = some v → J i m news → it.cls = .type "list_iterator" → Fr h₀ env.locals h (fun y => if y = x then some v else m y) → News h₀ env.locals h ((I, it) :: news) →
      wpAny (model prog w) A (execs body env) (UnrPost h₀ env.locals { s with heap := h, toks := tk } I it (fun m' n' => lp ∈ n' ∧ J (i + 1) m' n') Q) E { s with heap := h, toks := tk })
    (done : ∀ m news h tk, J vs.length m news → Fr h₀ env.locals h m → News h₀ env.locals h news → Q .next { s with heap := h, toks := tk }) :
    ∀ (r : List Value) i m news, vs.drop i = r → i ≤ vs.length → J i m news → ListRest prog w A E h₀ env x body Q s I lp r m news
  | [], i, m, news, e, hi, hj => by
    have e' : i = vs.length := by have := List.drop_eq_nil_iff.mp e; omega
    subst e'
    exact ListRest.zero fun h tk F N => done m news h tk hj F N
  | v :: r, i, m, news, e, hi, hj => ListRest.succ fun it h tk hc F N => by
    have hlt : i < vs.length := by
      rcases Nat.lt_or_ge i vs.length with h1 | h1
      · exact h1
      · rw [List.drop_eq_nil_iff.mpr h1] at e; cases e
    have e2 := List.drop_eq_getElem_cons hlt
    rw [e] at e2
    have ev : vs[i]? = some v := by rw [List.getElem?_eq_getElem hlt]; exact congrArg some (List.cons.inj e2).1.symm
    exact wpAny_mono (turn i v m news it h tk ev hj hc F N) (fun f s₂ p => unrPost_mono p fun m' n' r' => ⟨r'.1, listRest_inv J turn done r (i + 1) m' n' (List.cons.inj e2).2.symm hlt r'.2⟩) fun _ _ e => e
theorem strRest_inv {I : Addr} {cs : List Str} (J : Nat → (Str → Option Value) → List (Addr × Obj) → Prop)
    (turn : ∀ i c m news (u : Tok) (it : Obj) h tk, cs[i]? = some c → J i m news → Fr h₀ env.locals h (fun y => if y = x then some (.str c u) else m y) → News h₀ env.locals h ((I, it) :: news) →
      wpAny (model prog w) A (execs body env) (UnrPost h₀ env.locals { s with heap := h, toks := tk } I it (J (i + 1)) Q) E { s with heap := h, toks := tk })
    (done : ∀ m news h tk, J cs.length m news → Fr h₀ env.locals h m → News h₀ env.locals h news → Q .next { s with heap := h, toks := tk }) :
    ∀ (r : List Str) i m news, cs.drop i = r → i ≤ cs.length → J i m news → StrRest prog w A E h₀ env x body Q s I r m news
  | [], i, m, news, e, hi, hj => by
    have e' : i = cs.length := by have := List.drop_eq_nil_iff.mp e; omega
    subst e'
    exact StrRest.zero fun h tk F N => done m news h tk hj F N
  | v :: r, i, m, news, e, hi, hj => StrRest.succ fun u it h tk F N => by
    have hlt : i < cs.length := by
      rcases Nat.lt_or_ge i cs.length with h1 | h1
      · exact h1
      · rw [List.drop_eq_nil_iff.mpr h1] at e; cases e
    have e2 := List.drop_eq_getElem_cons hlt
    rw [e] at e2
    have ev : cs[i]? = some v := by rw [List.getElem?_eq_getElem hlt]; exact congrArg some (List.cons.inj e2).1.symm
    exact wpAny_mono (turn i v m news u it h tk ev hj F N) (fun f s₂ p => unrPost_mono p fun m' n' r' => strRest_inv J turn done r (i + 1) m' n' (List.cons.inj e2).2.symm hlt r') fun _ _ e => e
end

abbrev tupO (vs : Array Value) : Obj := { cls := .type "tuple", data := .seq vs }

section
variable {prog : Program} {w : World} {A : Around} {E : Value → Shared → Prop} {s : Shared} {h₀ : Heap} {L : Addr} {news : List (Addr × Obj)}
theorem len_tup {c : Addr} {vs : List Value} {Q : Value → Shared → Prop} (N : News h₀ L s.heap news) (hm : (c, tupO vs.toArray) ∈ news) (hz : vs.length < 2 ^ 62) (h : ∀ t tk, Q (.int (vs.length : Nat) t) { s with toks := tk }) :
    wpAny (model prog w) A (call (.builtin "len") [.ref c]) Q E s :=
  len_tuple (N.isTup hm) (by simp; omega) (by have := h (s.toks + 1) (s.toks + 1 + 1); simpa using this)
theorem len_lst {c : Addr} {vs : List Value} {n : Nat} {Q : Value → Shared → Prop} (N : News h₀ L s.heap news) (hm : (c, W.listOf vs.toArray n) ∈ news) (hz : vs.length < 2 ^ 62) (h : ∀ t tk, Q (.int (vs.length : Nat) t) { s with toks := tk }) :
    wpAny (model prog w) A (call (.builtin "len") [.ref c]) Q E s :=
  Calls.call_len_list (N.isList hm) (by simp; omega) (by have := h (s.toks + 1) (s.toks + 1 + 1); simpa using this)
theorem item_tup {value slice : PySem.Expr} {c : Addr} {vs : List Value} {k : Int} {u : Tok} {v : Value} {Q : Value → Shared → Prop} (N : News h₀ L s.heap news) (hm : (c, tupO vs.toArray) ∈ news) (h0 : 0 ≤ k) (hk : k < 2 ^ 62) (hx : vs[k.toNat]? = some v) (h : Q v s)
    (hs : subscripted slice false (.ref c) (.int k u) = operate [.ref c, .int k u] (getItem (.ref c) (.int k u)) := by with_unfolding_all rfl) :
    wpAny (model prog w) A (subscriptTail value slice (.ref c) (.int k u)) Q E s :=
  item_tupleT (N.isTup hm) (by omega) (by omega) (j := k.toNat) (by
    have hl : k.toNat < vs.length := by
      rcases Nat.lt_or_ge k.toNat vs.length with h1 | h1
      · exact h1
      · rw [List.getElem?_eq_none h1] at hx; cases hx
    unfold seqIndex?
    simp only [show ¬ (k < 0) by omega, if_false]
    rw [if_pos (by simp only [Bool.and_eq_true, decide_eq_true_eq]; omega)]) hx h hs
theorem item_lst {value slice : PySem.Expr} {c : Addr} {vs : List Value} {n : Nat} {k : Int} {u : Tok} {v : Value} {Q : Value → Shared → Prop} (N : News h₀ L s.heap news) (hm : (c, W.listOf vs.toArray n) ∈ news) (h0 : 0 ≤ k) (hk : k < 2 ^ 62) (hx : vs[k.toNat]? = some v) (h : Q v s)
    (hs : subscripted slice false (.ref c) (.int k u) = operate [.ref c, .int k u] (getItem (.ref c) (.int k u)) := by with_unfolding_all rfl) :
    wpAny (model prog w) A (subscriptTail value slice (.ref c) (.int k u)) Q E s :=
  tail_any (N.isList hm).typeIs slot_list_getitem.lookup (wpAny_getItem_list (N.isList hm) h0 (by omega) (by simpa using hx) h) hs
end
theorem ilt9 {α : Type} {i : Nat} {xs : List α} (h : i < 9) (hl : xs.length = 9) : (i : Int) < xs.length := by rw [hl]; exact Int.ofNat_lt.mpr h
theorem n62e {n : Nat} (h : n = 9) : n < 2 ^ 62 := by rw [h]; decide
theorem le10 {n : Nat} (h : n ≤ 900) : n ≤ 10000 := Nat.le_trans h (by decide)
theorem le16 {n : Nat} (h : n ≤ 900) : n ≤ 16777216 := Nat.le_trans h (by decide)
theorem n62 {n : Nat} (h : n ≤ 900) : n < 2 ^ 62 := Nat.lt_of_le_of_lt h (by decide)
theorem i62 {n : Nat} (h : n ≤ 900) : (n : Int) < 2 ^ 62 := Int.lt_of_le_of_lt (Int.ofNat_le.mpr h) (by decide)
section
variable {prog : Program} {w : World} {A : Around} {E : Value → Shared → Prop} {s : Shared} {h₀ : Heap} {L : Addr} {news : List (Addr × Obj)}
/-- An item of a list, at an index that is a natural number. -/
theorem item_lstN {value slice : PySem.Expr} {c : Addr} {vs : List Value} {n : Nat} {k : Nat} {u : Tok} {v : Value} {Q : Value → Shared → Prop} (N : News h₀ L s.heap news) (hm : (c, W.listOf vs.toArray n) ∈ news) (hk : k ≤ 900) (hx : vs[k]? = some v) (h : Q v s)
    (hs : subscripted slice false (.ref c) (.int (k : Int) u) = operate [.ref c, .int (k : Int) u] (getItem (.ref c) (.int (k : Int) u)) := by with_unfolding_all rfl) :
    wpAny (model prog w) A (subscriptTail value slice (.ref c) (.int (k : Int) u)) Q E s :=
  item_lst N hm (Int.natCast_nonneg _) (i62 hk) hx h hs
end
theorem mem_head {α : Type} {a : α} {l : List α} : a ∈ a :: l := List.Mem.head _
theorem off_p05 : True := by
  w_top off
  trivial
section
variable {σ : Type}
/-- Between two turns: the ledger and the names are those of a state c that P says well; no object of the ledger is the loop's own. -/
def JL (I : Addr) (Led : σ → List (Addr × Obj)) (ps : σ → List (Str × Value)) (P : Nat → σ → Prop) (x : Str) (m₀ : Str → Option Value) (i : Nat) (m : Str → Option Value) (news : List (Addr × Obj)) : Prop :=
  ∃ c, news = Led c ∧ P i c ∧ (∀ p ∈ Led c, p.1 ≠ I) ∧ ∀ z, z ≠ x → m z = kstB m₀ (ps c) z
theorem jl_fr {h₀ : Heap} {L : Addr} {h : Heap} {x : Str} {v : Value} {m m' : Str → Option Value} (F : Fr h₀ L h (fun y => if y = x then some v else m y)) (e : ∀ z, z ≠ x → m z = m' z) : Fr h₀ L h (fun y => if y = x then some v else m' y) := by
  have q : (fun y => if y = x then some v else m y) = fun y => if y = x then some v else m' y := by
    funext y
    by_cases h1 : y = x
    · simp [h1]
    · simp only [if_neg h1]; exact e y h1
  rw [← q]; exact F
theorem jl_out {h₀ : Heap} {L : Addr} {h : Heap} {x : Str} {m m' : Str → Option Value} (F : Fr h₀ L h m) (e : ∀ z, z ≠ x → m z = m' z) : Fr h₀ L h (fun y => if y = x then m x else m' y) := by
  have q : m = fun y => if y = x then m x else m' y := by
    funext y
    by_cases h1 : y = x
    · simp [h1]
    · simp only [if_neg h1]; exact e y h1
  rw [← q]; exact F
theorem jl_start {x : Str} {m₀ : Str → Option Value} {ps : List (Str × Value)} (h : ∀ p ∈ ps, m₀ p.1 = some p.2) : ∀ z, z ≠ x → m₀ z = kstB m₀ ps z :=
  fun z _ => (kstB_eq h fun _ => rfl).symm
theorem jl_end {I : Addr} {it : Obj} {Led : σ → List (Addr × Obj)} {ps : σ → List (Str × Value)} {P : Nat → σ → Prop} {x : Str} {m₀ m' : Str → Option Value} {i : Nat} {h₀ h' : Heap} {L : Addr} {all : List (Addr × Obj)} {s₁ : Shared} {tk : Nat}
    (F : Fr h₀ L h' m') (N : News h₀ L h' all) (c : σ) (sub : ∀ p ∈ (I, it) :: Led c, p ∈ all) (off : ∀ p ∈ Led c, p.1 ≠ I) (hp : P i c) (hm : ∀ z, z ≠ x → m' z = kstB m₀ (ps c) z) :
    UnrEnd h₀ L s₁ I it (JL I Led ps P x m₀ i) { s₁ with heap := h', toks := tk } :=
  ⟨h', tk, m', Led c, rfl, F, fun p hp => N p (sub p hp), off, c, rfl, hp, off, hm⟩
theorem jl_fin {I : Addr} {it : Obj} {Led : σ → List (Addr × Obj)} {ps : σ → List (Str × Value)} {P : Nat → σ → Prop} {x : Str} {m₀ m' : Str → Option Value} {i : Nat} {h₀ h' : Heap} {L : Addr} {all : List (Addr × Obj)} {s₁ : Shared} {tk : Nat}
    (F : Fr h₀ L h' m') (N : News h₀ L h' all) (c : σ) (h1 : ∀ p ∈ ps c, m' p.1 = some p.2) (sub : ∀ p ∈ (I, it) :: Led c, p ∈ all) (off : ∀ p ∈ Led c, p.1 ≠ I) (hp : P i c) (h2 : ∀ z, z ≠ x → (∀ p ∈ ps c, z ≠ p.1) → m' z = m₀ z) :
    UnrEnd h₀ L s₁ I it (JL I Led ps P x m₀ i) { s₁ with heap := h', toks := tk } :=
  jl_end F N c sub off hp fun z hz => (kstB_eq h1 fun hn => (h2 z hz hn).symm).symm
theorem all1 {α : Type} {P : α → Prop} {a : α} (h : P a) : ∀ p ∈ [a], P p := List.forall_mem_cons.mpr ⟨h, List.forall_mem_nil _⟩
theorem all2 {α : Type} {P : α → Prop} {a b : α} (h : P a) (h' : P b) : ∀ p ∈ [a, b], P p := List.forall_mem_cons.mpr ⟨h, all1 h'⟩
theorem all3 {α : Type} {P : α → Prop} {a b c : α} (h : P a) (h' : P b) (h'' : P c) : ∀ p ∈ [a, b, c], P p := List.forall_mem_cons.mpr ⟨h, all2 h' h''⟩
theorem all4 {α : Type} {P : α → Prop} {a b c d : α} (h : P a) (h' : P b) (h'' : P c) (h3 : P d) : ∀ p ∈ [a, b, c, d], P p := List.forall_mem_cons.mpr ⟨h, all3 h' h'' h3⟩
end
section
variable {prog : Program} {w : World} {A : Around} {E : Value → Shared → Prop} {s : Shared} {env : Env} {h₀ : Heap} {x : Str} {body : List Stmt} {Q : Flow → Shared → Prop} {σ : Type}
theorem range_inv (Led : σ → List (Addr × Obj)) (ps : σ → List (Str × Value)) (P : Nat → σ → Prop) (c₀ : σ) {r : Addr} {a₀ b₀ : Int} {t₀ u₀ v₀ : Tok} (n : Nat) {m₀ : Str → Option Value}
    (hh : A.handled = none) (hr : IsRange s.heap r a₀ b₀ 1 t₀ u₀ v₀) (hlo : 0 ≤ a₀) (hhi : b₀ < 2 ^ 30) (hblo : 0 ≤ b₀) (hlo2 : a₀ < 2 ^ 30) (hn : (n : Int) = max 0 (b₀ - a₀)) (F : Fr h₀ env.locals s.heap m₀) (N : News h₀ env.locals s.heap (Led c₀))
    (hk : ∀ p ∈ ps c₀, m₀ p.1 = some p.2) (hp : P 0 c₀)
    (turn : ∀ I i c t h tk, i < n → P i c → (∀ p ∈ Led c₀, p.1 < I) → (∀ p ∈ Led c, p.1 ≠ I) → Fr h₀ env.locals h (fun y => if y = x then some (.int (a₀ + (i : Int)) t) else kstB m₀ (ps c) y) → News h₀ env.locals h ((I, itR (a₀ + ((i + 1 : Nat) : Int)) ((n : Int) - ((i + 1 : Nat) : Int))) :: Led c) →
      wpAny (model prog w) A (execs body env) (UnrPost h₀ env.locals { s with heap := h, toks := tk } I (itR (a₀ + ((i + 1 : Nat) : Int)) ((n : Int) - ((i + 1 : Nat) : Int))) (JL I Led ps P x m₀ (i + 1)) Q) E { s with heap := h, toks := tk })
    (done : ∀ c u h tk, P n c → Fr h₀ env.locals h (fun y => if y = x then u else kstB m₀ (ps c) y) → News h₀ env.locals h (Led c) → Q .next { s with heap := h, toks := tk }) :
    wpAny (model prog w) A (pyIter (.ref r)) (fun it s₂ => LoopAtV prog w A h₀ env x body Q E it s₂) E s := by
  refine iter_rangeUnr (n := n) hh hr ?_ ?_ F N fun I hI => ?_
  · exact small_one (by omega) (by omega) (by omega) (by omega)
  · unfold Builtin.Range.rangeSize; simp; omega
  · refine rangeRest_inv (JL I Led ps P x m₀) ?_ ?_ n 0 _ _ (by omega) ⟨c₀, rfl, hp, fun p hp => Nat.ne_of_lt (hI p hp), jl_start hk⟩
    · rintro i m news t h tk hi ⟨c, rfl, hp, off, hm⟩ F' N'
      exact turn I i c t h tk hi hp hI off (jl_fr F' hm) N'
    · rintro m news h tk ⟨c, rfl, hp, off, hm⟩ F' N'
      exact done c _ h tk hp (jl_out F' hm) N'
theorem list_inv (Led : σ → List (Addr × Obj)) (ps : σ → List (Str × Value)) (P : Nat → σ → Prop) (c₀ : σ) {ax : Addr} {vs : List Value} {k : Nat} {m₀ : Str → Option Value}
    (hh : A.handled = none) (hl : ∀ c, (ax, W.listOf vs.toArray k) ∈ Led c) (F : Fr h₀ env.locals s.heap m₀) (N : News h₀ env.locals s.heap (Led c₀))
    (hk : ∀ p ∈ ps c₀, m₀ p.1 = some p.2) (hp : P 0 c₀)
    (turn : ∀ I i c v (it : Obj) h tk, vs[i]? = some v → P i c → (∀ p ∈ Led c₀, p.1 < I) → (∀ p ∈ Led c, p.1 ≠ I) → Fr h₀ env.locals h (fun y => if y = x then some v else kstB m₀ (ps c) y) → News h₀ env.locals h ((I, it) :: Led c) →
      wpAny (model prog w) A (execs body env) (UnrPost h₀ env.locals { s with heap := h, toks := tk } I it (JL I Led ps P x m₀ (i + 1)) Q) E { s with heap := h, toks := tk })
    (done : ∀ c u h tk, P vs.length c → Fr h₀ env.locals h (fun y => if y = x then u else kstB m₀ (ps c) y) → News h₀ env.locals h (Led c) → Q .next { s with heap := h, toks := tk }) :
    wpAny (model prog w) A (pyIter (.ref ax)) (fun it s₂ => LoopAtV prog w A h₀ env x body Q E it s₂) E s := by
  refine iter_listUnr hh F N (hl c₀) rfl rfl fun I hI => ?_
  refine listRest_inv (JL I Led ps P x m₀) ?_ ?_ vs 0 _ _ (List.drop_zero) (Nat.zero_le _) ⟨c₀, rfl, hp, fun p hp => Nat.ne_of_lt (hI p hp), jl_start hk⟩
  · rintro i v m news it h tk hv ⟨c, rfl, hp, off, hm⟩ _ F' N'
    refine wpAny_mono (turn I i c v it h tk hv hp hI off (jl_fr F' hm) N') (fun f s₂ p => unrPost_mono p fun m' n' r => ?_) fun _ _ e => e
    refine ⟨?_, r⟩
    obtain ⟨c', rfl, _⟩ := r
    exact hl c'
  · rintro m news h tk ⟨c, rfl, hp, off, hm⟩ F' N'
    exact done c _ h tk hp (jl_out F' hm) N'
theorem str_inv (Led : σ → List (Addr × Obj)) (ps : σ → List (Str × Value)) (P : Nat → σ → Prop) (c₀ : σ) {tx : Str} {t : Tok} {m₀ : Str → Option Value}
    (hh : A.handled = none) (F : Fr h₀ env.locals s.heap m₀) (N : News h₀ env.locals s.heap (Led c₀))
    (hk : ∀ p ∈ ps c₀, m₀ p.1 = some p.2) (hp : P 0 c₀)
    (turn : ∀ I i c (ch : Nat) (u : Tok) (it : Obj) h tk, tx.cps.toList[i]? = some ch → P i c → (∀ p ∈ Led c₀, p.1 < I) → (∀ p ∈ Led c, p.1 ≠ I) → Fr h₀ env.locals h (fun y => if y = x then some (.str ⟨#[ch]⟩ u) else kstB m₀ (ps c) y) → News h₀ env.locals h ((I, it) :: Led c) →
      wpAny (model prog w) A (execs body env) (UnrPost h₀ env.locals { s with heap := h, toks := tk } I it (JL I Led ps P x m₀ (i + 1)) Q) E { s with heap := h, toks := tk })
    (done : ∀ c u h tk, P tx.cps.toList.length c → Fr h₀ env.locals h (fun y => if y = x then u else kstB m₀ (ps c) y) → News h₀ env.locals h (Led c) → Q .next { s with heap := h, toks := tk }) :
    wpAny (model prog w) A (pyIter (.str tx t)) (fun it s₂ => LoopAtV prog w A h₀ env x body Q E it s₂) E s := by
  refine iter_strUnr hh F N rfl fun I hI => ?_
  refine strRest_inv (JL I Led ps P x m₀) ?_ ?_ _ 0 _ _ (List.drop_zero) (Nat.zero_le _) ⟨c₀, rfl, hp, fun p hp => Nat.ne_of_lt (hI p hp), jl_start hk⟩
  · rintro i ch m news u it h tk hv ⟨c, rfl, hp, off, hm⟩ F' N'
    rw [List.getElem?_map] at hv
    obtain ⟨ch', hc, rfl⟩ := Option.map_eq_some_iff.mp hv
    exact turn I i c ch' u it h tk hc hp hI off (jl_fr F' hm) N'
  · rintro m news h tk ⟨c, rfl, hp, off, hm⟩ F' N'
    rw [List.length_map] at hp
    exact done c _ h tk hp (jl_out F' hm) N'
end
section
variable {prog : Program} {w : World} {A : Around} {E : Value → Shared → Prop} {s : Shared} {env : Env} {h₀ : Heap} {x : Str} {body : List Stmt} {Q : Flow → Shared → Prop} {σ : Type}
/-- A turn that goes on, or leaves by break with a state that Fin says well. -/
def BrkPost (h₀ : Heap) (L : Addr) (s₁ : Shared) (I : Addr) (it : Obj) (Led : σ → List (Addr × Obj)) (ps : σ → List (Str × Value)) (P : Nat → σ → Prop) (Fin : σ → Prop) (x : Str) (m₀ : Str → Option Value) (i : Nat) (Q : Flow → Shared → Prop) (f : Flow) (s₂ : Shared) : Prop :=
  match f with
  | .ret v => Q (.ret v) s₂
  | .brk => ∃ c h tk m', s₂ = { s₁ with heap := h, toks := tk } ∧ Fin c ∧ Fr h₀ L h m' ∧ News h₀ L h (Led c) ∧ ∀ z, z ≠ x → m' z = kstB m₀ (ps c) z
  | _ => UnrEnd h₀ L s₁ I it (JL I Led ps P x m₀ i) s₂
theorem brk_fin {I : Addr} {it : Obj} {Led : σ → List (Addr × Obj)} {ps : σ → List (Str × Value)} {P : Nat → σ → Prop} {Fin : σ → Prop} {m₀ m' : Str → Option Value} {i : Nat} {h' : Heap} {L : Addr} {all : List (Addr × Obj)} {s₁ : Shared} {tk : Nat}
    (F : Fr h₀ L h' m') (N : News h₀ L h' all) (c : σ) (h1 : ∀ p ∈ ps c, m' p.1 = some p.2) (sub : ∀ p ∈ Led c, p ∈ all) (hp : Fin c) (h2 : ∀ z, z ≠ x → (∀ p ∈ ps c, z ≠ p.1) → m' z = m₀ z) :
    BrkPost h₀ L s₁ I it Led ps P Fin x m₀ i Q .brk { s₁ with heap := h', toks := tk } :=
  ⟨c, h', tk, m', rfl, hp, F, fun p hp => N p (sub p hp), fun z hz => (kstB_eq h1 fun hn => (h2 z hz hn).symm).symm⟩
theorem str_invB (Led : σ → List (Addr × Obj)) (ps : σ → List (Str × Value)) (P : Nat → σ → Prop) (Fin : σ → Prop) (c₀ : σ) {tx : Str} {t : Tok} {m₀ : Str → Option Value}
    (hh : A.handled = none) (F : Fr h₀ env.locals s.heap m₀) (N : News h₀ env.locals s.heap (Led c₀))
    (hk : ∀ p ∈ ps c₀, m₀ p.1 = some p.2) (hp : P 0 c₀) (hfin : ∀ c, P tx.cps.toList.length c → Fin c)
    (turn : ∀ I i c (ch : Nat) (u : Tok) (it : Obj) h tk, tx.cps.toList[i]? = some ch → P i c → (∀ p ∈ Led c₀, p.1 < I) → (∀ p ∈ Led c, p.1 ≠ I) → Fr h₀ env.locals h (fun y => if y = x then some (.str ⟨#[ch]⟩ u) else kstB m₀ (ps c) y) → News h₀ env.locals h ((I, it) :: Led c) →
      wpAny (model prog w) A (execs body env) (BrkPost h₀ env.locals { s with heap := h, toks := tk } I it Led ps P Fin x m₀ (i + 1) Q) E { s with heap := h, toks := tk })
    (done : ∀ c u h tk, Fin c → Fr h₀ env.locals h (fun y => if y = x then u else kstB m₀ (ps c) y) → News h₀ env.locals h (Led c) → Q .next { s with heap := h, toks := tk }) :
    wpAny (model prog w) A (pyIter (.str tx t)) (fun it s₂ => LoopAtV prog w A h₀ env x body Q E it s₂) E s := by
  refine str_inv Led ps P c₀ hh F N hk hp (fun I i c ch u it h tk hc hp' hI off F' N' => wpAny_mono (turn I i c ch u it h tk hc hp' hI off F' N') (fun f s₂ p => ?_) fun _ _ e => e) fun c u h tk hp' F' N' => done c u h tk (hfin c hp') F' N'
  cases f with
  | ret v => exact p
  | brk =>
    obtain ⟨c', h', tk', m', rfl, hf, F', N', hm⟩ := p
    exact done c' _ h' tk' hf (jl_out F' hm) N'
  | next => exact p
  | cont => exact p
end
theorem off_p06 : True := by
  w_top off
  trivial
section
variable {prog : Program} {w : World} {A : Around} {E : Value → Shared → Prop} {s : Shared} {env : Env} {h₀ : Heap} {target : PySem.Expr} {body : List Stmt} {Q : Flow → Shared → Prop}
theorem unrW {L : Addr} {s₁ : Shared} {I : Addr} {it : Obj} {rest rest' : (Str → Option Value) → List (Addr × Obj) → Prop} {f : Flow} {s₂ : Shared} (h : UnrPost h₀ L s₁ I it rest Q f s₂) (hr : ∀ m n, rest m n → rest' m n) : UnrPostW h₀ L s₁ [(I, it)] rest' Q f s₂ := by
  have fin : UnrEnd h₀ L s₁ I it rest s₂ → UnrEndW h₀ L s₁ [(I, it)] rest' s₂ := by
    rintro ⟨h', tk, m', news', e, F', N', off, r⟩
    exact ⟨h', tk, m', news', e, F', N', fun p hp q hq => by rw [List.mem_singleton.mp hq]; exact off p hp, hr _ _ r⟩
  cases f with
  | ret v => exact h
  | brk => exact h
  | next => exact fin h
  | cont => exact fin h
theorem items_inv {I : Addr} {T : String} {keep : List (Addr × Obj)} {vs : List Value} (J : Nat → (Str → Option Value) → List (Addr × Obj) → Prop)
    (turn : ∀ i v m news (it : Obj) h tk, vs[i]? = some v → J i m news → it.cls = .type T → Fr h₀ env.locals h m → News h₀ env.locals h ((I, it) :: news) →
      wpAny (model prog w) A (assign target env v) (fun _ s₂ => wpAny (model prog w) A (execs body env) (UnrPost h₀ env.locals { s with heap := h, toks := tk } I it (fun m' n' => SubL keep n' ∧ J (i + 1) m' n') Q) E s₂) E { s with heap := h, toks := tk })
    (done : ∀ m news h tk, J vs.length m news → Fr h₀ env.locals h m → News h₀ env.locals h news → Q .next { s with heap := h, toks := tk }) :
    ∀ (r : List Value) i m news, vs.drop i = r → i ≤ vs.length → J i m news → ItemsRest prog w A E h₀ env target body Q s [(I, T)] keep (r.map .val) m news
  | [], i, m, news, e, hi, hj => by
    have e' : i = vs.length := by have := List.drop_eq_nil_iff.mp e; omega
    subst e'
    exact ItemsRest.zero fun h tk F N => done m news h tk hj F N
  | v :: r, i, m, news, e, hi, hj => ItemsRest.val fun h tk F it hc N => by
    have hlt : i < vs.length := by
      rcases Nat.lt_or_ge i vs.length with h1 | h1
      · exact h1
      · rw [List.drop_eq_nil_iff.mpr h1] at e; cases e
    have e2 := List.drop_eq_getElem_cons hlt
    rw [e] at e2
    have ev : vs[i]? = some v := by rw [List.getElem?_eq_getElem hlt]; exact congrArg some (List.cons.inj e2).1.symm
    exact wpAny_mono (turn i v m news it h tk ev hj hc F N) (fun _ s₂ p => wpAny_mono p (fun f s₃ p' => unrW p' fun m' n' r' => ⟨r'.1, items_inv J turn done r (i + 1) m' n' (List.cons.inj e2).2.symm hlt r'.2⟩) fun _ _ e => e) fun _ _ e => e
theorem jl_out' {L : Addr} {h : Heap} {x : Str} {m m' : Str → Option Value} (F : Fr h₀ L h m) (e : ∀ z, z ≠ x → m z = m' z) : ∃ u, Fr h₀ L h (fun y => if y = x then u else m' y) := ⟨_, jl_out F e⟩
theorem tup_inv {σ : Type} {x : Str} {px : Pos} (Led : σ → List (Addr × Obj)) (ps : σ → List (Str × Value)) (P : Nat → σ → Prop) (c₀ : σ) {ax : Addr} {vs : List Value} {m₀ : Str → Option Value}
    (hh : A.handled = none) (hl : ∀ c, (ax, tupO vs.toArray) ∈ Led c) (F : Fr h₀ env.locals s.heap m₀) (N : News h₀ env.locals s.heap (Led c₀))
    (hk : ∀ p ∈ ps c₀, m₀ p.1 = some p.2) (hp : P 0 c₀)
    (turn : ∀ I i c u v (it : Obj) h tk, vs[i]? = some v → P i c → (∀ p ∈ Led c₀, p.1 < I) → (∀ p ∈ Led c, p.1 ≠ I) → Fr h₀ env.locals h (fun y => if y = x then u else kstB m₀ (ps c) y) → News h₀ env.locals h ((I, it) :: Led c) →
      wpAny (model prog w) A (assign (.Name x px) env v) (fun _ s₂ => wpAny (model prog w) A (execs body env) (UnrPost h₀ env.locals { s with heap := h, toks := tk } I it (JL I Led ps P x m₀ (i + 1)) Q) E s₂) E { s with heap := h, toks := tk })
    (done : ∀ c u h tk, P vs.length c → Fr h₀ env.locals h (fun y => if y = x then u else kstB m₀ (ps c) y) → News h₀ env.locals h (Led c) → Q .next { s with heap := h, toks := tk }) :
    wpAny (model prog w) A (pyIter (.ref ax)) (fun it s₂ => TurnsAt prog w A h₀ env (.Name x px) body Q E it s₂) E s := by
  refine iter_tupTurns hh F N (hl c₀) rfl rfl fun I hI => ?_
  refine items_inv (JL I Led ps P x m₀) ?_ ?_ vs 0 _ _ (List.drop_zero) (Nat.zero_le _) ⟨c₀, rfl, hp, fun p hp => Nat.ne_of_lt (hI p hp), jl_start hk⟩
  · rintro i v m news it h tk hv ⟨c, rfl, hp, off, hm⟩ _ F' N'
    obtain ⟨u, F''⟩ := jl_out' F' hm
    refine wpAny_mono (turn I i c u v it h tk hv hp hI off F'' N') (fun _ s₂ p => wpAny_mono p (fun f s₃ p' => unrPost_mono p' fun m' n' r => ?_) fun _ _ e => e) fun _ _ e => e
    refine ⟨?_, r⟩
    obtain ⟨c', rfl, _⟩ := r
    exact ⟨hl c', trivial⟩
  · rintro m news h tk ⟨c, rfl, hp, off, hm⟩ F' N'
    exact done c _ h tk hp (jl_out F' hm) N'
end
theorem off_p10 : True := by
  w_top off
  trivial
-- MACRO BEGIN
local macro_rules | `(tactic| k_mem) => `(tactic| ((fail_if_success apply List.mem_singleton_self); first | with_reducible assumption | (repeat apply List.mem_cons_of_mem); assumption))
local macro_rules
  | `(tactic| walk_at "zh") => `(tactic| refine Mine.Hold.of ?_)
  | `(tactic| walk_at "zo") => `(tactic| first | apply Mine.n62e; assumption | apply Mine.n62; assumption | apply Mine.le10; assumption | omega | have h9 := IntsAre.length (by assumption); omega)
  | `(tactic| walk_at "z3") => `(tactic| (k_asm; k_mem; walk_at "zo"; k_whole))
  | `(tactic| walk_at "z5") => `(tactic| ((iterate 5 k_asm); first | exact rfl | assumption))
  | `(tactic| walk_at "z6") => `(tactic| (with_unfolding_all rfl; k_asm; k_mem; assumption; (first | apply Int.natCast_nonneg | omega); (first | (apply Mine.ilt9 <;> assumption) | omega); walk_at "zo"; k_whole))
  | `(tactic| walk_at "zd") => `(tactic| ((first | with_reducible assumption | ktr_room); (first | with_reducible assumption | ktr_units); k_whole))
  | `(tactic| walk_at "zf") => `(tactic| ((fail_if_success (have q9 : Mine.Go := by assumption)); refine Mine.Hold.of ?_))
  | `(tactic| walk_at "zt") => `(tactic| ((try dsimp only); (try k_fold)))
  | `(tactic| walk_at "zz") => `(tactic| first | with_reducible (first | assumption | apply Nat.lt_succ_self | (apply Nat.le_of_lt; assumption) | (apply Nat.le_of_lt_succ; assumption) | (apply Nat.lt_of_succ_lt; assumption) | (apply Nat.lt_succ_of_lt; assumption) | (apply Nat.lt_succ_of_le; assumption) | (apply Nat.lt_of_lt_of_le <;> assumption) | (apply Nat.lt_of_le_of_lt <;> assumption) | (apply Nat.lt_trans <;> assumption) | (apply Nat.le_trans <;> assumption) | (apply Int.lt_trans <;> assumption) | (apply Int.le_of_lt; assumption) | (apply Nat.lt_of_lt_of_eq <;> assumption) | (apply Nat.lt_of_lt_of_eq; assumption; symm; assumption) | (symm; assumption) | exact Nat.sub_lt (by assumption) Nat.one_pos) | omega)
  | `(tactic| walk_at "zg") => `(tactic| (generalize Shared.toks (Shared.mk _ _ _ _ _) = t9; (fail_if_success clear t9); revert t9; refine Mine.blk ?_; intro t9))
local macro_rules
  | `(tactic| walk_at "storeName") => `(tactic| walk_at "zg")
  | `(tactic| walk_at "newList") => `(tactic| walk_at "zg")
  | `(tactic| walk_at "setAttr ref") => `(tactic| walk_at "zg")
  | `(tactic| walk_at "newTuple") => `(tactic| walk_at "zg")
  | `(tactic| walk_at "callWith ref") => `(tactic| walk_at "zg")
  | `(tactic| walk_at "setItem ref int") => `(tactic| walk_at "zg")
set_option hygiene false in
local macro_rules | `(tactic| walk_at "execs cons") => `(tactic| (refine Mine.stk (g := sg) (d := sd) (o := so) fun t9 => wpAny_execs_cons ?_; try dsimp only))
local macro_rules | `(tactic| walk_at "call builtin:len") => `(tactic| (k_here; k_dflt (apply Mine.len_tup; walk_at "z3"); intro t9 tk9))
local macro_rules | `(tactic| walk_at "pyIter ref") => `(tactic| with_reducible refine Mine.Hold.ofL ?_)
-- MACRO END
theorem item_tupI {prog : Program} {w : World} {A : Around} {E : Value → Shared → Prop} {s : Shared} {h₀ : Heap} {L : Addr} {news : List (Addr × Obj)} {value slice : PySem.Expr} {c : Addr} {vs : List Value} {ns : List Int} {k : Int} {u : Tok} {Q : Value → Shared → Prop} (hs : subscripted slice false (.ref c) (.int k u) = operate [.ref c, .int k u] (getItem (.ref c) (.int k u))) (N : News h₀ L s.heap news) (hm : (c, tupO vs.toArray) ∈ news) (hi : IntsAre vs ns) (h0 : 0 ≤ k) (hk : k < ns.length) (hz : ns.length < 2 ^ 62) (h : ∀ t, Q (.int (ns.getD k.toNat 0) t) s) :
    wpAny (model prog w) A (subscriptTail value slice (.ref c) (.int k u)) Q E s := by
  have hl : k.toNat < ns.length := by omega
  obtain ⟨t, e⟩ := hi.get k.toNat ns[k.toNat] (by simp [hl])
  have e2 : ns.getD k.toNat 0 = ns[k.toNat] := by simp [List.getD, hl]
  exact item_tup N hm h0 (by omega) e (e2 ▸ h t) hs
theorem item_lstI {prog : Program} {w : World} {A : Around} {E : Value → Shared → Prop} {s : Shared} {h₀ : Heap} {L : Addr} {news : List (Addr × Obj)} {value slice : PySem.Expr} {c : Addr} {vs : List Value} {n : Nat} {ns : List Int} {k : Int} {u : Tok} {Q : Value → Shared → Prop} (hs : subscripted slice false (.ref c) (.int k u) = operate [.ref c, .int k u] (getItem (.ref c) (.int k u))) (N : News h₀ L s.heap news) (hm : (c, W.listOf vs.toArray n) ∈ news) (hi : IntsAre vs ns) (h0 : 0 ≤ k) (hk : k < ns.length) (hz : ns.length < 2 ^ 62) (h : ∀ t, Q (.int (ns.getD k.toNat 0) t) s) :
    wpAny (model prog w) A (subscriptTail value slice (.ref c) (.int k u)) Q E s := by
  have hl : k.toNat < ns.length := by omega
  obtain ⟨t, e⟩ := hi.get k.toNat ns[k.toNat] (by simp [hl])
  have e2 : ns.getD k.toNat 0 = ns[k.toNat] := by simp [List.getD, hl]
  exact item_lst N hm h0 (by omega) e (e2 ▸ h t) hs
-- MACRO BEGIN
local macro_rules | `(tactic| walk_at "subscriptTail Name Name ref int") => `(tactic| (k_dflt (apply Mine.item_tupI; walk_at "z6"); intro t9))
-- MACRO END
/-- An object of class Whitespace that stands in the ledger: its counts, its trailing blanks, its length, its tabs. -/
inductive WsAt (w : World) (news : List (Addr × Obj)) (x : Addr) (ns : List Int) (b n nt : Int) : Prop
  | mk {d p c : Addr} {t1 t2 t3 t4 t5 tn tt tb : Tok} {raw : Value} {vs : List Value} {sb : Bool} (h1 : (x, instObj 203 d) ∈ news)
    (h2 : (d, dictOf [⟨PyData.keyHash w.params "raw", .str "raw" t1, raw⟩, ⟨PyData.keyHash w.params "n", .str "n" t2, .int n tn⟩, ⟨PyData.keyHash w.params "nt", .str "nt" t3, .int nt tt⟩, ⟨PyData.keyHash w.params "norm", .str "norm" t4, .ref p⟩, ⟨PyData.keyHash w.params "is_simple", .str "is_simple" t5, .bool sb⟩] 5) ∈ news)
    (h3 : (p, tupO #[.ref c, .int b tb]) ∈ news) (h4 : (c, tupO vs.toArray) ∈ news) (h5 : IntsAre vs ns) (h6 : sb = decide (ns.length ≤ 1)) : WsAt w news x ns b n nt
theorem WsAt.mono {w : World} {news news' : List (Addr × Obj)} {x : Addr} {ns : List Int} {b n nt : Int} (h : WsAt w news x ns b n nt) (hs : ∀ p ∈ news, p ∈ news') : WsAt w news' x ns b n nt := by
  obtain ⟨h1, h2, h3, h4, h5, h6⟩ := h
  exact .mk (hs _ h1) (hs _ h2) (hs _ h3) (hs _ h4) h5 h6
-- MACRO BEGIN
set_option hygiene false in
local macro_rules
  | `(tactic| walk_at "zw") => `(tactic| first | assumption | (refine Mine.WsAt.mono (by assumption) ?_; intro p9 h9; (repeat (refine' List.mem_cons_of_mem _ ?_)); assumption))
  | `(tactic| walk_at "zC") => `(tactic| first | walk_at "zw" | omega)
  | `(tactic| walk_at "zE") => `(tactic| (k_here; k_dflt (apply Mine.Ctr.useF; walk_at "z5"; (apply C9 <;> walk_at "zC"); walk_at "zd"); clear C9; intro h9 tk9 F9 N9 t9; walk_at "zt"))
-- MACRO END
def ilS (ns : List Int) (ts : Nat) : Nat → Int
  | 0 => 0
  | k + 1 => ilS ns ts k + Int.fdiv ((ts : Int) + k) ts * ns.getD (ts + k) 0
def lvl (ns : List Int) (b nt : Int) (ts : Nat) : Int := b + ts * (ilS ns ts (ns.length - ts) + nt)
theorem fdiv_bd {a b : Int} (ha : 0 ≤ a) (hb : 1 ≤ b) : 0 ≤ a.fdiv b ∧ a.fdiv b ≤ a := by
  rw [Int.fdiv_eq_ediv_of_nonneg a (by omega)]
  exact ⟨Int.ediv_nonneg ha (by omega), Int.ediv_le_self b ha⟩
theorem indent_c (w : World) (news : List (Addr × Obj)) (x : Addr) (ns : List Int) (b n nt : Int) (ts : Nat) (tk : Tok) (hw : WsAt w news x ns b n nt) (hl : ns.length ≤ 1000) (h1 : 1 ≤ ts) (h2 : ts ≤ 1000) :
    Ctr w 172 news [.ref x, .int ts tk] 2 (fun v tl => tl = [] ∧ ∃ t, v = .int (lvl ns b nt ts) t) := by
  obtain ⟨hm1, hm2, hm3, hm4, hi, hsb⟩ := hw
  subst hsb
  unfold Ctr
  k_fill
  rintro mean mg mb dp un gd cn cs a ccd cl outer A₀ base h₀ L m ⟨sh, sg, sd, sk, so⟩ Q E B F X N T hk hdp hun hret
  dsimp only at F N hret
  have hlen := hi.length
  refine wpAny_call ?_
  k_dflt ktr_enter
  rename Fr _ _ _ _ => FE
  obtain ⟨mE, FE1⟩ := fr_ent2 (Str.ofString "self") (Str.ofString "tabsize") (v := .ref x) (u := .int ts tk) FE rfl rfl
  clear FE
  refine letAE ?_
  intro e9 A9
  k_steps
  rename IsRange _ _ _ _ _ _ _ _ => hR
  rename Fr _ _ _ _ => F1
  rename News _ _ _ _ => N1
  refine Hold.mk (range_inv (σ := Int × Tok) (fun _ => news) (fun c => [("il", .int c.1 c.2)]) (fun i c => c.1 = ilS ns ts i) (0, _) (ns.length - ts) rfl hR (by omega) (by omega) (by omega) (by omega) (by omega) F1 N1 (List.forall_mem_cons.mpr ⟨rfl, List.forall_mem_nil _⟩) rfl ?_ ?_)
  · intro I i c t h tk hi' hp hI off F' N'
    have hq := fdiv_bd (a := (ts : Int) + i) (b := ts) (by omega) (by omega)
    k_steps
    refine jl_fin (by assumption) (by assumption) (_, _) (all1 rfl) (fun _ h => h) off ?_ ?_
    · show _ = ilS ns ts (i + 1)
      rw [hp, ilS]
      rw [show ((ts : Int) + i).toNat = ts + i by omega]
    · intro z hz hn
      have h9 := hn _ (List.mem_cons_self ..)
      simp only [kstB, if_neg hz, if_neg h9]
  · intro c u h tk hp F' N'
    k_steps
    refine hret _ [] _ _ (by assumption) (by assumption) (fun _ _ _ h9 => nomatch h9) ⟨rfl, _, congrArg (fun z => Value.int (b + ↑ts * (z + nt)) _) hp⟩
theorem off_p12 : True := by
  w_top off
  trivial
theorem indent_i (w : World) (news : List (Addr × Obj)) (x : Addr) (ns : List Int) (b n nt : Int) (ts : Int) (tk : Tok) (hw : WsAt w news x ns b n nt) (hl : ns.length ≤ 1000) (h1 : 1 ≤ ts) (h2 : ts ≤ 1000) :
    Ctr w 172 news [.ref x, .int ts tk] 2 (fun v tl => tl = [] ∧ ∃ t, v = .int (lvl ns b nt ts.toNat) t) := by
  have e : ((ts.toNat : Nat) : Int) = ts := by omega
  have := indent_c w news x ns b n nt ts.toNat tk hw hl (by omega) (by omega)
  rw [e] at this
  exact this
-- MACRO BEGIN
set_option hygiene false in
local macro_rules | `(tactic| walk_at "call ref") => `(tactic| (have C9 := @Mine.indent_i; walk_at "zE"))
-- MACRO END
theorem longest_c (w : World) (news : List (Addr × Obj)) (x : Addr) (ns : List Int) (b n nt : Int) (hw : WsAt w news x ns b n nt) (hl : ns.length ≤ 1000) :
    Ctr w 165 news [.ref x] 2 (fun v tl => tl = [] ∧ ∃ t, v = .int (max ((ns.length : Int) - 1) b) t) := by
  obtain ⟨hm1, hm2, hm3, hm4, hi, hsb⟩ := hw
  subst hsb
  unfold Ctr
  k_fill
  rintro mean mg mb dp un gd cn cs a ccd cl outer A₀ base h₀ L m ⟨sh, sg, sd, sk, so⟩ Q E B F X N T hk hdp hun hret
  dsimp only at F N hret
  have hlen := hi.length
  refine wpAny_call ?_
  k_dflt ktr_enter
  rename Fr _ _ _ _ => FE
  obtain ⟨mE, FE1⟩ := fr_split (x := Str.ofString "self") (v := .ref x) FE rfl
  clear FE
  refine letAE ?_
  intro e9 A9
  k_steps
  exact hret _ [] _ _ (by assumption) (by assumption) (fun _ _ _ h9 => nomatch h9) ⟨rfl, _, congrArg (fun z => Value.int z _) (by rw [hlen]; split <;> omega)⟩
theorem reads_tupI {h₀ h : Heap} {L : Addr} {news : List (Addr × Obj)} {c : Addr} {vs : List Value} {ns : List Int} (N : News h₀ L h news) (hm : (c, tupO vs.toArray) ∈ news) (hi : IntsAre vs ns) : ∃ as, Reads h (.ref c) (.tuple (ns.map .int)) as :=
  ⟨_, reads_tuple_at (N.get hm) rfl rfl (by simpa using readsAll_of_ints hi)⟩
theorem reads_norm {h₀ h : Heap} {L : Addr} {news : List (Addr × Obj)} {p c : Addr} {vs : List Value} {ns : List Int} {b : Int} {tb : Tok} (N : News h₀ L h news) (hm : (c, tupO vs.toArray) ∈ news) (hi : IntsAre vs ns) (hp : (p, tupO #[.ref c, .int b tb]) ∈ news) :
    ∃ as, Reads h (.ref p) (.tuple [.tuple (ns.map .int), .int b]) as := by
  obtain ⟨as, r⟩ := reads_tupI N hm hi
  exact ⟨_, reads_tuple_at (N.get hp) rfl rfl (ReadsAll.cons r (ReadsAll.cons (Reads.int _ _) ReadsAll.nil))⟩
theorem eq_norm {prog : Program} {w : World} {A : Around} {E : Value → Shared → Prop} {s : Shared} {h₀ : Heap} {L : Addr} {news : List (Addr × Obj)} {p c p' c' : Addr} {vs vs' : List Value} {ns ns' : List Int} {b b' : Int} {tb tb' : Tok} {Q : Value → Shared → Prop}
    (N : News h₀ L s.heap news) (hm : (c, tupO vs.toArray) ∈ news) (hi : IntsAre vs ns) (hp : (p, tupO #[.ref c, .int b tb]) ∈ news) (hm' : (c', tupO vs'.toArray) ∈ news) (hi' : IntsAre vs' ns') (hp' : (p', tupO #[.ref c', .int b' tb']) ∈ news) (hu : A.units + 64 < cLine)
    (h : Q (.bool (decide (ns = ns' ∧ b = b'))) s) : wpAny (model prog w) A (compareOp .Eq (.ref p) (.ref p')) Q E s := by
  obtain ⟨as, r⟩ := reads_norm N hm hi hp
  obtain ⟨as', r'⟩ := reads_norm N hm' hi' hp'
  have sh : ∀ (ns : List Int) (b : Int), SeqAt.shaped (.tuple [.tuple (ns.map .int), .int b]) = true := fun ns b => by
    simp [SeqAt.shaped, PyData.canLay0, PyData.canLayAll0, PyData.depth, PyData.depthAll, ke_canLayAll0, ke_depthAll]
  refine eq_dataH r r' (sh _ _) (sh _ _) hu ?_
  have e : PyData.eqv (.tuple [.tuple (ns.map .int), .int b]) (.tuple [.tuple (ns'.map .int), .int b']) = decide (ns = ns' ∧ b = b') := by
    simp only [PyData.eqv, PyData.eqvAll, ked_eqvAll]
    by_cases h1 : ns = ns' <;> by_cases h2 : b = b' <;> simp [h1, h2]
  rw [e]; exact h
section
local macro_rules | `(tactic| walk_at "compareOp Eq ref ref") => `(tactic| walk_at "zh")
theorem equal_c (w : World) (news : List (Addr × Obj)) (x : Addr) (ns : List Int) (b n nt : Int) (y : Addr) (ns' : List Int) (b' n' nt' : Int) (hw : WsAt w news x ns b n nt) (hw' : WsAt w news y ns' b' n' nt') (hl : ns.length ≤ 1000) (hl' : ns'.length ≤ 1000) :
    Ctr w 179 news [.ref x, .ref y] 12 (fun v tl => tl = [] ∧ v = .bool (decide (ns = ns' ∧ b = b'))) := by
  obtain ⟨hm1, hm2, hm3, hm4, hi, hsb⟩ := hw
  subst hsb
  obtain ⟨hm1', hm2', hm3', hm4', hi', hsb'⟩ := hw'
  subst hsb'
  unfold Ctr
  k_fill
  rintro mean mg mb dp un gd cn cs a ccd cl outer A₀ base h₀ L m ⟨sh, sg, sd, sk, so⟩ Q E B F X N T hk hdp hun hret
  dsimp only at F N hret
  have hlen := hi.length
  refine wpAny_call ?_
  k_dflt ktr_enter
  rename Fr _ _ _ _ => FE
  obtain ⟨mE, FE1⟩ := fr_ent2 (Str.ofString "self") (Str.ofString "other") (v := .ref x) (u := .ref y) FE rfl rfl
  clear FE
  refine letAE ?_
  intro e9 A9
  k_steps
  refine Hold.mk (eq_norm (by assumption) hm4 hi hm3 hm4' hi' hm3' (by dsimp only [A9]; ktr_units) ?_)
  k_steps
  exact hret _ [] _ _ (by assumption) (by assumption) (fun _ _ _ h9 => nomatch h9) ⟨rfl, rfl⟩
end
theorem off_p14 : True := by
  w_top off
  trivial
-- MACRO BEGIN
set_option hygiene false in
local macro_rules | `(tactic| walk_at "call ref") => `(tactic| (have C9 := @Mine.longest_c; walk_at "zE"))
-- MACRO END
def runOf (ns : List Int) (b : Int) : Int := max ((ns.length : Int) - 1) b
def lessB (ns : List Int) (b n nt : Int) (ns' : List Int) (b' n' nt' : Int) : Bool :=
  if n' ≤ n then false else if ns.length ≤ 1 ∧ ns'.length ≤ 1 then decide (nt ≤ nt')
  else decide (∀ k < (max (runOf ns b) (runOf ns' b')).toNat, lvl ns b nt (2 + k) < lvl ns' b' nt' (2 + k))
theorem runOf_bd {B : Nat} {ns : List Int} {b : Int} (hl : ns.length ≤ B + 1) (hb : 0 ≤ b ∧ b ≤ B) : 0 ≤ runOf ns b ∧ runOf ns b ≤ B := ⟨Int.le_trans hb.1 (Int.le_max_right _ _), Int.max_le.mpr ⟨Int.sub_right_le_of_le_add (Int.ofNat_le.mpr hl), hb.2⟩⟩
theorem runs_bd {B : Nat} {x y : Int} (h1 : 0 ≤ x ∧ x ≤ B) (h2 : 0 ≤ y ∧ y ≤ B) : ∃ K : Nat, max x y = (K : Int) ∧ K ≤ B := by
  obtain ⟨K, e⟩ := Int.eq_ofNat_of_zero_le (Int.le_trans h1.1 (Int.le_max_left x y))
  have h := Int.max_le.mpr ⟨h1.2, h2.2⟩
  rw [e] at h
  exact ⟨K, e, Int.ofNat_le.mp h⟩
theorem lessB_run {ns : List Int} {b n nt : Int} {ns' : List Int} {b' n' nt' : Int} {K : Nat} (hn : ¬ n' ≤ n) (hc : ¬ (ns.length ≤ 1 ∧ ns'.length ≤ 1)) (e : max (runOf ns b) (runOf ns' b') = (K : Int)) : lessB ns b n nt ns' b' n' nt' = decide (∀ k < K, lvl ns b nt (2 + k) < lvl ns' b' nt' (2 + k)) := by
  rw [lessB, if_neg hn, if_neg hc, e, Int.toNat_natCast]
theorem rng_K {K : Nat} (h : K ≤ 900) : (K : Int) + 1 + 1 < 2 ^ 30 ∧ 0 ≤ (K : Int) + 1 + 1 ∧ (K : Int) = max 0 ((K : Int) + 1 + 1 - 2) := by omega
theorem ite_max (a b : Int) : (if b > a then b else a) = max a b := by
  by_cases h : b > a
  · rw [if_pos h, Int.max_eq_right (Int.le_of_lt h)]
  · rw [if_neg h, Int.max_eq_left (Int.not_lt.mp h)]
/-- The join of a statement that goes on with names and ledger as they were. -/
def JoinF (s : Shared) (C : Prop) (Q : Flow → Shared → Prop) (f : Flow) (s₂ : Shared) : Prop :=
  match f with
  | .next => ∃ tk, s₂ = { s with toks := tk } ∧ C
  | f => Q f s₂
theorem join_flow {prog : Program} {w : World} {A : Around} {E : Value → Shared → Prop} {s : Shared} {t : Sem Flow} {Q : Flow → Shared → Prop} (C : Prop) (h : wpAny (model prog w) A t (JoinF s C Q) E s) (h2 : ∀ tk, C → Q .next { s with toks := tk }) : wpAny (model prog w) A t Q E s :=
  wpAny_mono h (fun f s₂ p => by
    cases f with
    | next =>
      obtain ⟨tk, rfl, hc⟩ := p
      exact h2 tk hc
    | ret v => exact p
    | brk => exact p
    | cont => exact p) fun _ _ e => e
section
local macro_rules | `(tactic| walk_at "exec If") => `(tactic| walk_at "zf")
theorem less_c (w : World) (news : List (Addr × Obj)) (x : Addr) (ns : List Int) (b n nt : Int) (y : Addr) (ns' : List Int) (b' n' nt' : Int) (hw : WsAt w news x ns b n nt) (hw' : WsAt w news y ns' b' n' nt') (hl : ns.length ≤ 900) (hl' : ns'.length ≤ 900) (hb : 0 ≤ b ∧ b ≤ 900) (hb' : 0 ≤ b' ∧ b' ≤ 900) :
    Ctr w 193 news [.ref x, .ref y] 12 (fun v tl => tl = [] ∧ v = .bool (lessB ns b n nt ns' b' n' nt')) := by
  have hw1 := hw
  have hw1' := hw'
  obtain ⟨hm1, hm2, hm3, hm4, hi, hsb⟩ := hw1
  subst hsb
  obtain ⟨hm1', hm2', hm3', hm4', hi', hsb'⟩ := hw1'
  subst hsb'
  unfold Ctr
  k_fill
  rintro mean mg mb dp un gd cn cs a ccd cl outer A₀ base h₀ L m ⟨sh, sg, sd, sk, so⟩ Q E B F X N T hk hdp hun hret
  dsimp only at F N hret
  refine wpAny_call ?_
  k_dflt ktr_enter
  rename Fr _ _ _ _ => FE
  obtain ⟨mE, FE1⟩ := fr_ent2 (Str.ofString "self") (Str.ofString "other") (v := .ref x) (u := .ref y) FE rfl rfl
  clear FE
  have hr1 : (ktrTop dp un gd cn cs L a ccd cl outer).depth + 1 + 2 < recursionLimit := by ktr_room
  have hu1 : (ktrTop dp un gd cn cs L a ccd cl outer).units + 3 + 8 * 2 < cLine := by ktr_units
  have hl1 : ns.length ≤ 1000 := Nat.le_trans hl (by decide)
  have hl1' : ns'.length ≤ 1000 := Nat.le_trans hl' (by decide)
  obtain ⟨K, eK, hK⟩ := runs_bd (B := 900) (runOf_bd (Nat.le_succ_of_le hl) hb) (runOf_bd (Nat.le_succ_of_le hl') hb')
  refine letAE ?_
  intro e9 A9
  k_steps
  refine Hold.mk ?_
  have go := Go.mk
  refine join_flow (¬ n' ≤ n) ?_ ?_
  · k_steps
    · dsimp only [JoinF]
      k_steps
      exact hret _ [] _ _ (by assumption) (by assumption) (fun _ _ _ h9 => nomatch h9) ⟨rfl, by rw [lessB, if_pos (by assumption)]⟩
    · exact ⟨_, rfl, by assumption⟩
  clear go
  intro tk1 hn
  k_steps
  refine Hold.mk ?_
  have go := Go.mk
  refine join_flow (¬ (ns.length ≤ 1 ∧ ns'.length ≤ 1)) ?_ ?_
  · k_steps
    · dsimp only [JoinF]
      k_steps
      exact hret _ [] _ _ (by assumption) (by assumption) (fun _ _ _ h9 => nomatch h9) ⟨rfl, by rw [lessB, if_neg hn, if_pos ⟨by assumption, by assumption⟩]⟩
    all_goals exact ⟨_, rfl, fun q => absurd q.1 (by first | assumption | (exact fun _ => absurd q.2 (by assumption)))⟩
  intro tk2 hc
  k_steps
  rename IsRange _ _ _ _ _ _ _ _ => hR
  rename Fr _ _ _ _ => F1
  rename News _ _ _ _ => N1
  simp only [ite_max] at hR
  rw [show max (max ((ns.length : Int) - 1) b) (max ((ns'.length : Int) - 1) b') = (K : Int) from eK] at hR
  have hq := rng_K hK
  refine Hold.mk (range_inv (σ := Unit) (fun _ => news) (fun _ => []) (fun i _ => ∀ k < i, lvl ns b nt (2 + k) < lvl ns' b' nt' (2 + k)) () K rfl hR (by decide) hq.1 hq.2.1 (by decide) hq.2.2 F1 N1 (List.forall_mem_nil _) (fun k h => absurd h (Nat.not_lt_zero _)) ?_ ?_)
  · intro I i c t h tk hi9 hp hI off F' N'
    have h12 : (1 : Int) ≤ 2 + (i : Int) := by omega
    have h13 : 2 + (i : Int) ≤ 1000 := by omega
    have e8 : (2 + (i : Int)).toNat = 2 + i := by omega
    k_steps
    · rename lvl ns' b' nt' _ ≤ lvl ns b nt _ => hge
      rw [e8] at hge
      refine hret _ [] _ _ (by assumption) (cb_drop (by assumption) (fun p hp => List.mem_cons_of_mem _ hp)) (fun _ _ _ h9 => nomatch h9) ⟨rfl, ?_⟩
      rw [lessB_run hn hc eK, decide_eq_false]
      exact fun hh => absurd (hh i hi9) (Int.not_lt.mpr hge)
    · rename ¬ (lvl ns' b' nt' _ ≤ lvl ns b nt _) => hge
      rw [e8] at hge
      refine jl_fin (by assumption) (by assumption) () (List.forall_mem_nil _) (fun _ h => h) off ?_ ?_
      · intro k hk9
        rcases Nat.lt_succ_iff_lt_or_eq.mp hk9 with h8 | h8
        · exact hp k h8
        · subst h8; exact Int.not_le.mp hge
      · intro z hz hn9
        simp only [kstB, if_neg hz]
  · intro c u h tk hp F' N'
    k_steps
    exact hret _ [] _ _ (by assumption) (by assumption) (fun _ _ _ h9 => nomatch h9) ⟨rfl, by rw [lessB_run hn hc eK, decide_eq_true hp]⟩
end
theorem off_p16 : True := by
  w_top off
  trivial
/-- All the addresses of a ledger's part lie below. -/
def Low (news : List (Addr × Obj)) (B : Nat) : Prop := ∀ p ∈ news, @LT.lt Nat _ p.1 B
theorem Low.at {news : List (Addr × Obj)} {B : Nat} (h : Low news B) {p : Addr × Obj} (hp : p ∈ news) : @LT.lt Nat _ p.1 B := h p hp
-- MACRO BEGIN
local macro_rules | `(tactic| walk_at "call builtin:len") => `(tactic| (k_here; k_dflt (apply Mine.len_lst; walk_at "z3"); intro t9 tk9))
local macro_rules | `(tactic| walk_at "call type:tuple") => `(tactic| walk_at "zh")
local macro_rules | `(tactic| walk_at "subscriptTail Name Name ref int") => `(tactic| (k_dflt (apply Mine.item_lstI; walk_at "z6"); intro t9))
local macro_rules | `(tactic| k_all) => `(tactic| (intro p9 hp9; (have h9 := Mine.Low.at (by assumption) hp9); refine neN ?_; (try dsimp only at *); omega))
-- MACRO END
def bump (ns : List Int) (b : Int) : List Int :=
  let ms := if (ns.length : Int) ≤ b then ns ++ List.replicate (b - ns.length + 1).toNat 0 else ns
  ms.set b.toNat (ms.getD b.toNat 0 + 1)
def scanF : List Nat → List Int × Int × Int × Int → List Int × Int × Int × Int
  | [], c => c
  | ch :: r, (ns, b, n, nt) => if ch = 32 then scanF r (ns, b + 1, n + 1, nt) else if ch = 9 then scanF r (bump ns b, 0, n + 1, nt + 1) else (ns, b, n, nt)
structure IS where
  a : Addr
  vs : List Value
  k : Nat
  ns : List Int
  b : Int
  n : Int
  nt : Int
  tb : Tok
  tn : Tok
  tt : Tok
theorem sgn32 {ch : Nat} : (⟨#[ch]⟩ : Str) = Str.ofString " " ↔ ch = 32 := by
  rw [show Str.ofString " " = ⟨#[32]⟩ by decide +kernel]; simp
theorem sgn9 {ch : Nat} : (⟨#[ch]⟩ : Str) = Str.ofString "\t" ↔ ch = 9 := by
  rw [show Str.ofString "\t" = ⟨#[9]⟩ by decide +kernel]; simp
theorem sgnB32 {ch : Nat} : ((⟨#[ch]⟩ : Str) == Str.ofString " ") = decide (ch = 32) := by
  by_cases h : ch = 32
  · rw [decide_eq_true h, beq_iff_eq]; exact sgn32.mpr h
  · rw [decide_eq_false h, beq_eq_false_iff_ne]; exact fun e => h (sgn32.mp e)
theorem sgnB9 {ch : Nat} : ((⟨#[ch]⟩ : Str) == Str.ofString "\t") = decide (ch = 9) := by
  by_cases h : ch = 9
  · rw [decide_eq_true h, beq_iff_eq]; exact sgn9.mpr h
  · rw [decide_eq_false h, beq_eq_false_iff_ne]; exact fun e => h (sgn9.mp e)
theorem drop_cons {α : Type} {l : List α} {i : Nat} {c : α} (h : l[i]? = some c) : l.drop i = c :: l.drop (i + 1) := by
  obtain ⟨h1, h2⟩ := List.getElem?_eq_some_iff.mp h
  rw [← h2]; exact List.drop_eq_getElem_cons h1
theorem rep_flat (k : Nat) : (List.replicate k [(0 : Int)]).flatten = List.replicate k 0 := by
  induction k with
  | zero => rfl
  | succ k ih => rw [List.replicate_succ, List.flatten_cons, ih]; rfl
theorem news_drop2 {h₀ h : Heap} {L : Addr} {a b : Addr × Obj} {r : List (Addr × Obj)} (N : News h₀ L h (a :: b :: r)) : News h₀ L h (a :: r) :=
  cb_drop N fun p hp => by
    rcases List.mem_cons.mp hp with rfl | hp
    · exact mem_head
    · exact List.mem_cons_of_mem _ (List.mem_cons_of_mem _ hp)
section
local macro_rules | `(tactic| walk_at "BrkPost") => `(tactic| first | ((with_reducible show Mine.BrkPost _ _ _ _ _ _ _ _ _ _ _ _ _ Flow.brk _); refine Mine.Hold.of ?_) | (dsimp only [Mine.BrkPost]))
local macro_rules | `(tactic| walk_at "pyIter str") => `(tactic| walk_at "zh")
theorem ws_c (w : World) (news : List (Addr × Obj)) (tx : Str) (tk : Tok) (hz : tx.cps.size ≤ 900) :
    Ctr w 203 news [.str tx tk] 12 (fun v tl => ∃ x ns b n nt, v = .ref x ∧ scanF tx.cps.toList ([], 0, 0, 0) = (ns, b, n, nt) ∧ WsAt w tl x ns b n nt) := by
  unfold Ctr
  k_fill
  rintro mean mg mb dp un gd cn cs a ccd cl outer A₀ base h₀ L m ⟨sh, sg, sd, sk, so⟩ Q E B F X N T hk hdp hun hret
  dsimp only at F N hret
  k_dflt (refine' call_cls ?k1 ?k2 ?k3 ?k4 ?k5 ?k6 ?_)
  (case k1 => k_asm)
  (case k2 => k_asm)
  (case k3 => k_asm)
  (case k4 => k_is)
  (case k5 => k_is)
  (case k6 => k_is)
  intro x' d' h' F' N' l1 l2
  have hLow : Low news d' := l1
  k_lt2 l2
  k_dflt ktr_enter
  rename Fr _ _ _ _ => FE
  obtain ⟨mE, FE1⟩ := fr_ent2 (Str.ofString "self") (Str.ofString "ws") (v := .ref x') (u := .str tx tk) FE rfl rfl
  clear FE
  refine letAE ?_
  intro e9 A9
  k_steps
  rename Fr _ _ _ _ => F1
  rename News _ _ _ _ => N1
  have N2 := news_drop2 N1
  clear N1
  refine Hold.mk (str_invB (σ := IS) (fun c => (c.a, W.listOf c.vs.toArray c.k) :: _) (fun c => [("count", .ref c.a), ("b", .int c.b c.tb), ("n", .int c.n c.tn), ("nt", .int c.nt c.tt)])
    (fun i c => IntsAre c.vs c.ns ∧ scanF (tx.cps.toList.drop i) (c.ns, c.b, c.n, c.nt) = scanF tx.cps.toList ([], 0, 0, 0) ∧ 0 ≤ c.b ∧ c.b ≤ i ∧ c.ns.length ≤ i ∧ @LT.lt Nat _ d' c.a ∧ @LT.lt Nat _ x' c.a)
    (fun c => IntsAre c.vs c.ns ∧ (c.ns, c.b, c.n, c.nt) = scanF tx.cps.toList ([], 0, 0, 0) ∧ @LT.lt Nat _ d' c.a ∧ @LT.lt Nat _ x' c.a ∧ c.ns.length ≤ 900) ⟨_, [], 0, [], 0, 0, 0, _, _, _⟩ rfl F1 N2 (all4 rfl rfl rfl rfl) ?_ ?_ ?_ ?_)
  · exact ⟨IntsAre.nil, by rw [List.drop_zero], Int.le_refl _, Int.le_refl _, Nat.le_refl _, by dsimp only; omega, by dsimp only; omega⟩
  · rintro c ⟨hi, hs, hb0, hb1, hl1, ha1, ha2⟩
    rw [List.drop_length, scanF] at hs
    simp only [Array.length_toList] at hb1 hl1
    exact ⟨hi, hs, ha1, ha2, by omega⟩
  · intro I i c ch u it h tk hc hp hI off F' N'
    obtain ⟨hi, hs, hb0, hb1, hl1, ha1, ha2⟩ := hp
    have hlen := hi.length
    have hIa : @Ne Nat c.a I := off _ mem_head
    have hIx : @Ne Nat x' I := off (x', _) (List.mem_cons_of_mem _ mem_head)
    have hi9 : i < tx.cps.size := by
      have := (List.getElem?_eq_some_iff.mp hc).1
      simpa using this
    rw [drop_cons hc] at hs
    refine letQ ?_
    intro Q9
    k_steps
    · rename (_ == Str.ofString " ") = true => h32
      rw [sgnB32, decide_eq_true_eq] at h32
      rw [scanF, if_pos h32] at hs
      refine jl_fin (by assumption) (by assumption) ⟨c.a, c.vs, c.k, c.ns, c.b + 1, c.n + 1, c.nt, _, _, _⟩ (all4 rfl rfl rfl rfl) (fun _ h => h) off ⟨hi, hs, by dsimp only; omega, by dsimp only; omega, by dsimp only; omega, ha1, ha2⟩ ?_
      intro z hz hn
      have q1 := hn _ mem_head
      have q2 := hn _ (List.mem_cons_of_mem _ mem_head)
      have q3 := hn _ (List.mem_cons_of_mem _ (List.mem_cons_of_mem _ mem_head))
      have q4 := hn _ (List.mem_cons_of_mem _ (List.mem_cons_of_mem _ (List.mem_cons_of_mem _ mem_head)))
      dsimp only at q1 q2 q3 q4
      simp only [kstB, if_neg hz, if_neg q1, if_neg q2, if_neg q3, if_neg q4]
    · rename (_ == Str.ofString " ") = false => h32
      rename (_ == Str.ofString "\t") = true => h9
      rename (c.vs.length : Int) ≤ c.b => hge
      rename IntsAre (List.set _ _ _) _ => hI9
      rename News _ _ _ _ => N3
      rw [sgnB32, decide_eq_false_iff_not] at h32
      rw [sgnB9, decide_eq_true_eq] at h9
      rw [scanF, if_neg h32, if_pos h9] at hs
      refine jl_fin (c := IS.mk _ _ 0 _ 0 (c.n + 1) (c.nt + 1) _ _ _) (by assumption) N3 (all4 rfl rfl rfl rfl) ?_ ?_ ⟨hI9, ?_, Int.le_refl _, by dsimp only; omega, ?_, by dsimp only; omega, by dsimp only; omega⟩ ?_
      · intro p hp
        rcases List.mem_cons.mp hp with rfl | hp
        · k_mem
        · rcases List.mem_cons.mp hp with rfl | hp
          · exact mem_head
          · iterate 5 refine List.mem_cons_of_mem _ ?_
            exact hp
      · intro p hp
        rcases List.mem_cons.mp hp with rfl | hp
        · refine neN ?_; dsimp only; omega
        · exact off p (List.mem_cons_of_mem _ hp)
      · dsimp only
        rw [← hs, bump, rep_flat, hlen]
        rw [if_pos (by omega)]
      · dsimp only
        rw [rep_flat, List.length_set, List.length_append, List.length_replicate]
        omega
      · intro z hz hn
        have q1 := hn _ mem_head
        have q2 := hn _ (List.mem_cons_of_mem _ mem_head)
        have q3 := hn _ (List.mem_cons_of_mem _ (List.mem_cons_of_mem _ mem_head))
        have q4 := hn _ (List.mem_cons_of_mem _ (List.mem_cons_of_mem _ (List.mem_cons_of_mem _ mem_head)))
        dsimp only at q1 q2 q3 q4
        simp only [kstB, if_neg hz, if_neg q1, if_neg q2, if_neg q3, if_neg q4]
    · rename (_ == Str.ofString " ") = false => h32
      rename (_ == Str.ofString "\t") = true => h9
      rename ¬ ((c.vs.length : Int) ≤ c.b) => hge
      rename IntsAre (List.set _ _ _) _ => hI9
      rename News _ _ _ _ => N3
      rw [sgnB32, decide_eq_false_iff_not] at h32
      rw [sgnB9, decide_eq_true_eq] at h9
      rw [scanF, if_neg h32, if_pos h9] at hs
      refine jl_fin (c := IS.mk c.a _ c.k _ 0 (c.n + 1) (c.nt + 1) _ _ _) (by assumption) N3 (all4 rfl rfl rfl rfl) (fun _ h => h) ?_ ⟨hI9, ?_, Int.le_refl _, by dsimp only; omega, ?_, ha1, ha2⟩ ?_
      · intro p hp
        rcases List.mem_cons.mp hp with rfl | hp
        · exact hIa
        · exact off p (List.mem_cons_of_mem _ hp)
      · dsimp only
        rw [← hs, bump]
        rw [if_neg (by omega)]
      · dsimp only
        rw [List.length_set]
        omega
      · intro z hz hn
        have q1 := hn _ mem_head
        have q2 := hn _ (List.mem_cons_of_mem _ mem_head)
        have q3 := hn _ (List.mem_cons_of_mem _ (List.mem_cons_of_mem _ mem_head))
        have q4 := hn _ (List.mem_cons_of_mem _ (List.mem_cons_of_mem _ (List.mem_cons_of_mem _ mem_head)))
        dsimp only at q1 q2 q3 q4
        simp only [kstB, if_neg hz, if_neg q1, if_neg q2, if_neg q3, if_neg q4]
    · rename (_ == Str.ofString " ") = false => h32
      rename (_ == Str.ofString "\t") = false => h9
      rw [sgnB32, decide_eq_false_iff_not] at h32
      rw [sgnB9, decide_eq_false_iff_not] at h9
      rw [scanF, if_neg h32, if_neg h9] at hs
      refine Hold.mk (brk_fin (by assumption) (by assumption) c (all4 rfl rfl rfl rfl) (fun _ h => List.mem_cons_of_mem _ h) ⟨hi, hs, ha1, ha2, by omega⟩ ?_)
      intro z hz hn
      have q1 := hn _ mem_head
      have q2 := hn _ (List.mem_cons_of_mem _ mem_head)
      have q3 := hn _ (List.mem_cons_of_mem _ (List.mem_cons_of_mem _ mem_head))
      have q4 := hn _ (List.mem_cons_of_mem _ (List.mem_cons_of_mem _ (List.mem_cons_of_mem _ mem_head)))
      dsimp only at q1 q2 q3 q4
      simp only [kstB, if_neg hz, if_neg q1, if_neg q2, if_neg q3, if_neg q4]
  · intro c u h tk hp F' N'
    obtain ⟨hi, hs, ha1, ha2, hl1⟩ := hp
    have hlen := hi.length
    k_steps
    refine Hold.mk ?_
    k_dflt (refine' kde_tupleOf ?k1 ?k2 ?k3 ?k4 ?k5 ?_; (case k1 => k_asm); (case k2 => k_asm); (case k3 => exact News.isList (by k_asm) (by k_mem)); (case k4 => (simp only [List.size_toArray]; omega)); (case k5 => exact List.toList_toArray); k_whole)
    intro D' h' F' N' l1
    (try k_lt l1)
    (try k_sweep)
    k_steps
    refine hret _ [_, _, _, _, _] _ _ (by assumption) (by assumption) ?_ ⟨x', c.ns, c.b, c.n, c.nt, rfl, hs.symm, WsAt.mk (raw := .str tx _) (by k_mem) (by k_mem) (by k_mem) (by k_mem) hi ?_⟩
    · intro q hq p hp
      have h9 := hLow.at hq
      simp only [List.mem_cons, List.not_mem_nil, or_false] at hp
      rcases hp with rfl | rfl | rfl | rfl | rfl <;> (refine ltN ?_; dsimp only; omega)
    · rw [hlen]; simp only [decide_eq_decide]; omega
end
theorem off_p18 : True := by
  w_top off
  trivial
/-- The end of a comprehension's turn: the ledger as it was, the value added. -/
def CEnd (h₀ : Heap) (L : Addr) (m : Str → Option Value) (s : Shared) (led : List (Addr × Obj)) (J : Value → Prop) (y : Value) (s₂ : Shared) : Prop :=
  ∃ h' tk', s₂ = { s with heap := h', toks := tk' } ∧ Fr h₀ L h' m ∧ News h₀ L h' led ∧ J y
theorem cend {h₀ : Heap} {L : Addr} {m : Str → Option Value} {s : Shared} {led all : List (Addr × Obj)} {J : Value → Prop} {y : Value} {h' : Heap} {tk' : Nat} (F : Fr h₀ L h' m) (N : News h₀ L h' all) (sub : ∀ p ∈ led, p ∈ all) (hj : J y) :
    CEnd h₀ L m s led J y { s with heap := h', toks := tk' } := ⟨h', tk', rfl, F, fun p hp => N p (sub p hp), hj⟩
section
variable {prog : Program} {w : World} {A : Around} {E : Value → Shared → Prop} {s : Shared} {h₀ : Heap} {L : Addr} {m : Str → Option Value} {env : Env}
theorem compRest_inv {elt : PySem.Expr} {x : Str} {scope : Scope} {cl : List (Str × Addr)} {S : List (Addr × Obj) → Prop} {P : Nat → Value → Prop} {Fin : List Value → List (Addr × Obj) → Prop} {news : List (Addr × Obj)} {n : Nat} (J : Nat → List Value → Prop) (hS : S news)
    (turn : ∀ i ys v I oI C oC D m₂ h tk (E' : Value → Shared → Prop), i < n → J i ys → P i v → LCg.NsObj oC m₂ → m₂ x = some v → Fr h₀ L h m → News h₀ L h ((I, oI) :: (C, oC) :: (D, LCg.lst ys) :: news) → LCg.Off3 I C D news → ((@Ne Nat I C) ∧ (@Ne Nat I D) ∧ (@Ne Nat C D)) →
      wpAny (model prog w) A (eval elt (compEnvC scope cl C env)) (CEnd h₀ L m { s with heap := h, toks := tk } ((I, oI) :: (C, oC) :: (D, LCg.lst ys) :: news) (fun y => J (i + 1) (ys ++ [y]))) E' { s with heap := h, toks := tk })
    (fin : ∀ ys, J n ys → Fin ys news) : ∀ k i ys, i + k = n → J i ys → LCg.CompRest prog w A h₀ L m env elt x scope cl s S P Fin k i ys news
  | 0, i, ys, e, hj => by
    have e' : i = n := by omega
    subst e'
    exact LCg.CompRest.zero (fin ys hj)
  | k + 1, i, ys, e, hj => LCg.CompRest.succ fun v I oI C oC D m₂ h tk E' hP hC hx F N off ne => by
    refine wpAny_mono (turn i ys v I oI C oC D m₂ h tk E' (by omega) hj hP hC hx F N off ne) (fun y s₂ p => ?_) fun _ _ e => e
    obtain ⟨h', tk', rfl, F', N', hj'⟩ := p
    exact ⟨h', tk', news, rfl, F', N', off, hS, compRest_inv J hS turn fin k (i + 1) (ys ++ [y]) (by omega) hj'⟩
end
/-- Rows of ints that stand in the ledger. -/
inductive RowsAt (news : List (Addr × Obj)) : List Value → List (List Int) → Prop
  | nil : RowsAt news [] []
  | cons {a : Addr} {us : List Value} {k : Nat} {r : List Int} {vs : List Value} {rs : List (List Int)} (hm : (a, W.listOf us.toArray k) ∈ news) (hi : IntsAre us r) (t : RowsAt news vs rs) : RowsAt news (.ref a :: vs) (r :: rs)
theorem RowsAt.length {news : List (Addr × Obj)} {vs : List Value} {rs : List (List Int)} (h : RowsAt news vs rs) : vs.length = rs.length := by
  induction h with
  | nil => rfl
  | cons _ _ _ ih => simp [ih]
theorem RowsAt.mono {news news' : List (Addr × Obj)} {vs : List Value} {rs : List (List Int)} (h : RowsAt news vs rs) (hs : ∀ p ∈ news, p ∈ news') : RowsAt news' vs rs := by
  induction h with
  | nil => exact .nil
  | cons hm hi _ ih => exact .cons (hs _ hm) hi ih
theorem RowsAt.get {news : List (Addr × Obj)} {vs : List Value} {rs : List (List Int)} (h : RowsAt news vs rs) {i : Nat} {v : Value} (hv : vs[i]? = some v) : ∃ a us k r, v = .ref a ∧ rs[i]? = some r ∧ (a, W.listOf us.toArray k) ∈ news ∧ IntsAre us r := by
  induction h generalizing i with
  | nil => simp at hv
  | cons hm hi _ ih =>
    cases i with
    | zero => simp at hv; subst hv; exact ⟨_, _, _, _, rfl, by simp, hm, hi⟩
    | succ i => simp at hv; obtain ⟨a, us, k, r, h1, h2, h3⟩ := ih hv; exact ⟨a, us, k, r, h1, by simpa using h2, h3⟩
def placeS (rows : List (List Int)) (col : List Int) (k : Nat) : Int :=
  let steps := rows.map (fun r => r.getD k 0)
  if steps.getD (steps.length - 1) 0 < col.getD k 0 then steps.length else if col.getD k 0 ∈ steps then (steps.idxOf (col.getD k 0) : Nat) else -1
theorem kf_ints_of {vs : List Value} {ns : List Int} (hi : IntsAre vs ns) : kf_ints vs = true := by
  induction hi with
  | nil => rfl
  | cons _ _ _ ih => simpa [kf_ints] using ih
theorem kf_at_of {k : Int} {vs : List Value} {ns : List Int} (hi : IntsAre vs ns) (hk : k ∈ ns) : kf_at k vs = some (ns.idxOf k) := by
  induction hi with
  | nil => simp at hk
  | cons a t h ih =>
    unfold kf_at
    rw [List.idxOf_cons]
    by_cases e : a = k
    · subst e; simp [isInt, cond]
    · have hk' := (List.mem_cons.mp hk).resolve_left (fun q => e q.symm)
      simp only [isInt]
      rw [beq_eq_false_iff_ne.mpr e, ih hk']
      rfl
theorem index_lst {prog : Program} {w : World} {A : Around} {E : Value → Shared → Prop} {s : Shared} {h₀ : Heap} {L D : Addr} {news : List (Addr × Obj)} {vs : List Value} {ns : List Int} {n : Nat} {k : Int} {t : Tok} {Q : Value → Shared → Prop} (N : News h₀ L s.heap news) (hm : (D, W.listOf vs.toArray n) ∈ news) (hi : IntsAre vs ns) (hk : k ∈ ns) (hz : ns.length ≤ 1000)
    (h : ∀ t tk, Q (.int (ns.idxOf k : Nat) t) { s with toks := tk }) : wpAny (model prog w) A (call (.builtin "list.index") [.ref D, .int k t]) Q E s :=
  kf_index N hm (kf_ints_of hi) (kf_at_of hi hk) rfl (by rw [sizeLine_eq]; have := hi.length; simp; omega) (h _ _)
-- MACRO BEGIN
local macro_rules | `(tactic| walk_at "call builtin:list.index") => `(tactic| (k_here; k_dflt (apply Mine.index_lst; k_asm; k_mem; assumption; (first | assumption | simp_all); (first | omega | simp only [List.length_map]; omega); k_whole); intro t9 tk9))
local macro_rules | `(tactic| walk_at "CompSrc") => `(tactic| walk_at "zh")
-- MACRO END
section
local macro_rules | `(tactic| walk_at "exec Assign cons ListComp") => `(tactic| walk_at "zh")
theorem place_c (w : World) (news : List (Addr × Obj)) (l c : Addr) (vs us : List Value) (n n' : Nat) (rows : List (List Int)) (col : List Int) (k : Int) (tk : Tok)
    (hl : (l, W.listOf vs.toArray n) ∈ news) (hR : RowsAt news vs rows) (hc : (c, W.listOf us.toArray n') ∈ news) (hci : IntsAre us col) (hz : rows.length ≤ 100) (hz1 : 0 < rows.length) (hz2 : ∀ r ∈ rows, r.length = 9) (hz3 : col.length = 9) (hk0 : 0 ≤ k) (hk9 : k < 9) :
    Ctr w 212 news [.ref l, .ref c, .int k tk] 12 (fun v tl => tl = [] ∧ ∃ t, v = .int (placeS rows col k.toNat) t) := by
  unfold Ctr
  k_fill
  rintro mean mg mb dp un gd cn cs a ccd cl outer A₀ base h₀ L m ⟨sh, sg, sd, sk, so⟩ Q E B F X N T hk hdp hun hret
  dsimp only at F N hret
  have hlen := hR.length
  refine wpAny_call ?_
  k_dflt ((refine' code_defC ?k1 ?k2 ?k3 ?k4 ?k5 ?kA ?kF ?kK ?k6 ?k7 ?k8 ?k9 ?kB ?kD ?_ ?c2 ?c3 ?c4; (case kA => exact rfl); (case kF => exact rfl); (case kK => assumption); (case k1 => k_asm); (case k2 => k_asm); (case k3 => k_asm); (case k4 => k_asm); (case k5 => k_asm); (case k6 => k_is); (case k7 => k_is); (case k8 => ktr_room); (case k9 => exact BindsTo.of_eq rfl); (case kB => exact rfl); (case kD => decide +kernel); (case c2 => exact rfl); (case c3 => exact rfl); (case c4 => exact rfl); k_whole; intro g' L' h' tk' cells' FG' F' N' Y' B' X' T' l1; k_cells Y'; (try simp only [List.cons_append, List.nil_append] at N'); (try dsimp only); (try k_fold)))
  rename Obj.data _ = _ => hd1
  replace hd1 : _ = Data.cell (some (.int k tk)) := hd1
  have FE := F'
  clear F'
  obtain ⟨mE, F'⟩ := fr_ent2 (Str.ofString "ladder") (Str.ofString "column") (v := .ref l) (u := .ref c) FE rfl rfl
  clear FE
  refine letAE ?_
  intro e9 A9
  k_steps
  refine Hold.mk ?_
  k_dflt (refine LCg.Assign_ListComp_U (F₀ := F') (by rfl) (by with_unfolding_all rfl) (by with_unfolding_all rfl) (by decide) (by rfl) (by decide) (by rfl) (by rfl) (by rfl) ?_)
  k_steps
  refine Hold.mk (LCg.CompSrc.ledger (by rfl) (by assumption) (by assumption) (List.mem_cons_of_mem _ hl) (by rw [sizeLine_eq]; simp; omega) fun g9 => ?_)
  refine compRest_inv (n := vs.length) (fun i ys => IntsAre ys ((rows.take i).map (fun r => r.getD k.toNat 0))) (Or.inr ⟨_, List.mem_cons_of_mem _ hl, rfl, _, rfl⟩) ?_ ?_ _ 0 [] (by simp) IntsAre.nil
  · intro i ys v I oI C oC D m₂ h tk' E' hi hJ hP hC hx F9 N9 off ne
    have hP' : vs[i]? = some v := by simpa using hP
    obtain ⟨a9, us9, k9, r9, rfl, hr9, hm9, hi9⟩ := hR.get hP'
    have hl9 : r9.length = 9 := hz2 r9 (List.mem_of_getElem? hr9)
    k_steps
    refine cend (by assumption) (by assumption) (fun _ h => h) ?_
    have e9 : rows.take (i + 1) = rows.take i ++ [r9] := by rw [List.take_add_one, hr9]; rfl
    rw [e9, List.map_append]
    exact IntsAre.append hJ (IntsAre.cons _ _ IntsAre.nil)
  · intro ys hJ
    rw [hlen, List.take_length] at hJ
    have hle := hJ.length
    rw [List.length_map] at hle
    have elast : (-1 + ((rows.map (fun r => r.getD k.toNat 0)).length : Int)).toNat = (rows.map (fun r => r.getD k.toNat 0)).length - 1 := by omega
    k_steps
    · rename List.getD _ _ _ < _ => hlt
      rw [elast] at hlt
      refine hret _ [] _ _ (by assumption) (cb_drop (by assumption) (fun p hp => List.mem_cons_of_mem _ (List.mem_cons_of_mem _ hp))) (fun _ _ _ h9 => nomatch h9) ⟨rfl, _, congrArg (fun z => Value.int z _) ?_⟩
      rw [placeS]; rw [if_pos hlt, hle, List.length_map]
    · rename ¬ (List.getD _ _ _ < _) => hlt
      rename (List.any _ _) = true => hin
      rw [elast] at hlt
      have hin' : col.getD k.toNat 0 ∈ rows.map (fun r => r.getD k.toNat 0) := by
        obtain ⟨z, hz8, e⟩ := List.any_eq_true.mp hin
        rw [← beq_iff_eq.mp e]; exact hz8
      refine hret _ [] _ _ (by assumption) (cb_drop (by assumption) (fun p hp => List.mem_cons_of_mem _ (List.mem_cons_of_mem _ hp))) (fun _ _ _ h9 => nomatch h9) ⟨rfl, _, congrArg (fun z => Value.int z _) ?_⟩
      rw [placeS]; rw [if_neg hlt, if_pos hin']
    · rename ¬ (List.getD _ _ _ < _) => hlt
      rename (List.any _ _) = false => hin
      rw [elast] at hlt
      have hin' : ¬ (col.getD k.toNat 0 ∈ rows.map (fun r => r.getD k.toNat 0)) := fun q => by
        have := List.any_eq_false.mp hin _ q
        simp at this
      refine hret _ [] _ _ (by assumption) (cb_drop (by assumption) (fun p hp => List.mem_cons_of_mem _ (List.mem_cons_of_mem _ hp))) (fun _ _ _ h9 => nomatch h9) ⟨rfl, _, congrArg (fun z => Value.int z _) ?_⟩
      rw [placeS]; rw [if_neg hlt, if_neg hin']
end
theorem off_p20 : True := by
  w_top off
  trivial
section
variable {prog : Program} {w : World} {A : Around} {E : Value → Shared → Prop} {s : Shared}
theorem kind_sub_nested : builtinKind "issubclass.nested" = none := by decide +kernel
theorem plain_sub_nested : plainId "issubclass.nested" = true := by decide +kernel
theorem args_sub_nested (a b c : Value) : argsOk "issubclass.nested" ⟨[a, b, c], []⟩ := by unfold argsOk; kernel_rfl
theorem meta_str : typeOf (.type "str") = pure (.type "type") := by rfl
theorem sub_str_nested {k : Value} {dep : Int} {tk : Tok} {Q : Fin → Shared → Prop} (hk : k = .int dep tk) (hq : Q (.done (.ret (.bool true))) s) :
    wpAny (model prog w) A (Builtin.«issubclass.nested» ⟨[.type "str", .type "str", k], []⟩) Q E s := by
  subst hk
  have hself : isSubtype (.type "str") (.type "str") = pure true := PySem.F.sub_str_str
  have hm := meta_str
  repeat (any_goals (first | assumption | (rw [hself]) | wp_step))
theorem sub_str_meets {dep : Int} {tk : Tok} : Meets (Builtin.«issubclass.nested» ⟨[.type "str", .type "str", .int dep tk], []⟩) (fun _ R s => R (.ok (.ret (.bool true))) s) :=
  fun _ _ _ _ _ hs => sub_str_nested rfl hs
theorem sub_tup_nested {tp : Addr} {cs rest : List Value} {Q : Fin → Shared → Prop} (htp : s.heap.get? tp = some { cls := .type "tuple", data := .seq cs.toArray }) (hcs : cs = .type "str" :: rest) (hq : Q (.done (.ret (.bool true))) s) :
    wpAny (model prog w) A (Builtin.«issubclass.nested» ⟨[.type "str", .ref tp, rawInt 0], []⟩) Q E s := by
  obtain ⟨h, g, d, t, os⟩ := s
  have hT2 : (⟨h, g, d, t, os⟩ : Shared).TypeIs (.ref tp) "tuple" := ⟨_, htp, rfl⟩
  have f1 := PySem.F.isi_sub_tuple
  repeat (any_goals (first | assumption | wp_step))
  refine wpAny_arrayLoop ?_
  simp only [Option.getD_some, List.toList_toArray]
  rw [hcs, List.forIn_cons]
  refine wpAny_bind (wpAny_bind (call_function_meets kind_sub_nested plain_sub_nested PySem.F.entry_issubclass_nested (args_sub_nested _ _ _) sub_str_meets ?_))
  show wpAny _ _ (truthy (.bool true) >>= _) _ _ _
  refine wpAny_bind (m := truthy (.bool true)) (wpAny_pure ?_)
  refine wpAny_bind (wpAny_pure (wpAny_pure (wpAny_pure ?_)))
  repeat (any_goals (first | assumption | wp_step))
theorem issub_tup {h₀ : Heap} {L tp : Addr} {news : List (Addr × Obj)} {Q : Value → Shared → Prop} (N : News h₀ L s.heap news) (hm : (tp, tupO #[.type "str", .type "bytes"]) ∈ news) (h : Q (.bool true) s) :
    wpAny (model prog w) A (call (.builtin "issubclass") [.type "str", .ref tp]) Q E s :=
  call_issubclass (S := fun _ R s => s.heap.get? tp = some { cls := .type "tuple", data := .seq #[.type "str", .type "bytes"] } ∧ R (.ok (.ret (.bool true))) s)
    (fun _ _ _ _ _ hs => issubclass_outer (sub_tup_nested (cs := [.type "str", .type "bytes"]) hs.1 rfl hs.2)) ⟨N.get hm, h⟩
end
-- MACRO BEGIN
local macro_rules | `(tactic| walk_at "call builtin:issubclass") => `(tactic| (k_here; k_dflt (apply Mine.issub_tup; k_asm; k_mem; k_whole)))
-- MACRO END
theorem getsep_c (w : World) (news : List (Addr × Obj)) (x : Str) (t : Tok) : Ctr w 108 news [.str x t] 2 (fun v tl => tl = [] ∧ ∃ t', v = .str (Str.ofString "/") t') := by
  unfold Ctr
  k_fill
  rintro mean mg mb dp un gd cn cs a ccd cl outer A₀ base h₀ L m ⟨sh, sg, sd, sk, so⟩ Q E B F X N T hk hdp hun hret
  dsimp only at F N hret
  refine wpAny_call ?_
  k_dflt ktr_enter
  rename Fr _ _ _ _ => FE
  obtain ⟨mE, FE1⟩ := fr_split (x := Str.ofString "path") (v := .str x t) FE rfl
  clear FE
  refine letAE ?_
  intro e9 A9
  k_steps
  exact hret _ [] _ _ (by assumption) (by assumption) (fun _ _ _ h9 => nomatch h9) ⟨rfl, _, rfl⟩
theorem fspath_c (w : World) (news : List (Addr × Obj)) (x : Str) (t : Tok) : Ctr w 94 news [.str x t] 2 (fun v tl => tl = [] ∧ v = .str x t) := by
  unfold Ctr
  k_fill
  rintro mean mg mb dp un gd cn cs a ccd cl outer A₀ base h₀ L m ⟨sh, sg, sd, sk, so⟩ Q E B F X N T hk hdp hun hret
  dsimp only at F N hret
  refine wpAny_call ?_
  k_dflt ktr_enter
  rename Fr _ _ _ _ => FE
  obtain ⟨mE, FE1⟩ := fr_split (x := Str.ofString "path") (v := .str x t) FE rfl
  clear FE
  refine letAE ?_
  intro e9 A9
  k_steps
  exact hret _ [] _ _ (by assumption) (cb_drop (by assumption) (fun p hp => List.mem_cons_of_mem _ hp)) (fun _ _ _ h9 => nomatch h9) ⟨rfl, rfl⟩
theorem fspath_e (w : World) (news : List (Addr × Obj)) (x : Str) (t : Tok) : Ctr w 94 news [.str x t] 2 (fun v tl => tl = [] ∧ ∃ _ : Tok, v = .str x t) := (fspath_c w news x t).mono fun _ _ h => ⟨h.1, 0, h.2⟩
theorem off_p22 : True := by
  w_top off
  trivial
theorem truthy_s {prog : Program} {w : World} {A : Around} {E : Value → Shared → Prop} {s : Shared} {x : Str} {t : Tok} {Q : Bool → Shared → Prop} (hl : x.length ≤ 16777216) (h : ∀ tk, Q (decide (x.length ≠ 0)) { s with toks := tk }) : wpAny (model prog w) A (truthy (.str x t)) Q E s :=
  PySem.P.truthy_str (by omega) (by
    have e : ((x.length : Int) != 0) = decide (x.length ≠ 0) := by
      by_cases q : x.length = 0
      · simp [q]
      · rw [decide_eq_true q, bne_iff_ne]; omega
    rw [e]; exact h _)
-- MACRO BEGIN
set_option hygiene false in
local macro_rules | `(tactic| walk_at "call ref") => `(tactic| (have C9 := @Mine.getsep_c; walk_at "zE"))
set_option hygiene false in
local macro_rules | `(tactic| walk_at "call ref") => `(tactic| (have C9 := @Mine.fspath_e; walk_at "zE"))
local macro_rules | `(tactic| walk_at "truthy str") => `(tactic| (k_here; k_dflt (apply Mine.truthy_s; omega; k_whole); intro tk9))
-- MACRO END
theorem neverE {α : Type} {M : Model} {A : Around} {t : Sem α} {Q : α → Shared → Prop} {E : Value → Shared → Prop} {s : Shared} (h : wpAny M A t Q (fun _ _ => False) s) : wpAny M A t Q E s :=
  wpAny_mono h (fun _ _ h => h) fun _ _ h => h.elim
theorem splitroot_c (w : World) (news : List (Addr × Obj)) (x : Str) (t : Tok) (hx : x.length ≤ 900) (h1 : Txt.slice x none (some 1) = Str.ofString "/") (h2 : Txt.slice x (some 1) (some 2) ≠ Str.ofString "/") :
    Ctr w 122 news [.str x t] 12 (fun v tl => ∃ D t1 t2 t3, v = .ref D ∧ tl = [(D, tupO #[.str (Str.ofString "") t1, .str (Str.ofString "/") t2, .str (Txt.slice x (some 1) none) t3])]) := by
  unfold Ctr
  k_fill
  rintro mean mg mb dp un gd cn cs a ccd cl outer A₀ base h₀ L m ⟨sh, sg, sd, sk, so⟩ Q E B F X N T hk hdp hun hret
  dsimp only at F N hret
  refine wpAny_call ?_
  k_dflt ktr_enter
  rename Fr _ _ _ _ => FE
  obtain ⟨mE, FE1⟩ := fr_split (x := Str.ofString "p") (v := .str x t) FE rfl
  clear FE
  refine letAE ?_
  intro e9 A9
  k_steps
  · rename (Txt.slice x none (some 1) != _) = true => q
    rw [h1] at q
    exact absurd q (by decide +kernel)
  · exact hret _ [_] _ _ (by assumption) (by assumption) (fun q hq p hp => by
      rw [List.mem_singleton.mp hp]; exact (by assumption : ∀ p ∈ news, p.1 < _) q hq) ⟨_, _, _, _, rfl, rfl⟩
  · rename (Txt.slice x (some 1) (some 2) != _) = false => q
    exact absurd (by simpa using q) h2
  · rename (Txt.slice x (some 1) (some 2) != _) = false => q
    exact absurd (by simpa using q) h2
def dirS (x : Str) : Str :=
  let head := Txt.slice x none (some (Txt.rfind x (Str.ofString "/") + 1))
  if head.length ≠ 0 ∧ head ≠ Txt.mul (Str.ofString "/") (head.length : Nat) then Txt.rstripChars head (Str.ofString "/") else head
theorem dirname_c (w : World) (news : List (Addr × Obj)) (x : Str) (t : Tok) (hx : x.length ≤ 900) : Ctr w 129 news [.str x t] 12 (fun v tl => tl = [] ∧ ∃ t', v = .str (dirS x) t') := by
  unfold Ctr
  k_fill
  rintro mean mg mb dp un gd cn cs a ccd cl outer A₀ base h₀ L m ⟨sh, sg, sd, sk, so⟩ Q E B F X N T hk hdp hun hret
  dsimp only at F N hret
  refine wpAny_call ?_
  k_dflt ktr_enter
  rename Fr _ _ _ _ => FE
  obtain ⟨mE, FE1⟩ := fr_split (x := Str.ofString "p") (v := .str x t) FE rfl
  clear FE
  refine letAE ?_
  intro e9 A9
  k_steps
  · rename Str.length _ ≠ 0 => q1
    rename (_ != Txt.mul _ _) = true => q2
    refine hret _ [] _ _ (by assumption) (by assumption) (fun _ _ _ h9 => nomatch h9) ⟨rfl, _, congrArg (fun z => Value.str z _) ?_⟩
    rw [dirS]; rw [if_pos ⟨q1, by simpa using q2⟩]
  · rename Str.length _ ≠ 0 => q1
    rename (_ != Txt.mul _ _) = false => q2
    refine hret _ [] _ _ (by assumption) (by assumption) (fun _ _ _ h9 => nomatch h9) ⟨rfl, _, congrArg (fun z => Value.str z _) ?_⟩
    rw [dirS]; rw [if_neg (fun q => q.2 (by simpa using q2))]
  · rename ¬ (Str.length _ ≠ 0) => q1
    refine hret _ [] _ _ (by assumption) (by assumption) (fun _ _ _ h9 => nomatch h9) ⟨rfl, _, congrArg (fun z => Value.str z _) ?_⟩
    rw [dirS]; rw [if_neg (fun q => q1 q.1)]
def joinS (a b : Str) : Str := if Txt.startswith b (Str.ofString "/") = true ∨ a.length = 0 then b else if Txt.endswith a (Str.ofString "/") = true then a ++ b else a ++ (Str.ofString "/" ++ b)
section
local macro_rules | `(tactic| walk_at "exec For Name Name cons nil") => `(tactic| walk_at "zh")
local macro_rules | `(tactic| walk_at "pyIter ref") => `(tactic| with_reducible refine Mine.Hold.ofT ?_)
theorem join_c (w : World) (news : List (Addr × Obj)) (x y z : Str) (t u v : Tok) (hx : x.length ≤ 900) (hy : y.length ≤ 900) (hz : z.length ≤ 900) : Ctr w 115 news [.str x t, .str y u, .str z v] 12 (fun v tl => tl = [] ∧ ∃ t, v = .str (joinS (joinS x y) z) t) := by
  unfold Ctr
  k_fill
  rintro mean mg mb dp un gd cn cs a ccd cl outer A₀ base h₀ L m ⟨sh, sg, sd, sk, so⟩ Q E B F X N T hk hdp hun hret
  dsimp only at F N hret
  refine wpAny_call ?_
  k_dflt (refine' kp_rest ?k1 ?k2 ?k3 ?k4 ?k5 ?kA ?kF ?kK ?k6 ?k7 ?k8 ?kV ?kP ?kG ?kB ?_ ?c2 ?c3 ?c4 ?c5; (case kA => exact rfl); (case kF => exact rfl); (case kK => assumption); (case k1 => k_asm); (case k2 => k_asm); (case k3 => k_asm); (case k4 => k_asm); (case k5 => k_asm); (case k6 => k_is); (case k7 => k_is); (case k8 => ktr_room); (case kV => kl_lit); (case kP => exact rfl); (case kG => exact fun _ => rfl); (case kB => exact fun _ => locs rfl); (case c5 => decide); (case c2 => exact rfl); (case c3 => exact rfl); (case c4 => exact rfl); k_whole; intro D' g' L' h' l1 FG' F' N' B' X' T'; (try dsimp only); (try k_fold))
  have FE := F'
  clear F'
  obtain ⟨mE, F'⟩ := fr_ent2 (Str.ofString "a") (Str.ofString "p") (v := .str x t) (u := .ref D') FE rfl rfl
  clear FE
  refine letAE ?_
  intro e9 A9
  k_steps
  refine Hold.mk (neverE ?_)
  rename Fr g' L' _ _ => F1
  k_dflt (refine For_turns F1 ?_)
  k_steps
  rename News _ _ _ _ => N1
  refine Hold.mk (tup_inv (σ := Str × Tok) (fun _ => _) (fun c => [("path", .str c.1 c.2)]) (fun i c => c.1 = ([y, z].take i).foldl joinS x ∧ c.1.length ≤ 900 + 901 * i) (x, _) (vs := [.str y u, .str z v]) (by rfl) (fun _ => mem_head) F1 N1 (all1 rfl) ⟨rfl, hx⟩ ?_ ?_)
  · intro I i c u9 v9 it h tk hv hp hI off F9 N9
    obtain ⟨hp1, hp2⟩ := hp
    have hv' : ∃ b ub, v9 = .str b ub ∧ b.length ≤ 900 ∧ [y, z].take (i + 1) = [y, z].take i ++ [b] := by
      match i, hv with
      | 0, hv => exact ⟨y, u, (Option.some.inj hv).symm, hy, rfl⟩
      | 1, hv => exact ⟨z, v, (Option.some.inj hv).symm, hz, rfl⟩
    have hi9 : i < 2 := by
      match i, hv with
      | 0, _ => decide
      | 1, _ => decide
    obtain ⟨b9, ub, rfl, hb9, ht9⟩ := hv'
    have hstep : ([y, z].take (i + 1)).foldl joinS x = joinS c.1 b9 := by rw [ht9, List.foldl_append, ← hp1]; rfl
    have hsl : (Str.ofString "/").length = 1 := by decide +kernel
    refine letQ ?_
    intro Q9
    k_steps
    · rename Txt.startswith b9 _ = true => q1
      refine jl_fin (by assumption) (by assumption) (_, _) (all1 rfl) (fun _ h => h) off ⟨?_, ?_⟩ ?_
      · rw [hstep, joinS, if_pos (.inl q1)]
      · dsimp only; omega
      · intro z9 hz9 hn9
        have q1 := hn9 _ mem_head
        dsimp only at q1
        simp only [kstB, if_neg hz9, if_neg q1]
    · rename Txt.startswith b9 _ = false => q1
      rename Str.length _ ≠ 0 => q2
      rename Txt.endswith _ _ = true => q3
      refine jl_fin (by assumption) (by assumption) (_, _) (all1 rfl) (fun _ h => h) off ⟨?_, ?_⟩ ?_
      · rw [hstep, joinS, if_neg (by simp [q1, q2]), if_pos q3]
      · dsimp only; omega
      · intro z9 hz9 hn9
        have q1 := hn9 _ mem_head
        dsimp only at q1
        simp only [kstB, if_neg hz9, if_neg q1]
    · rename Txt.startswith b9 _ = false => q1
      rename Str.length _ ≠ 0 => q2
      rename Txt.endswith _ _ = false => q3
      refine jl_fin (by assumption) (by assumption) (_, _) (all1 rfl) (fun _ h => h) off ⟨?_, ?_⟩ ?_
      · rw [hstep, joinS, if_neg (by simp [q1, q2]), if_neg (by simp [q3])]
      · dsimp only; omega
      · intro z9 hz9 hn9
        have q1 := hn9 _ mem_head
        dsimp only at q1
        simp only [kstB, if_neg hz9, if_neg q1]
    · rename ¬ (Str.length _ ≠ 0) => q2
      refine jl_fin (by assumption) (by assumption) (_, _) (all1 rfl) (fun _ h => h) off ⟨?_, ?_⟩ ?_
      · rw [hstep, joinS, if_pos (.inr (by omega))]
      · dsimp only; omega
      · intro z9 hz9 hn9
        have q1 := hn9 _ mem_head
        dsimp only at q1
        simp only [kstB, if_neg hz9, if_neg q1]
  · intro c u9 h tk hp F9 N9
    k_steps
    exact hret _ [] _ _ (by assumption) (cb_drop (by assumption) (fun p hp => List.mem_cons_of_mem _ hp)) (fun _ _ _ h9 => nomatch h9) ⟨rfl, _, congrArg (fun z => Value.str z _) hp.1⟩
end
theorem off_p24 : True := by
  w_top off
  trivial
-- MACRO BEGIN
local macro_rules | `(tactic| walk_at "call ref") => `(tactic| (k_here; k_dflt (apply Mine.Ctr.useR; walk_at "z5"; (apply Mine.splitroot_c <;> walk_at "zC"); walk_at "zd"); intro D9 h9 tk9 l9 t91 t92 t93 F9 N9; walk_at "zt"))
-- MACRO END
section
variable {prog : Program} {w : World} {A : Around} {E : Value → Shared → Prop} {s : Shared} {h₀ : Heap} {L : Addr} {m : Str → Option Value} {news news' : List (Addr × Obj)}
theorem truthy_lst {c : Addr} {vs : List Value} {n : Nat} {Q : Bool → Shared → Prop} (N : News h₀ L s.heap news) (hm : (c, W.listOf vs.toArray n) ∈ news) (hz : vs.length < 2 ^ 62) (h : ∀ tk, Q (decide (vs.length ≠ 0)) { s with toks := tk }) :
    wpAny (model prog w) A (truthy (.ref c)) Q E s :=
  wpAny_truthy_list (N.isList hm) (by simp; omega) (by
    have e : (!vs.toArray.isEmpty) = decide (vs.length ≠ 0) := by cases vs <;> simp
    rw [e]; exact h _)
theorem last_lst {value slice : PySem.Expr} {c : Addr} {vs : List Value} {n : Nat} {u : Tok} {v : Value} {Q : Value → Shared → Prop} (N : News h₀ L s.heap news) (hm : (c, W.listOf vs.toArray n) ∈ news) (hx : vs.getLast? = some v) (hz : vs.length < 2 ^ 62) (h : Q v s)
    (hs : subscripted slice false (.ref c) (.int (-1) u) = operate [.ref c, .int (-1) u] (getItem (.ref c) (.int (-1) u)) := by with_unfolding_all rfl) :
    wpAny (model prog w) A (subscriptTail value slice (.ref c) (.int (-1) u)) Q E s := by
  have hne : 0 < vs.length := by
    cases vs with
    | nil => simp at hx
    | cons _ _ => simp
  refine kde_neg (N.isList hm) (by omega) (by omega) (j := vs.length - 1) ?_ ?_ h hs
  · unfold seqIndex?
    simp only [show (-1 : Int) < 0 by decide, if_true]
    rw [if_pos (by simp only [Bool.and_eq_true, decide_eq_true_eq]; omega)]
    congr 1
    omega
  · rw [← List.getLast?_eq_getElem?]; exact hx
theorem pop_lst {c : Addr} {vs : List Value} {n : Nat} {Q : Value → Shared → Prop} (F : Fr h₀ L s.heap m) (N : News h₀ L s.heap news) (hne : vs ≠ []) (U : Upd c (W.listOf vs.toArray n) (W.listOf vs.dropLast.toArray (n + 1)) news news') (hz : vs.length ≤ 1000)
    (h : ∀ v h', Fr h₀ L h' m → News h₀ L h' news' → Q v { s with heap := h' }) : wpAny (model prog w) A (call (.builtin "list.pop") [.ref c]) Q E s := by
  have e : kl_last vs = some (vs.dropLast, vs.getLast hne) := by
    have := kpa_last (vs.getLast hne) vs.dropLast
    rw [List.dropLast_concat_getLast] at this
    exact this
  exact kl_pop F N (by simpa using e) U (by rw [sizeLine_eq]; simp; omega) (fun h' F' N' => h _ h' F' N')
end
theorem allLt_mem {d : Nat} : ∀ {l : List (Addr × Obj)}, AllLt d l → ∀ p ∈ l, @LT.lt Nat _ p.1 d
  | [], _, _, h => nomatch h
  | _ :: _, x, p, h => by
    rcases List.mem_cons.mp h with rfl | h
    · exact x.1
    · exact allLt_mem x.2 p h
theorem strs_last {vs : List Value} {ss : List Str} (h : StrsAre vs ss) (hn : vs.length ≠ 0) : ∃ z tz, ss.getLast? = some z ∧ vs.getLast? = some (.str z tz) := by
  have hl := h.length
  have hs : ss.length - 1 < ss.length := by omega
  obtain ⟨tz, e⟩ := h.get (ss.length - 1) ss[ss.length - 1] (by simp [hs])
  exact ⟨ss[ss.length - 1], tz, by rw [List.getLast?_eq_getElem?]; simp [hs], by rw [List.getLast?_eq_getElem?, hl]; exact e⟩
theorem strs_dropLast {vs : List Value} {ss : List Str} (h : StrsAre vs ss) : StrsAre vs.dropLast ss.dropLast := by
  rw [List.dropLast_eq_take, List.dropLast_eq_take, h.length]; exact h.take' _
structure NS where
  ss : List Str
  vs : List Value
  k : Nat
def normStep (acc : List Str) (c : Str) : List Str :=
  if c.length = 0 ∨ c = Str.ofString "." then acc else if c ≠ Str.ofString ".." ∨ acc.getLast? = some (Str.ofString "..") then acc ++ [c] else acc.dropLast
theorem normStep_mem {acc : List Str} {c a : Str} (h : a ∈ normStep acc c) : a ∈ acc ∨ a = c := by
  unfold normStep at h
  split at h
  · exact .inl h
  · split at h
    · rcases List.mem_append.mp h with h | h
      · exact .inl h
      · exact .inr (List.mem_singleton.mp h)
    · exact .inl (List.dropLast_subset _ h)
theorem normF_mem : ∀ (l acc : List Str) (a : Str), a ∈ l.foldl normStep acc → a ∈ acc ∨ a ∈ l
  | [], _, _, h => .inl h
  | c :: l, acc, a, h => by
    rcases normF_mem l (normStep acc c) a h with h | h
    · rcases normStep_mem h with h | h
      · exact .inl h
      · exact .inr (h ▸ List.mem_cons_self)
    · exact .inr (List.mem_cons_of_mem _ h)
theorem join_le (sep : Str) : ∀ l : List Str, (Str.join sep l).length ≤ (l.map (·.length)).sum + l.length * sep.length
  | [] => Nat.zero_le _
  | [a] => by simp [Str.join]
  | a :: b :: l => by
    have ih := join_le sep (b :: l)
    show (a ++ sep ++ Str.join sep (b :: l)).length ≤ _
    rw [Str.length_append, Str.length_append]
    simp only [List.map_cons, List.sum_cons, List.length_cons, Nat.add_mul, Nat.one_mul] at ih ⊢
    omega
theorem sum_le {l : List Str} {k : Nat} (h : ∀ a ∈ l, a.length ≤ k) : (l.map (·.length)).sum ≤ l.length * k := by
  induction l with
  | nil => simp
  | cons c l ih =>
    have h1 := h c List.mem_cons_self
    have h2 := ih fun a ha => h a (List.mem_cons_of_mem _ ha)
    simp only [List.map_cons, List.sum_cons, List.length_cons, Nat.add_mul, Nat.one_mul]
    omega
-- MACRO BEGIN
local macro_rules | `(tactic| walk_at "truthy ref") => `(tactic| (k_here; k_dflt (apply Mine.truthy_lst; walk_at "z3"); intro tk9))
local macro_rules | `(tactic| walk_at "call builtin:list.append") => `(tactic| (k_here; k_dflt (apply append_K; k_asm; k_asm; k_upd; (rotate_left; simp only [List.size_toArray]; rw [sizeLine_eq]; first | (apply Mine.le16; assumption) | omega); k_whole); intro h' F' N'; (try simp only [List.push_toArray] at N'); try k_sweep))
-- MACRO END
section
local macro_rules
  | `(tactic| walk_at "exec For Name Name cons nil") => `(tactic| walk_at "zh")
  | `(tactic| walk_at "call builtin:list.pop") => `(tactic| walk_at "zh")
  | `(tactic| walk_at "subscriptTail Name UnaryOp ref int") => `(tactic| walk_at "zh")
  | `(tactic| walk_at "call builtin:str.join") => `(tactic| walk_at "zh")
theorem normpath_c (w : World) (news : List (Addr × Obj)) (x : Str) (t : Tok) (hx : x.length ≤ 900) (h0 : x.length ≠ 0) (h1 : Txt.slice x none (some 1) = Str.ofString "/") (h2 : Txt.slice x (some 1) (some 2) ≠ Str.ofString "/") (h3 : (Txt.split (Txt.slice x (some 1) none) (Str.ofString "/")).length ≤ 900) :
    Ctr w 136 news [.str x t] 20 (fun v tl => tl = [] ∧ ∃ t', v = .str (Str.ofString "/" ++ Str.join (Str.ofString "/") ((Txt.split (Txt.slice x (some 1) none) (Str.ofString "/")).foldl normStep [])) t') := by
  unfold Ctr
  k_fill
  rintro mean mg mb dp un gd cn cs a ccd cl outer A₀ base h₀ L m ⟨sh, sg, sd, sk, so⟩ Q E B F X N T hk hdp hun hret
  dsimp only at F N hret
  refine wpAny_call ?_
  k_dflt ktr_enter
  rename Fr _ _ _ _ => FE
  obtain ⟨mE, FE1⟩ := fr_split (x := Str.ofString "path") (v := .str x t) FE rfl
  clear FE
  refine letAE ?_
  intro e9 A9
  k_steps
  refine Hold.mk ?_
  rename Fr _ _ _ _ => F1
  rename News _ _ _ _ => N1
  rename StrsAre _ _ => hS
  rename List (Str × Tok) => l
  rename (List.map _ _ = Txt.split _ _) => hsp
  rw [hsp] at hS
  have hlenS := hS.length
  rename (∀ a ∈ List.map _ _, _) => hlens
  rw [hsp] at hlens
  k_dflt (refine For_invVF F1 (by rfl) (by rfl) ?_)
  k_steps
  rename (_ < _ ∧ _) => l1
  have hLow : Low news _ := fun p hp => allLt_mem l1.2.2 p hp
  refine Hold.mk (list_inv (σ := NS) (vs := strValues l) (k := 0) (fun c => (_, W.listOf c.vs.toArray c.k) :: _) (fun c => []) (fun i c => StrsAre c.vs c.ss ∧ c.ss = ((Txt.split (Txt.slice x (some 1) none) (Str.ofString "/")).take i).foldl normStep [] ∧ c.ss.length ≤ i) ⟨[], [], 0⟩ (by rfl) (fun _ => List.mem_cons_of_mem _ mem_head) F1 N1 (List.forall_mem_nil _) ⟨StrsAre.nil, rfl, Nat.le_refl _⟩ ?_ ?_)
  · intro I i c v it h tk hv hp hI off F9 N9
    obtain ⟨hp1, hp2, hp3⟩ := hp
    have hlen9 := hp1.length
    obtain ⟨y, ty, rfl, hy⟩ := StrsAre.item hS i v hv
    have hyl := hlens y (List.mem_of_getElem? hy)
    have hi9 : i < (Txt.split (Txt.slice x (some 1) none) (Str.ofString "/")).length := (List.getElem?_eq_some_iff.mp hy).1
    have hIn : @Ne Nat _ I := off _ mem_head
    have hst : ∀ q, ((Txt.split (Txt.slice x (some 1) none) (Str.ofString "/")).take (i + 1)).foldl normStep [] = q ↔ normStep c.ss y = q := fun q => by
      rw [List.take_add_one, hy, List.foldl_append, ← hp2]; rfl
    refine letQ ?_
    intro Q9
    k_steps
    · rename (y == Str.ofString ".") = true => q
      refine jl_fin (by assumption) (by assumption) c (List.forall_mem_nil _) (fun _ h => h) off ⟨hp1, ((hst _).mpr (by rw [normStep, if_pos (.inr (by simpa using q))])).symm, by omega⟩ ?_
      intro z9 hz9 _
      simp only [kstB, if_neg hz9]
    · rename (y == Str.ofString ".") = false => q
      rename (y != Str.ofString "..") = true => q2
      have hyn : ¬ (y.length = 0 ∨ y = Str.ofString ".") := by
        rintro (e | e)
        · omega
        · rw [e] at q; simp at q
      refine jl_fin (by assumption) (by assumption) ⟨c.ss ++ [y], c.vs ++ [.str y ty], c.k + 1⟩ (List.forall_mem_nil _) (fun _ h => h) (fun p hp => (List.mem_cons.mp hp).elim (fun e => e ▸ hIn) (fun hp => off p (List.mem_cons_of_mem _ hp))) ⟨hp1.append' (StrsAre.cons _ _ StrsAre.nil), ((hst _).mpr (by rw [normStep, if_neg hyn, if_pos (.inl (by simpa using q2))])).symm, by dsimp only; rw [List.length_append]; simp; omega⟩ ?_
      intro z9 hz9 _
      simp only [kstB, if_neg hz9]
    · rename List.length c.vs ≠ 0 => hne
      rename (y == Str.ofString ".") = false => q
      rename (y != Str.ofString "..") = false => q2
      have hyn : ¬ (y.length = 0 ∨ y = Str.ofString ".") := by
        rintro (e | e)
        · omega
        · rw [e] at q; simp at q
      obtain ⟨z, tz, hz1, hz2⟩ := strs_last hp1 hne
      refine Hold.mk (last_lst (by assumption) (by k_mem) hz2 (by omega) ?_)
      k_steps
      · rename (z == Str.ofString "..") = true => q3
        have hin : y ≠ Str.ofString ".." ∨ c.ss.getLast? = some (Str.ofString "..") := .inr (by rw [hz1]; exact congrArg some (by simpa using q3))
        refine jl_fin (by assumption) (by assumption) ⟨c.ss ++ [y], c.vs ++ [.str y ty], c.k + 1⟩ (List.forall_mem_nil _) (fun _ h => h) (fun p hp => (List.mem_cons.mp hp).elim (fun e => e ▸ hIn) (fun hp => off p (List.mem_cons_of_mem _ hp))) ⟨hp1.append' (StrsAre.cons _ _ StrsAre.nil), ((hst _).mpr (by rw [normStep, if_neg hyn, if_pos hin])).symm, by dsimp only; rw [List.length_append]; simp; omega⟩ ?_
        intro z9 hz9 _
        simp only [kstB, if_neg hz9]
      · rename (z == Str.ofString "..") = false => q3
        have hin : ¬ (y ≠ Str.ofString ".." ∨ c.ss.getLast? = some (Str.ofString "..")) := by
          rintro (e | e)
          · exact e (by simpa using q2)
          · rw [hz1] at e; rw [Option.some.inj e] at q3; simp at q3
        refine Hold.mk ?_
        dsimp only
        rename News _ _ _ _ => N8
        refine' pop_lst (vs := c.vs) (n := c.k) (by assumption) N8 (fun e => hne (by rw [e]; rfl)) ?U (by omega) ?_
        (case U => k_upd)
        intro v8 h8 F8 N8
        k_steps
        refine jl_fin (by assumption) (by assumption) ⟨c.ss.dropLast, c.vs.dropLast, c.k + 1⟩ (List.forall_mem_nil _) (fun _ h => h) (fun p hp => (List.mem_cons.mp hp).elim (fun e => e ▸ hIn) (fun hp => off p (List.mem_cons_of_mem _ hp))) ⟨strs_dropLast hp1, ((hst _).mpr (by rw [normStep, if_neg hyn, if_neg hin])).symm, by dsimp only; rw [List.length_dropLast]; omega⟩ ?_
        intro z9 hz9 _
        simp only [kstB, if_neg hz9]
    · rename ¬ (List.length c.vs ≠ 0) => hne
      rename (y == Str.ofString ".") = false => q
      rename (y != Str.ofString "..") = false => q2
      have hyn : ¬ (y.length = 0 ∨ y = Str.ofString ".") := by
        rintro (e | e)
        · omega
        · rw [e] at q; simp at q
      have hnil : c.ss = [] := List.eq_nil_of_length_eq_zero (by omega)
      have hin : ¬ (y ≠ Str.ofString ".." ∨ c.ss.getLast? = some (Str.ofString "..")) := by
        rintro (e | e)
        · exact e (by simpa using q2)
        · rw [hnil] at e; cases e
      refine jl_fin (by assumption) (by assumption) c (List.forall_mem_nil _) (fun _ h => h) off ⟨hp1, ((hst _).mpr (by rw [normStep, if_neg hyn, if_neg hin, hnil]; rfl)).symm, by omega⟩ ?_
      intro z9 hz9 _
      simp only [kstB, if_neg hz9]
    · rename ((y.length : Int) = 0) => q
      refine jl_fin (by assumption) (by assumption) c (List.forall_mem_nil _) (fun _ h => h) off ⟨hp1, ((hst _).mpr (by rw [normStep, if_pos (.inl (by omega))])).symm, by omega⟩ ?_
      intro z9 hz9 _
      simp only [kstB, if_neg hz9]
  · intro c u9 h tk hp F9 N9
    obtain ⟨hp1, hp2, hp3⟩ := hp
    have hlen9 := hp1.length
    rw [hlenS] at hp2 hp3
    rw [List.take_length] at hp2
    have hmem : ∀ a ∈ c.ss, a.length ≤ 900 := fun a ha => by
      rw [hp2] at ha
      rcases normF_mem _ _ _ ha with h | h
      · cases h
      · have := hlens a h
        have := Txt.slice_le x (some 1) none
        omega
    have hsum := sum_le hmem
    have hmul : c.ss.length * 900 ≤ 900 * 900 := Nat.mul_le_mul_right _ (by omega)
    have hjl := join_le (Str.ofString "/") c.ss
    have hje : Txt.join (Str.ofString "/") c.ss = Str.join (Str.ofString "/") c.ss := PySem.StrLaws.glued_eq_join _ _
    rw [← hje] at hjl
    have hsl : (Str.ofString "/").length = 1 := by decide +kernel
    rw [hsl, Nat.mul_one] at hjl
    k_steps
    refine Hold.mk (join_listC (News.isList (by assumption) mem_head) (by simpa using hp1) (by decide +kernel) (by omega) ?_)
    intro t8 k8
    k_steps
    refine hret _ [] _ _ (by assumption) (cb_drop (by assumption) (fun p hp => List.mem_cons_of_mem _ (List.mem_cons_of_mem _ (List.mem_cons_of_mem _ hp)))) (fun _ _ _ h9 => nomatch h9) ⟨rfl, _, congrArg (fun z => Value.str z _) ?_⟩
    rw [hje, hp2]
end
theorem off_p25 : True := by
  w_top off
  trivial
theorem mro_map : mroOf (.type "map") = pure [.type "map", .type "object"] := by rw [mroOf_type]; kernel_rfl
theorem lookup_map_new : typeLookup (.type "map") "__new__" = pure (some (.builtin "map.__new__")) := by rw [typeLookup_type, builtinLookup_eq_fast]; kernel_rfl
theorem slot_map_init : Slot "map" "__init__" "object.__init__" :=
  .of (owner := "object") (n := "__init__") (by rw [typeLookup_type, builtinLookup_eq_fast]; kernel_rfl) (by decide +kernel) (by decide +kernel) (by decide +kernel)
    (by first | exact .inl (by decide +kernel) | exact .inr (by decide +kernel)) (by rw [isSubtype_type]; kernel_rfl)
theorem slot_map_iter : Slot "map" "__iter__" "map.__iter__" :=
  .of (owner := "map") (n := "__iter__") (by rw [typeLookup_type, builtinLookup_eq_fast]; kernel_rfl) (by decide +kernel) (by decide +kernel) (by decide +kernel)
    (by first | exact .inl (by decide +kernel) | exact .inr (by decide +kernel)) (by rw [isSubtype_type]; kernel_rfl)
theorem slot_map_next : Slot "map" "__next__" "map.__next__" :=
  .of (owner := "map") (n := "__next__") (by rw [typeLookup_type, builtinLookup_eq_fast]; kernel_rfl) (by decide +kernel) (by decide +kernel) (by decide +kernel)
    (by first | exact .inl (by decide +kernel) | exact .inr (by decide +kernel)) (by rw [isSubtype_type]; kernel_rfl)
theorem called_map : TypeCalled "map" "map.__new__" "object.__init__" :=
  ⟨by decide +kernel, by decide +kernel, ⟨_, _, mro_map⟩, madeBy_type mro_map lookup_map_new (by decide +kernel), by decide +kernel, by rw [isSubtype_type]; kernel_rfl, slot_map_init⟩
theorem typeCall_map_2 (a b : Value) : checkTypeCall "map" ⟨[a, b], []⟩ = pure () := by kernel_rfl
theorem newCall_map_2 (a b : Value) : checkBuiltinCall "map.__new__" ⟨[.type "map", a, b], []⟩ = pure () := by kernel_rfl
theorem entry_map_new : entryFor table "map.__new__" = some Builtin.«map.__new__» := entryFor_of_tree (by kernel_rfl)
theorem entry_map_next : entryFor table "map.__next__" = some Builtin.«map.__next__» := entryFor_of_tree (by kernel_rfl)
theorem entry_map_iter : entryFor table "map.__iter__" = some Builtin.«dict_keyiterator.__iter__» :=
  entryFor_alias (id' := "dict_keyiterator.__iter__") (by kernel_rfl) (by first | rfl | decide +kernel | (unfold String.splitOn; simp +decide [String.splitOnAux])) (by decide +kernel) (by kernel_rfl)
theorem args_map_next (a : Value) : argsOk "map.__next__" ⟨[a], []⟩ := by unfold argsOk; kernel_rfl
theorem args_map_iter (a : Value) : argsOk "map.__iter__" ⟨[a], []⟩ := by unfold argsOk; kernel_rfl
theorem nolen_map : typeLookup (.type "map") "__len__" = pure none := by rw [typeLookup_type, builtinLookup_eq_fast]; kernel_rfl
theorem nohint_map : typeLookup (.type "map") "__length_hint__" = pure none := by rw [typeLookup_type, builtinLookup_eq_fast]; kernel_rfl
theorem sub_map : isSubtype (.type "map") (.type "map") = pure true := by rw [isSubtype_type]; kernel_rfl
abbrev mapO (T : Addr) (f : Value) : Obj := { cls := .type "map", data := .fields #[.ref T, f] }
abbrev litO (l : Addr) : Obj := { cls := .type "list_iterator", data := .fields #[.ref l, .int 0 0] }
abbrev mapH1 (h : Heap) (l : Addr) : Heap := h.push (litO l)
abbrev mapH2 (h : Heap) (l : Addr) : Heap := (mapH1 h l).push (tupO #[.ref h.objs.size])
abbrev mapH3 (h : Heap) (l : Addr) (f : Value) : Heap := (mapH2 h l).push (mapO (mapH1 h l).objs.size f)
theorem meets_map_new (f : Value) (l : Addr) (xs : Array Value) :
    Meets (Builtin.«map.__new__» ⟨[.type "map", f, .ref l], []⟩) (fun _ R s => s.heap.IsList l xs ∧ R (.ok (.ret (.ref (mapH2 s.heap l).objs.size))) { s with heap := mapH3 s.heap l f }) :=
  .of_wp fun prog w A R s h => by
    obtain ⟨hp, g, d, tk, os⟩ := s; obtain ⟨hl1, h⟩ := h
    have hsub := sub_map
    have hL1 : Heap.IsList (Shared.heap ⟨hp, g, d, tk, os⟩) l xs := hl1
    wp_walk using wpAny_pyIter_list hL1
    exact ⟨_, rfl, h⟩
theorem off_p25b : True := by
  w_top off
  trivial
/-- The iterator of a list, at a place. -/
def ItO (o : Obj) (l : Addr) (i : Nat) : Prop := o.cls = .type "list_iterator" ∧ o.data = .fields #[.ref l, .int i 0]
section
variable {prog : Program} {w : World} {A : Around} {E : Value → Shared → Prop} {s : Shared} {h₀ : Heap} {L : Addr} {m : Str → Option Value} {news : List (Addr × Obj)}
theorem call_map {f : Value} {l : Addr} {vs : Array Value} {k : Nat} {Q : Value → Shared → Prop} (F : Fr h₀ L s.heap m) (N : News h₀ L s.heap news) (hm : (l, W.listOf vs k) ∈ news)
    (h : ∀ M T I h', Fr h₀ L h' m → News h₀ L h' ((M, mapO T f) :: (T, tupO #[.ref I]) :: (I, litO l) :: news) → (∀ p ∈ news, @LT.lt Nat _ p.1 I) → @LT.lt Nat _ I T → @LT.lt Nat _ T M → Q (.ref M) { s with heap := h' }) :
    wpAny (model prog w) A (call (.type "map") [f, .ref l]) Q E s := by
  refine callType_new called_map (by decide) (typeCall_map_2 _ _) (newCall_map_2 _ _) (fun obj => PySem.F.args_object_init_3 obj _ _) entry_map_new (meets_map_new f l vs) ⟨N.isList hm, ?_⟩
  have z1 : (mapH1 s.heap l).objs.size = s.heap.objs.size + 1 := Heap.size_push ..
  have z2 : (mapH2 s.heap l).objs.size = s.heap.objs.size + 2 := by rw [Heap.size_push, z1]
  have g3 : (mapH3 s.heap l f).get? (mapH2 s.heap l).objs.size = some _ := Heap.get?_push_size _ rfl
  have g2 : (mapH3 s.heap l f).get? (mapH1 s.heap l).objs.size = some _ := Heap.get?_push_of_some _ (Heap.get?_push_size _ rfl)
  have g1 : (mapH3 s.heap l f).get? s.heap.objs.size = some _ := Heap.get?_push_of_some _ (Heap.get?_push_of_some _ (Heap.get?_push_size _ rfl))
  have up : ∀ b o, s.heap.get? b = some o → (mapH3 s.heap l f).get? b = some o := fun b o e => Heap.get?_push_of_some _ (Heap.get?_push_of_some _ (Heap.get?_push_of_some _ e))
  have hLlt : L < s.heap.objs.size := F.ns.lt
  have new : ∀ a, s.heap.objs.size ≤ a → a ≠ L ∧ h₀.get? a = none := fun a ha =>
    ⟨Nat.ne_of_gt (Nat.lt_of_lt_of_le hLlt ha), Heap.get?_none_of_le (Nat.le_trans (Nat.le_trans F.above (Nat.le_of_lt hLlt)) ha)⟩
  show _ ∧ _
  refine ⟨⟨_, g3, rfl⟩, h (mapH2 s.heap l).objs.size (mapH1 s.heap l).objs.size s.heap.objs.size (mapH3 s.heap l f) (F.keeps up) (fun p hp => ?_) (fun p hp => Heap.lt_size (N p hp).1) ?_ ?_⟩
  · rcases List.mem_cons.mp hp with rfl | hp
    · exact ⟨g3, new _ (by rw [z2]; exact Nat.le_add_right _ _)⟩
    · rcases List.mem_cons.mp hp with rfl | hp
      · exact ⟨g2, new _ (by rw [z1]; exact Nat.le_add_right _ _)⟩
      · rcases List.mem_cons.mp hp with rfl | hp
        · exact ⟨g1, new _ (Nat.le_refl _)⟩
        · exact N.grown up p hp
  · rw [z1]; exact Nat.lt_succ_self _
  · rw [z1, z2]; exact Nat.lt_succ_self _
theorem map_next {f v : Value} {M T I l : Addr} {oI : Obj} {i k : Nat} {vs : Array Value} {Q : Option Value → Shared → Prop} (F : Fr h₀ L s.heap m) (N : News h₀ L s.heap ((M, mapO T f) :: (T, tupO #[.ref I]) :: (I, oI) :: news)) (hI : ItO oI l i) (hm : (l, W.listOf vs k) ∈ news)
    (off : ∀ p ∈ news, p.1 ≠ I) (o1 : M ≠ I) (o2 : T ≠ I) (hv : vs[i]? = some v)
    (h : ∀ h' oI', Fr h₀ L h' m → News h₀ L h' ((M, mapO T f) :: (T, tupO #[.ref I]) :: (I, oI') :: news) → ItO oI' l (i + 1) → wpAny (model prog w) A.in1 (call f [v]) (fun r s' => Q (some r) s') E { s with heap := h' })
    (hE : ∀ e s', E e s' → False) :
    wpAny (model prog w) A (pyNext (.ref M)) Q E s := by
  have nM := N _ mem_head
  have nT := N _ (List.mem_cons_of_mem _ mem_head)
  have nI := N _ (List.mem_cons_of_mem _ (List.mem_cons_of_mem _ mem_head))
  have Nn : News h₀ L s.heap news := fun p hp => N p (List.mem_cons_of_mem _ (List.mem_cons_of_mem _ (List.mem_cons_of_mem _ hp)))
  have hT : s.TypeIs (.ref M) "map" := ⟨_, nM.1, rfl⟩
  unfold pyNext
  refine wpAny_bind (wpAny_attempt (wpAny_callSpecial?_slot (name := Str.ofString "__next__") hT slot_map_next
    (wpAny_call_entry slot_map_next hT entry_map_next ?_ (args_map_next _))))
  show wpAny _ _ (field (.ref M) 0 >>= _) _ _ _
  refine wpAny_bind (wpAny_field nM.1 rfl (x := .ref T) rfl ?_)
  refine wpAny_bind (wpAny_seqItems nT.1 rfl ?_)
  refine wpAny_bind (wpAny_arrayLoop ?_)
  simp only [List.forIn_cons, List.forIn_nil]
  refine wpAny_bind (wpAny_bind (wpAny_holding (wpAny_nextOf_list_item ⟨oI, nI.1, hI.1, hI.2⟩ (News.isList Nn hm) hv fun h₂ h1₂ hs₂ => ?_)))
  refine wpAny_pure (wpAny_pure ?_)
  obtain ⟨oI', e1, e2, e3⟩ := h1₂
  have F₂ : Fr h₀ L h₂ m := F.change hs₂ nI.2.1 nI.2.2
  have N₂ : News h₀ L h₂ ((M, mapO T f) :: (T, tupO #[.ref I]) :: (I, oI') :: news) := fun p hp => by
    rcases List.mem_cons.mp hp with rfl | hp
    · exact ⟨hs₂.extBut _ _ o1 nM.1, nM.2⟩
    · rcases List.mem_cons.mp hp with rfl | hp
      · exact ⟨hs₂.extBut _ _ o2 nT.1, nT.2⟩
      · rcases List.mem_cons.mp hp with rfl | hp
        · exact ⟨e1, nI.2⟩
        · exact ⟨hs₂.extBut _ _ (off p hp) (Nn p hp).1, (Nn p hp).2⟩
  refine wpAny_bind (wpAny_field (N₂ _ mem_head).1 rfl (x := f) rfl ?_)
  refine wpAny_bind (wpAny_holding (wpAny_mono (h h₂ oI' F₂ N₂ ⟨e2, e3⟩) (fun r s' hq => ?_) fun e s' he => (hE e s' he).elim))
  exact wpAny_bind (wpAny_letGo (wpAny_pure ⟨_, rfl, wpAny_pure hq⟩))
theorem map_done {f : Value} {M T I l : Addr} {oI : Obj} {i k : Nat} {vs : Array Value} {Q : Option Value → Shared → Prop} (hh : A.handled = none) (F : Fr h₀ L s.heap m) (N : News h₀ L s.heap ((M, mapO T f) :: (T, tupO #[.ref I]) :: (I, oI) :: news)) (hI : ItO oI l i) (hm : (l, W.listOf vs k) ∈ news)
    (off : ∀ p ∈ news, p.1 ≠ I) (hv : vs[i]? = none)
    (h : ∀ h', Fr h₀ L h' m → News h₀ L h' news → Q none { s with heap := h' }) :
    wpAny (model prog w) A (pyNext (.ref M)) Q E s := by
  have nM := N _ mem_head
  have nT := N _ (List.mem_cons_of_mem _ mem_head)
  have nI := N _ (List.mem_cons_of_mem _ (List.mem_cons_of_mem _ mem_head))
  have Nn : News h₀ L s.heap news := fun p hp => N p (List.mem_cons_of_mem _ (List.mem_cons_of_mem _ (List.mem_cons_of_mem _ hp)))
  have hT : s.TypeIs (.ref M) "map" := ⟨_, nM.1, rfl⟩
  unfold pyNext
  refine wpAny_bind (wpAny_attempt (wpAny_callSpecial?_slot (name := Str.ofString "__next__") hT slot_map_next
    (wpAny_call_entry slot_map_next hT entry_map_next ?_ (args_map_next _))))
  show wpAny _ _ (field (.ref M) 0 >>= _) _ _ _
  refine wpAny_bind (wpAny_field nM.1 rfl (x := .ref T) rfl ?_)
  refine wpAny_bind (wpAny_seqItems nT.1 rfl ?_)
  refine wpAny_bind (wpAny_arrayLoop ?_)
  simp only [List.forIn_cons, List.forIn_nil]
  refine wpAny_bind (wpAny_bind (wpAny_holding (wpAny_nextOf_list_end hh ⟨oI, nI.1, hI.1, hI.2⟩ (News.isList Nn hm) hv fun h₂ e hs₂ he => ?_)))
  obtain ⟨o, ho, hc⟩ := he
  refine wpAny_bind (wpAny_isInstance (T := "StopIteration") (b := true) ⟨o, ho, hc⟩ isSubtype_stop ?_)
  refine wpAny_pure (h h₂ ⟨F.ns.at' fun o e => hs₂ _ _ (Ne.symm nI.2.1) e, fun b o e => hs₂ _ _ (fun q => by rw [q, nI.2.2] at e; cases e) (F.keep b o e), F.above⟩ fun p hp => ⟨hs₂ _ _ (off p hp) (Nn p hp).1, (Nn p hp).2⟩)
end
section
variable {prog : Program} {w : World} {A : Around} {E : Value → Shared → Prop} {s : Shared} {h₀ : Heap} {L : Addr} {m : Str → Option Value} {news : List (Addr × Obj)}
theorem pyIter_map {M T : Addr} {f : Value} {Q : Value → Shared → Prop} (hz : s.heap.get? M = some (mapO T f)) (h : Q (.ref M) s) : wpAny (model prog w) A (pyIter (.ref M)) Q E s := by
  have hT : s.TypeIs (.ref M) "map" := ⟨_, hz, rfl⟩
  refine wpAny_pyIter_slot hT slot_map_iter (wpAny_call_entry slot_map_iter hT entry_map_iter ?_ (args_map_iter _))
  show wpAny _ _ (ret (.ref M)) _ _ s
  exact wpAny_pure ⟨_, rfl, "map", _, hT, slot_map_next.lookup, h⟩
/-- What a call of the mapped function does to an item, whatever stands behind. -/
def MapCall (prog : Program) (w : World) (A : Around) (h₀ : Heap) (L : Addr) (m : Str → Option Value) (s : Shared) (f : Value) (vs : Array Value) : Prop :=
  ∀ (v : Value) (led : List (Addr × Obj)) (h : Heap) (tk : Nat) (Q : Value → Shared → Prop), v ∈ vs → Fr h₀ L h m → News h₀ L h led → (∀ h' tk', Fr h₀ L h' m → News h₀ L h' led → Q v { s with heap := h', toks := tk' }) → wpAny (model prog w) A (call f [v]) Q (fun _ _ => False) { s with heap := h, toks := tk }
theorem extend_map {f : Value} {M T I l S : Addr} {k : Nat} {vs : Array Value} {res : Value} {R : Result → Shared → Prop} (hh : A.handled = none) (hm : (l, W.listOf vs k) ∈ news) (off : ∀ p ∈ news, p.1 ≠ I) (o1 : M ≠ I) (o2 : T ≠ I) (o3 : S ≠ I) (o4 : S ≠ M) (o5 : S ≠ T) (offS : ∀ p ∈ news, p.1 ≠ S) (hz : vs.size ≤ 1000)
    (C : MapCall prog w A.in1.in1 h₀ L m s f vs)
    (h : ∀ h' tk' c', Fr h₀ L h' m → News h₀ L h' ((S, W.listOf vs c') :: news) → R (.ok (.ret res)) { s with heap := h', toks := tk' }) :
    ∀ (r i : Nat) (hp : Heap) (tk c : Nat) (oI : Obj), i + r = vs.size → ItO oI l i → Fr h₀ L hp m → News h₀ L hp ((M, mapO T f) :: (T, tupO #[.ref I]) :: (I, oI) :: (S, W.listOf (vs.take i) c) :: news) →
      codeAny (model prog w) A (.builtin "list.extend.loop" ⟨[.ref S, .ref M, res], []⟩) R { s with heap := hp, toks := tk } := by
  intro r
  induction r with
  | zero =>
    intro i hp tk c oI hi hI F N
    refine codeAny_builtin PySem.F.entry_extend_loop ?_
    rw [Around.under_plainId PySem.F.plain_extend_loop _]
    show wpAny _ A.in1 (pyNext (.ref M) >>= _) _ _ _
    refine wpAny_bind (map_done (news := (S, W.listOf (vs.take i) c) :: news) hh F N hI (List.mem_cons_of_mem _ hm) (fun p hp => ?_) (by rw [Array.getElem?_eq_none]; omega) fun h' F' N' => ?_)
    · rcases List.mem_cons.mp hp with rfl | hp
      · exact o3
      · exact off p hp
    · have e : vs.take i = vs := by rw [show i = vs.size by omega]; simp
      rw [e] at N'
      exact wpAny_pure (h h' _ c F' N')
  | succ r ih =>
    intro i hp tk c oI hi hI F N
    have hlt : i < vs.size := by omega
    refine codeAny_builtin PySem.F.entry_extend_loop ?_
    rw [Around.under_plainId PySem.F.plain_extend_loop _]
    show wpAny _ A.in1 (pyNext (.ref M) >>= _) _ _ _
    have hv : vs[i]? = some vs[i] := by simp [hlt]
    refine wpAny_bind (neverE (map_next (news := (S, W.listOf (vs.take i) c) :: news) F N hI (List.mem_cons_of_mem _ hm) (fun p hp => ?_) o1 o2 hv (fun h₂ oI' F₂ N₂ hI' => ?_) fun _ _ e => e))
    · rcases List.mem_cons.mp hp with rfl | hp
      · exact o3
      · exact off p hp
    · refine C vs[i] _ h₂ tk _ (by simp) F₂ N₂ fun h₃ tk₃ F₃ N₃ => ?_
      have nS := N₃ (S, W.listOf (vs.take i) c) (List.mem_cons_of_mem _ (List.mem_cons_of_mem _ (List.mem_cons_of_mem _ mem_head)))
      show wpAny _ A.in1 (updateSeq S (·.push vs[i]) >>= _) _ _ _
      refine wpAny_bind ?_
      have es : vs.take (i + 1) = (vs.take i).push vs[i] := by
        apply Array.ext'
        simp [List.take_add_one, hlt]
      obtain ⟨c2, hc2⟩ : ∃ c2, (h₃.update S (Obj.mapSeq (·.push vs[i]))).get? S = some (W.listOf ((vs.take i).push vs[i]) c2) := ⟨_, get?_update_seq nS.1 (·.push vs[i])⟩
      refine wpAny_updateSeq nS.1 rfl (wpAny_pure ⟨plainId_quiet PySem.F.plain_extend_loop _, ih (i + 1) _ tk₃ c2 oI' (by omega) hI' (F₃.change (Heap.SameBut.update ..) nS.2.1 nS.2.2) fun p hp => ?_⟩) (by rw [sizeLine_eq]; simp; omega) (by rw [sizeLine_eq]; simp; omega)
      have sb := Heap.SameBut.update h₃ S (Obj.mapSeq (·.push vs[i]))
      rcases List.mem_cons.mp hp with rfl | hp
      · have z := N₃ _ mem_head
        exact ⟨sb.extBut _ _ o4.symm z.1, z.2⟩
      · rcases List.mem_cons.mp hp with rfl | hp
        · have z := N₃ _ (List.mem_cons_of_mem _ mem_head)
          exact ⟨sb.extBut _ _ o5.symm z.1, z.2⟩
        · rcases List.mem_cons.mp hp with rfl | hp
          · have z := N₃ _ (List.mem_cons_of_mem _ (List.mem_cons_of_mem _ mem_head))
            exact ⟨sb.extBut _ _ o3.symm z.1, z.2⟩
          · rcases List.mem_cons.mp hp with rfl | hp
            · rw [es]
              exact ⟨hc2, nS.2⟩
            · have z := N₃ p (List.mem_cons_of_mem _ (List.mem_cons_of_mem _ (List.mem_cons_of_mem _ (List.mem_cons_of_mem _ hp))))
              exact ⟨sb.extBut _ _ (offS p hp) z.1, z.2⟩
end
theorem off_p25c : True := by
  w_top off
  trivial
theorem plain_tuple_new' : plainId "tuple.__new__" = true := by decide +kernel
theorem entry_tuple_new' : entryFor table "tuple.__new__" = some Builtin.«tuple.__new__» := entryFor_of_tree (by kernel_rfl)
theorem newCall_tuple_1' (a : Value) : checkBuiltinCall "tuple.__new__" ⟨[.type "tuple", a], []⟩ = pure () := by kernel_rfl
section
variable {prog : Program} {w : World} {A : Around} {E : Value → Shared → Prop} {s : Shared} {h₀ : Heap} {L : Addr} {m : Str → Option Value} {news : List (Addr × Obj)}
theorem collect_map {f : Value} {M T I l : Addr} {k : Nat} {vs : Array Value} {Q : List Value → Shared → Prop} (hh : A.handled = none) (F : Fr h₀ L s.heap m) (N : News h₀ L s.heap ((M, mapO T f) :: (T, tupO #[.ref I]) :: (I, litO l) :: news)) (hm : (l, W.listOf vs k) ∈ news)
    (off : ∀ p ∈ news, p.1 ≠ I) (o1 : M ≠ I) (o2 : T ≠ I) (hz : vs.size ≤ 1000) (C : MapCall prog w A.in1.in1 h₀ L m s f vs)
    (h : ∀ h' tk', Fr h₀ L h' m → News h₀ L h' news → Q vs.toList { s with heap := h', toks := tk' }) :
    wpAny (model prog w) A (collect (.ref M)) Q E s := by
  have nM := N _ mem_head
  have lt : ∀ p ∈ ((M, mapO T f) :: (T, tupO #[.ref I]) :: (I, litO l) :: news), @LT.lt Nat _ p.1 s.heap.objs.size := fun p hp => Heap.lt_size (N p hp).1
  have gM : ∀ h' : Heap, (∀ b o, s.heap.get? b = some o → h'.get? b = some o) → h'.get? M = some (mapO T f) := fun h' hk => hk _ _ nM.1
  unfold collect
  refine wpAny_bind (wpAny_runValue (codeAny_builtin PySem.F.entry_proto_collect ?_))
  rw [Around.under_plainId PySem.F.plain_proto_collect _]
  show wpAny _ A.in1 (newList [] >>= fun l => again (.builtin "list.__iadd__" ⟨[l, .ref M], []⟩)) _ _ s
  refine wpAny_bind (wpAny_newObj_type ?_)
  refine wpAny_pure ⟨plainId_quiet PySem.F.plain_list_iadd _, codeAny_builtin PySem.F.entry_list_iadd ?_⟩
  rw [Around.under_plainId PySem.F.plain_list_iadd _]
  show wpAny _ A.in1 (Builtin.List.listExtendWith (.ref s.heap.objs.size) (.ref M) (.ref s.heap.objs.size)) _ _ _
  have up1 : ∀ b o, s.heap.get? b = some o → (s.heap.push { cls := .type "list", data := .seq ([] : List Value).toArray }).get? b = some o := fun b o e => Heap.get?_push_of_some _ e
  have gM1 := gM _ up1
  have hT : Shared.TypeIs { s with heap := s.heap.push { cls := .type "list", data := .seq ([] : List Value).toArray } } (.ref M) "map" := ⟨_, gM1, rfl⟩
  unfold Builtin.List.listExtendWith
  refine wpAny_bind (wpAny_typeOf hT ?_)
  have hSM : s.heap.objs.size ≠ M := fun e => Nat.lt_irrefl _ (e ▸ lt _ mem_head : @LT.lt Nat _ M M)
  have h1 : Builtin.List.listSameRef (.ref s.heap.objs.size) (.ref M) = false := by simp [Builtin.List.listSameRef, hSM]
  have h2 : (Value.type "map" == Value.type "list") = false := by decide
  have h3 : (Value.type "map" == Value.type "tuple") = false := by decide
  simp only [h1, h2, h3, Bool.or_false, Bool.false_eq_true, if_false]
  refine wpAny_bind (pyIter_map gM1 ?_)
  refine wpAny_bind (wpAny_holding ?_)
  unfold Builtin.List.listLengthHint
  refine wpAny_bind (wpAny_specialOf hT nolen_map ?_)
  show wpAny _ A.in1 (specialOf (Value.ref M) (Str.ofString "__length_hint__") >>= _) _ _ _
  refine wpAny_bind (wpAny_specialOf hT nohint_map ?_)
  refine wpAny_pure ?_
  show wpAny _ A.in1 (rule "list.extend.makes-room" >>= fun _ => Builtin.List.listTouch (.ref s.heap.objs.size) >>= fun _ =>
    again (.builtin "list.extend.loop" ⟨[.ref s.heap.objs.size, .ref M, .ref s.heap.objs.size], []⟩)) _ _ _
  refine wpAny_bind (wpAny_rule ?_)
  have hS₁ : (s.heap.push { cls := .type "list", data := .seq ([] : List Value).toArray }).get? s.heap.objs.size = some { cls := .type "list", data := .seq ([] : List Value).toArray } := Heap.get?_push_size _ rfl
  refine wpAny_bind ?_
  show wpAny _ A.in1 (updateSeq s.heap.objs.size (·.push .none) >>= fun _ => updateSeq s.heap.objs.size (·.pop)) _ _ _
  refine wpAny_bind (wpAny_updateSeq hS₁ rfl ?_)
  have hS₂ := Heap.get?_update_self (Obj.mapSeq (·.push Value.none)) hS₁ rfl
  refine wpAny_updateSeq hS₂ rfl ?_
  have hS₃ := Heap.get?_update_self (Obj.mapSeq (·.pop)) hS₂ rfl
  obtain ⟨c3, hc3⟩ : ∃ c3, (((s.heap.push { cls := .type "list", data := .seq ([] : List Value).toArray }).update s.heap.objs.size (Obj.mapSeq (·.push Value.none))).update s.heap.objs.size (Obj.mapSeq (·.pop))).get? s.heap.objs.size = some (W.listOf #[] c3) := ⟨_, hS₃⟩
  have up : ∀ b o, s.heap.get? b = some o →
      (((s.heap.push { cls := .type "list", data := .seq ([] : List Value).toArray }).update s.heap.objs.size (Obj.mapSeq (·.push Value.none))).update s.heap.objs.size (Obj.mapSeq (·.pop))).get? b = some o :=
    fun b o e => (Heap.get?_update_other _ _ (Nat.ne_of_gt (Heap.lt_size e))).trans ((Heap.get?_update_other _ _ (Nat.ne_of_gt (Heap.lt_size e))).trans (up1 b o e))
  have hLlt : L < s.heap.objs.size := F.ns.lt
  have newS : s.heap.objs.size ≠ L ∧ h₀.get? s.heap.objs.size = none :=
    ⟨Nat.ne_of_gt hLlt, Heap.get?_none_of_le (Nat.le_trans F.above (Nat.le_of_lt hLlt))⟩
  have N' := N.grown up
  refine wpAny_pure ⟨plainId_quiet PySem.F.plain_extend_loop _, extend_map (news := news) (S := s.heap.objs.size) (k := k) (l := l) (T := T) (I := I) hh hm off o1 o2 (fun e => Nat.lt_irrefl _ (e ▸ lt _ (List.mem_cons_of_mem _ (List.mem_cons_of_mem _ mem_head)) : @LT.lt Nat _ I I)) hSM (fun e => Nat.lt_irrefl _ (e ▸ lt _ (List.mem_cons_of_mem _ mem_head) : @LT.lt Nat _ T T)) (fun p hp e => Nat.lt_irrefl _ (e ▸ lt p (List.mem_cons_of_mem _ (List.mem_cons_of_mem _ (List.mem_cons_of_mem _ hp))) : @LT.lt Nat _ p.1 p.1)) hz C ?_ vs.size 0 _ _ c3 (litO l) (Nat.zero_add _) ⟨rfl, rfl⟩ (F.keeps up) ?_⟩
  · intro h' tk' c' F' N''
    show wpAny _ A (load s.heap.objs.size >>= _) _ _ _
    refine wpAny_bind (wpAny_load (N'' _ mem_head).1 ?_)
    exact wpAny_pure (h h' tk' F' fun p hp => N'' p (List.mem_cons_of_mem _ hp))
  · intro p hp
    rcases List.mem_cons.mp hp with rfl | hp
    · exact N' _ mem_head
    · rcases List.mem_cons.mp hp with rfl | hp
      · exact N' _ (List.mem_cons_of_mem _ mem_head)
      · rcases List.mem_cons.mp hp with rfl | hp
        · exact N' _ (List.mem_cons_of_mem _ (List.mem_cons_of_mem _ mem_head))
        · rcases List.mem_cons.mp hp with rfl | hp
          · refine ⟨?_, newS⟩
            simpa using hc3
          · exact N' p (List.mem_cons_of_mem _ (List.mem_cons_of_mem _ (List.mem_cons_of_mem _ hp)))
theorem code_tuple_map {f : Value} {M T I l : Addr} {k : Nat} {vs : Array Value} {Q₁ : Value → Shared → Prop} (hh : A.handled = none) (F : Fr h₀ L s.heap m) (N : News h₀ L s.heap ((M, mapO T f) :: (T, tupO #[.ref I]) :: (I, litO l) :: news)) (hm : (l, W.listOf vs k) ∈ news)
    (off : ∀ p ∈ news, p.1 ≠ I) (o1 : M ≠ I) (o2 : T ≠ I) (hz : vs.size ≤ 1000) (C : MapCall prog w A.in1.in1.in1 h₀ L m s f vs)
    (h : ∀ D h' tk', Fr h₀ L h' m → News h₀ L h' ((D, tupO vs) :: news) → (∀ p ∈ news, @LT.lt Nat _ p.1 D) → Q₁ (.ref D) { s with heap := h', toks := tk' }) :
    codeAny (model prog w) A (.call (.builtin "tuple.__new__") ⟨[.type "tuple", .ref M], []⟩) (wants Q₁ E) s := by
  refine codeAny_of_tree ?_
  show wpAny _ A.in1 (do checkBuiltinCall "tuple.__new__" ⟨[.type "tuple", .ref M], []⟩; again (.builtin "tuple.__new__" ⟨[.type "tuple", .ref M], []⟩)) _ _ s
  refine wpAny_bind (wpAny_of_eq (newCall_tuple_1' _) (wpAny_pure ⟨plainId_quiet plain_tuple_new' _, codeAny_builtin entry_tuple_new' ?_⟩))
  rw [Around.under_plainId plain_tuple_new' _]
  have hsub := sub_tuple_self
  have hinit := init_tuple_lookup
  have hmh := madeHere_tuple
  have hTI : s.TypeIs (.ref M) "map" := ⟨_, (N _ mem_head).1, rfl⟩
  have hcol : ∀ {Q : List Value → Shared → Prop} {E : Value → Shared → Prop}, (∀ h' tk', Fr h₀ L h' m → News h₀ L h' news → Q vs.toList { s with heap := h', toks := tk' }) → wpAny (model prog w) A.in1 (collect (.ref M)) Q E s :=
    fun hq => collect_map (A := A.in1) hh F N hm off o1 o2 hz C hq
  wp_walk using wpAny_typeOf hTI, hcol
  intro h' tk' F' N'
  show wpAny _ _ (Builtin.Tuple.tupleExact vs.toList.toArray >>= fun v => ret v) _ _ _
  unfold Builtin.Tuple.tupleExact
  refine wpAny_bind (wpAny_newObj_type ?_ (by show vs.toList.toArray.size ≤ sizeLine; rw [sizeLine_eq]; simp; omega))
  refine wpAny_pure ?_
  have e : vs.toList.toArray = vs := by simp
  rw [e]
  have up : ∀ b o, h'.get? b = some o → (h'.push (tupO vs)).get? b = some o := fun b o e => Heap.get?_push_of_some _ e
  have hLlt : L < h'.objs.size := F'.ns.lt
  refine h _ (h'.push (tupO vs)) _ (F'.keeps up) (fun p hp => ?_) fun p hp => Heap.lt_size (N' p hp).1
  rcases List.mem_cons.mp hp with rfl | hp
  · exact ⟨Heap.get?_push_size _ rfl, Nat.ne_of_gt hLlt, Heap.get?_none_of_le (Nat.le_trans F'.above (Nat.le_of_lt hLlt))⟩
  · exact N'.grown up p hp
theorem call_tuple_map {f : Value} {M T I l : Addr} {k : Nat} {vs : Array Value} {Q : Value → Shared → Prop} (hh : A.handled = none) (F : Fr h₀ L s.heap m) (N : News h₀ L s.heap ((M, mapO T f) :: (T, tupO #[.ref I]) :: (I, litO l) :: news)) (hm : (l, W.listOf vs k) ∈ news)
    (off : ∀ p ∈ news, p.1 ≠ I) (o1 : M ≠ I) (o2 : T ≠ I) (hz : vs.size ≤ 1000) (C : MapCall prog w A.in1.in1.in1.in1 h₀ L m s f vs)
    (h : ∀ D h' tk', Fr h₀ L h' m → News h₀ L h' ((D, tupO vs) :: news) → (∀ p ∈ news, @LT.lt Nat _ p.1 D) → Q (.ref D) { s with heap := h', toks := tk' }) :
    wpAny (model prog w) A (call (.type "tuple") [.ref M]) Q E s := by
  refine callType_codes (Q₁ := fun obj s₁ => s₁.TypeIs obj "tuple" ∧ Q obj s₁) PySem.F.called_tuple (PySem.F.typeCall_tuple_1 _) PySem.F.entry_object_init
    (code_tuple_map hh F N hm off o1 o2 hz C fun D h' tk' F' N' l' => ⟨⟨_, (N' _ mem_head).1, rfl⟩, h D h' tk' F' N' l'⟩) fun obj s₁ h₁ => ?_
  exact ⟨h₁.1, PySem.F.args_object_init_2 obj _, object_init_meets PySem.F.called_tuple.init.lookup PySem.F.called_tuple.made (by decide) prog w A.in1 _ s₁ ⟨h₁.1, rfl, h₁.2⟩⟩
end
theorem off_p25d : True := by
  w_top off
  trivial
section
variable {prog : Program} {w : World} {A : Around} {E : Value → Shared → Prop} {s : Shared} {h₀ : Heap} {L : Addr} {m : Str → Option Value} {env : Env} {news : List (Addr × Obj)}
theorem tup_st {ax I : Addr} {its : Array Value} : ∀ i (h h' : Heap) (o : Obj) (nw : List (Addr × Obj)), (h.IsTupleIter I ax i ∧ h.IsTuple ax its) → h.get? I = some o → h'.get? I = some o → (∀ b o, h₀.get? b = some o → h'.get? b = some o) → News h₀ L h' nw → (ax, tupO its) ∈ nw → (h'.IsTupleIter I ax i ∧ h'.IsTuple ax its) :=
  fun i h h' o nw st e e' k N S => ⟨by obtain ⟨o', q, r⟩ := st.1; rw [e] at q; cases q; exact ⟨o, e', r⟩, ⟨_, (N _ S).1, rfl, _, rfl⟩⟩
def TupSrcL (prog : Program) (w : World) (A : Around) (h₀ : Heap) (L : Addr) (m : Str → Option Value) (env : Env) (elt : PySem.Expr) (x : Str) (scope : Scope) (cl : List (Str × Addr)) (y : Str) (Q : Flow → Shared → Prop) (xv : Value) (s₁ : Shared) : Prop :=
  ∃ ax its news, xv = .ref ax ∧ A.handled = none ∧ Fr h₀ L s₁.heap m ∧ News h₀ L s₁.heap news ∧ (ax, tupO its) ∈ news ∧ its.size ≤ sizeLine ∧
      ∀ s₂ : Shared, (∃ h, s₂ = { s₁ with heap := h }) → LCg.CompRest prog w A h₀ L m env elt x scope cl s₂ (fun nw => (ax, tupO its) ∈ nw) (fun i v => its[i]? = some v) (LCg.FinA h₀ L m s₂ y Q) its.size 0 [] news
/-- A comprehension without tests over a tuple of the ledger; its value goes to a name of the frame. -/
theorem Assign_ListComp_Tup {elt iter : PySem.Expr} {x y : Str} {px py : Pos} {scope : Scope} {cl : List (Str × Addr)} {pos spos : Pos} {Q : Flow → Shared → Prop} (F₀ : Fr h₀ L s.heap m) (hLe : env.locals = L)
    (hsw : swapsWith (.ListComp elt [⟨.Name x px, iter, [], 0⟩] scope pos) (some (.Name y py)) spos.line env = pure true)
    (hclos : closureFor scope env = pure cl) (hcell : ∀ z ∈ scope.names, z.2 ≠ .cell) (hkind : scope.kind = .function)
    (hnames : ∀ z ∈ scope.names, z.2 = .local → scope.names.lookup z.1 = some .local) (hx : scope.names.lookup x = some .local)
    (hy : env.kindOf y = some .local) (hp : (env.scope.kind == .class || (env.scope.kind == .module && env.locals != env.globals)) = false)
    (h : wpAny (model prog w) A (eval iter env) (TupSrcL prog w A h₀ L m env elt x scope cl y Q) E s)
    (hs : ∀ x, foldedSetIterable iter env x = pure x := by intro _; rfl) :
    wpAny (model prog w) A (exec (.Assign [.Name y py] (.ListComp elt [⟨.Name x px, iter, [], 0⟩] scope pos) spos) env) Q E s := by
  subst hLe
  rw [exec_Assign_Name_used _ _ _ _ hsw]
  refine wpAny_bind (wpAny_standAt (wpAny_bind ?_))
  show wpAny _ A (do let _ ← comprehension (.ListComp elt [⟨.Name x px, iter, [], 0⟩] scope pos) scope env _ (newList []) false (eval iter env) (some (assign (.Name y py) env))) _ _ s
  refine wpAny_bind (wpAny_mono (wpAny_comprehension_free (use := some (assign (.Name y py) env)) (Q := fun _ s' => Q .next s') rfl hs hclos hkind hnames
    (wpAny_mono h (fun xv s₁ h₁ => ?_) fun _ _ e => e)) (fun _ s' hq => wpAny_pure (wpAny_pure hq)) fun _ _ e => e)
  obtain ⟨ax, its, news, rfl, hh, F, N, hm, hsz, R⟩ := h₁
  have hl : s₁.heap.IsTuple ax its := ⟨_, (N _ hm).1, rfl, _, rfl⟩
  have hlt : ax < s₁.heap.objs.size := Heap.lt_size (N _ hm).1
  refine wpAny_pyIter_tuple hl ?_
  have up : ∀ b o, s₁.heap.get? b = some o → (s₁.heap.push { cls := .type "tuple_iterator", data := .fields #[.ref ax, .int 0 0] }).get? b = some o := fun b o e => Heap.get?_push_of_some _ e
  have hl' : (s₁.heap.push { cls := .type "tuple_iterator", data := .fields #[.ref ax, .int 0 0] }).IsTuple ax its := ⟨_, up _ _ (N _ hm).1, rfl, _, rfl⟩
  refine LCg.block_U (Walks.tuple hh s₁.heap.objs.size ax (Nat.ne_of_lt hlt) its) hsz (fun i h st => by obtain ⟨o, e, _⟩ := st.1; exact ⟨o, e⟩) tup_st hcell hkind hx ⟨⟨_, Heap.get?_push_size _ rfl, rfl, rfl⟩, hl'⟩ (fun b hb => ?_)
    (F.keeps up) (N.grown up) (Nat.ne_of_lt F.ns.lt) (next_is_new F) (fun p hp => Nat.ne_of_lt (Heap.lt_size (N p hp).1)) hm (R _ ⟨_, rfl⟩) ?_
  · show b < (s₁.heap.push _).objs.size
    rw [Heap.size_push]
    rcases List.mem_cons.mp hb with rfl | hb
    · exact Nat.lt_succ_self _
    · rw [List.mem_singleton.mp hb]; exact Nat.lt_succ_of_lt hlt
  · intro D C h' tk m' ys news' F' N' o1 hn hC₀ hD₀ hCL hDL hCD offC fin
    show wpAny _ A (assign (.Name y py) env (.ref D)) _ _ _
    refine wpAny_assign_Name (wpAny_storeName_local hy F'.ns (fun h₂ hn₂ hs₂ => ?_) hp)
    have hL₀ : h₀.get? env.locals = none := Heap.get?_none_of_le F'.above
    have F₂ : Fr h₀ env.locals h₂ (fun z => if z = y then some (.ref D) else m z) := ⟨hn₂, fun b o e => hs₂.extBut b o (fun q => by rw [q, hL₀] at e; cases e) (F'.keep b o e), F'.above⟩
    refine ⟨m', hn.sameBut hs₂ hCL, fun h'' hs'' => fin D h'' _ (F₂.change hs'' hCL hC₀) (fun p hp => ?_) o1⟩
    have z : h₂.get? p.1 = some p.2 := hs₂.extBut _ _ (N' p hp).2.1 (N' p hp).1
    refine ⟨hs''.extBut _ _ ?_ z, (N' p hp).2⟩
    rcases List.mem_cons.mp hp with rfl | hp
    · exact Ne.symm hCD
    · exact offC p hp
end
theorem off_p25e : True := by
  w_top off
  trivial
theorem slot_bool_hash' : Slot "bool" "__hash__" "int.__hash__" :=
  .of (owner := "int") (n := "__hash__") (by rw [typeLookup_type, builtinLookup_eq_fast]; kernel_rfl) (by decide +kernel) (by decide +kernel) (by decide +kernel)
    (by first | exact .inl (by decide +kernel) | exact .inr (by decide +kernel)) (by rw [isSubtype_type]; kernel_rfl)
theorem slot_set_iter' : Slot "set" "__iter__" "set.__iter__" :=
  .of (owner := "set") (n := "__iter__") (by rw [typeLookup_type, builtinLookup_eq_fast]; kernel_rfl) (by decide +kernel) (by decide +kernel) (by decide +kernel)
    (by first | exact .inl (by decide +kernel) | exact .inr (by decide +kernel)) (by rw [isSubtype_type]; kernel_rfl)
theorem slot_setit_next : Slot "set_iterator" "__next__" "set_iterator.__next__" :=
  .of (owner := "set_iterator") (n := "__next__") (by rw [typeLookup_type, builtinLookup_eq_fast]; kernel_rfl) (by decide +kernel) (by decide +kernel) (by decide +kernel)
    (by first | exact .inl (by decide +kernel) | exact .inr (by decide +kernel)) (by rw [isSubtype_type]; kernel_rfl)
theorem entry_set_iter' : entryFor table "set.__iter__" = some Builtin.«frozenset.__iter__» :=
  entryFor_alias (id' := "frozenset.__iter__") (by kernel_rfl) (by first | rfl | decide +kernel | (unfold String.splitOn; simp +decide [String.splitOnAux])) (by decide +kernel) (by kernel_rfl)
theorem entry_setit_next : entryFor table "set_iterator.__next__" = some Builtin.«set_iterator.__next__» := entryFor_of_tree (by kernel_rfl)
theorem args_set_iter' (a : Value) : argsOk "set.__iter__" ⟨[a], []⟩ := by unfold argsOk; kernel_rfl
theorem args_setit_next (a : Value) : argsOk "set_iterator.__next__" ⟨[a], []⟩ := by unfold argsOk; kernel_rfl
theorem entry_int_hash' : entryFor table "int.__hash__" = some Builtin.«int.__hash__» := entryFor_of_tree (by kernel_rfl)
theorem args_int_hash' (a : Value) : argsOk "int.__hash__" ⟨[a], []⟩ := by unfold argsOk; kernel_rfl
abbrev setO (es : Array (Int × Value)) (ep : Nat) (t : SetTable) : Obj := { cls := .type "set", data := .set es ep t }
def setT (led : Bool) : SetTable := { mask := 7, place := #[1], dummies := #[], finger := 0, led := led, moves := 0, plain := true }
def byText (w : World) : Bool := w.params.followText "set-order"
section
variable {prog : Program} {w : World} {A : Around} {E : Value → Shared → Prop} {s : Shared}
theorem pyHash_true {Q : Int → Shared → Prop} (h : ∀ tk, Q 1 { s with toks := tk }) : wpAny (model prog w) A (pyHash (.bool true)) Q E s := by
  have hT : s.TypeIs (.bool true) "bool" := rfl
  unfold pyHash
  show wpAny _ _ (pyHashByItsType (.bool true)) _ _ _
  unfold pyHashByItsType
  have hv : [Value.bool true].any Value.onHeap = false := rfl
  refine wpAny_bind ?_
  rw [cRoomFor, if_neg (by rw [hv]; exact Bool.false_ne_true)]; refine wpAny_pure ?_
  refine wpAny_bind (wpAny_specialOf hT slot_bool_hash'.lookup ?_)
  show wpAny _ _ (if (some (Value.builtin "int.__hash__") == some Value.none) = true then _ else _) Q E s
  rw [if_neg (by rw [beq_builtin_none]; exact Bool.false_ne_true)]
  refine wpAny_bind (wpAny_specialOf hT slot_bool_hash'.lookup ?_)
  show wpAny _ _ (callSpecialIfBoundUnlessNone? (.bool true) "__hash__" _ >>= _) Q E s
  refine wpAny_bind (wpAny_callSpecialIfBoundUnlessNone?_slot hT slot_bool_hash'
    (wpAny_call_entry slot_bool_hash' hT entry_int_hash'
      (show wpAny _ _ (do ret (← mkInt 1)) _ _ s from wpAny_ret_mkInt ?_) (args_int_hash' _)))
  exact wpAny_pure (h _)
theorem eqBool_true {Q : Bool → Shared → Prop} (h : Q true s) : wpAny (model prog w) A (eqBool (.bool true) (.bool true)) Q E s := by
  unfold eqBool
  refine wpAny_holding ?_
  rw [if_pos (by rfl)]
  exact wpAny_bind (wpAny_rule (wpAny_pure h))
theorem lay_true (led : Bool) : layNew (.fresh 0 0 led) #[] 1 (.bool true) = (#[(1, .bool true)], setT led, false, false) := by cases led <;> decide +kernel
theorem setT_fits (led : Bool) : (setT led).fits 1 = true := by cases led <;> rfl
theorem setT_full (led : Bool) : (setT led).tooFull = false := by cases led <;> decide +kernel
theorem put_set {h : Heap} {a : Addr} {es es' : Array (Int × Value)} {ep : Nat} {t t' : SetTable} (ho : h.get? a = some (setO es ep t)) : (h.update a (Obj.putSet es' t')).get? a = some (setO es' (ep + 1) t') := by
  have e := putSet_of (o := setO es ep t) es' t' rfl
  have := Heap.get?_update_self (Obj.putSet es' t') ho (by rw [e]; rfl)
  rw [e] at this; exact this
theorem add_core {D : Addr} {es : Array (Int × Value)} {ep : Nat} {t : SetTable} {Q : Value → Shared → Prop} (hD : s.heap.get? D = some (setO es ep t))
    (h : ∀ tk, wpAny (model prog w) A.in1 (setAddHashed D (.bool true) 1) (fun _ s' => Q .none s') E { s with toks := tk }) :
    wpAny (model prog w) A (call (.builtin "set.add") [.ref D, .bool true]) Q E s := by
  have hT : s.TypeIs (.ref D) "set" := ⟨_, hD, rfl⟩
  refine wpAny_call_entry PySem.F.slot_set_add hT PySem.F.entry_set_add ?_ (PySem.F.args_set_add_2 _ _)
  unfold Builtin.«set.add» Builtin.Frozenset.oneOther
  simp only [List.isEmpty_nil, bind_assoc]
  unfold Builtin.Frozenset.addrOf setAdd
  refine wpAny_bind (wpAny_pure ?_)
  try dsimp only
  refine wpAny_bind (wpAny_pure ?_)
  try dsimp only
  refine wpAny_bind ?_
  refine wpAny_holding ?_
  refine wpAny_bind (pyHash_true fun tk => ?_)
  refine wpAny_mono (h tk) (fun _ s' hq => ?_) fun _ _ e => e
  show wpAny _ _ (ret Value.none) _ _ _
  exact wpAny_pure ⟨_, rfl, hq⟩
theorem add_first {D : Addr} {led : Bool} {Q : Value → Shared → Prop} (hD : s.heap.get? D = some (setO #[] 0 (.fresh 0 0 led)))
    (h : ∀ h' tk, Heap.SameBut D s.heap h' → h'.get? D = some (setO #[(1, .bool true)] 1 (setT led)) → Q .none { s with heap := h', toks := tk }) :
    wpAny (model prog w) A (call (.builtin "set.add") [.ref D, .bool true]) Q E s := by
  refine add_core hD fun tk => ?_
  have hD' : Heap.get? (Shared.heap { s with toks := tk }) D = some (setO #[] 0 (.fresh 0 0 led)) := hD
  unfold setAddHashed setAddHashedIn
  refine wpAny_holding (wpAny_bind (wpAny_setState_of hD' rfl (by rfl) ?_))
  dsimp only
  rw [show byScan (.bool true) #[] = true by decide +kernel]
  simp only [if_true]
  unfold setAddByScan
  refine wpAny_bind ?_
  refine wpAny_bind (wpAny_rule ?_)
  refine wpAny_bind ?_
  show wpAny _ _ (pure ScanMet.absent) _ _ _
  refine wpAny_pure ?_
  dsimp only
  rw [lay_true]
  dsimp only
  refine wpAny_bind (wpAny_pure ?_)
  rw [if_pos (by cases led <;> rfl)]
  refine wpAny_bind ?_
  show wpAny _ _ (pure true) _ _ _
  refine wpAny_pure ?_
  simp only [if_true]
  refine wpAny_bind (wpAny_storeSet_of hD' rfl ?_ (by show 1 ≤ sizeLine; decide))
  rw [setT_full]
  simp only [Bool.not_false, Bool.and_false, Bool.false_eq_true, if_false]
  refine wpAny_pure (wpAny_pure (h _ _ (Heap.SameBut.update ..) (put_set hD')))
theorem add_again {D : Addr} {led : Bool} {Q : Value → Shared → Prop} (hD : s.heap.get? D = some (setO #[(1, .bool true)] 1 (setT led)))
    (h : ∀ tk, Q .none { s with toks := tk }) :
    wpAny (model prog w) A (call (.builtin "set.add") [.ref D, .bool true]) Q E s := by
  refine add_core hD fun tk => ?_
  have hD' : Heap.get? (Shared.heap { s with toks := tk }) D = some (setO #[(1, .bool true)] 1 (setT led)) := hD
  unfold setAddHashed setAddHashedIn
  refine wpAny_holding (wpAny_bind (wpAny_setState_of hD' rfl (setT_fits led) ?_))
  dsimp only
  rw [show byScan (.bool true) #[(1, .bool true)] = true by decide +kernel]
  simp only [if_true]
  unfold setAddByScan
  refine wpAny_bind ?_
  refine wpAny_bind (wpAny_rule ?_)
  refine wpAny_bind ?_
  show wpAny _ _ (setScanFrom D (.bool true) 1 true [(1, .bool true)] 0) _ _ _
  unfold setScanFrom
  rw [if_pos (by rfl)]
  refine wpAny_bind (wpAny_setEpoch_of hD' rfl (setT_fits led) ?_)
  refine wpAny_bind (eqBool_true ?_)
  simp only [Bool.and_self, if_true]
  refine wpAny_pure (wpAny_pure (wpAny_pure (h _)))
end
theorem off_p25f : True := by
  w_top off
  trivial
abbrev sitO (D : Addr) (slot i : Nat) : Obj := { cls := .type "set_iterator", data := .fields #[.int slot 0, .int i 0, .ref D, .int 1 0, .int 1 0] }
theorem pick_one {α : Type} (next : Nat → Nat) (x : α) : pickOrder next #[x] = #[x] := by
  simp [pickOrder, pickOrder.go, Nat.mod_one]
section
variable {prog : Program} {w : World} {A : Around} {E : Value → Shared → Prop} {s : Shared}
theorem setNext_0 {D : Addr} {Q : Option (Value × Nat) → Shared → Prop} (hD : s.heap.get? D = some (setO #[(1, .bool true)] 1 (setT (!byText w)))) (h : ∀ nx, (byText w = false → nx = 2) → Q (some (.bool true, nx)) s) :
    wpAny (model prog w) A (setNext D 0 0 1) Q E s := by
  unfold setNext
  refine wpAny_bind (wpAny_setState_of hD rfl (setT_fits _) ?_)
  dsimp only
  unfold setsByText
  refine wpAny_bind (wpAny_bind (wpAny_askSetting (wpAny_pure ?_)))
  show wpAny _ _ (if byText w = true then _ else _) _ _ _
  cases hb : byText w with
  | true =>
    simp only [if_true]
    rw [if_neg (by decide)]
    refine wpAny_bind ?_
    unfold setWalk
    refine wpAny_bind (wpAny_setState_of hD rfl (setT_fits _) ?_)
    dsimp only
    unfold setsByText
    refine wpAny_bind (wpAny_bind (wpAny_askSetting (wpAny_pure ?_)))
    show wpAny _ _ (if byText w = true then _ else _) _ _ _
    rw [if_pos hb]
    refine wpAny_bind (wpAny_askSetting (wpAny_pure ?_))
    rw [pick_one]
    exact wpAny_pure (h 0 (fun e => absurd (hb.symm.trans e) (by decide)))
  | false =>
    rw [hb] at hD
    simp only [Bool.not_false, Bool.false_eq_true, if_false]
    rw [if_neg (by decide)]
    refine wpAny_bind ?_
    show wpAny _ _ (pure ()) _ _ _
    refine wpAny_pure ?_
    exact wpAny_pure (h 2 (fun _ => rfl))
theorem setNext_1 {D : Addr} {nx : Nat} {Q : Option (Value × Nat) → Shared → Prop} (hD : s.heap.get? D = some (setO #[(1, .bool true)] 1 (setT (!byText w)))) (hn : byText w = false → nx = 2) (h : Q none s) :
    wpAny (model prog w) A (setNext D nx 1 1) Q E s := by
  unfold setNext
  refine wpAny_bind (wpAny_setState_of hD rfl (setT_fits _) ?_)
  dsimp only
  unfold setsByText
  refine wpAny_bind (wpAny_bind (wpAny_askSetting (wpAny_pure ?_)))
  show wpAny _ _ (if byText w = true then _ else _) _ _ _
  cases hb : byText w with
  | true =>
    simp only [if_true]
    rw [if_neg (by decide)]
    refine wpAny_bind ?_
    unfold setWalk
    refine wpAny_bind (wpAny_setState_of hD rfl (setT_fits _) ?_)
    dsimp only
    unfold setsByText
    refine wpAny_bind (wpAny_bind (wpAny_askSetting (wpAny_pure ?_)))
    show wpAny _ _ (if byText w = true then _ else _) _ _ _
    rw [if_pos hb]
    refine wpAny_bind (wpAny_askSetting (wpAny_pure ?_))
    rw [pick_one]
    exact wpAny_pure h
  | false =>
    rw [hb] at hD
    obtain rfl := hn hb
    simp only [Bool.not_false, Bool.false_eq_true, if_false]
    rw [if_neg (by decide)]
    refine wpAny_bind ?_
    show wpAny _ _ (pure ()) _ _ _
    refine wpAny_pure ?_
    exact wpAny_pure h
theorem pyIter_set {D : Addr} {Q : Value → Shared → Prop} (hD : s.heap.get? D = some (setO #[(1, .bool true)] 1 (setT (!byText w))))
    (h : Q (.ref s.heap.objs.size) { s with heap := s.heap.push (sitO D 0 0) }) : wpAny (model prog w) A (pyIter (.ref D)) Q E s := by
  have hT : s.TypeIs (.ref D) "set" := ⟨_, hD, rfl⟩
  refine wpAny_pyIter_slot hT slot_set_iter' (wpAny_call_entry slot_set_iter' hT entry_set_iter' ?_ (args_set_iter' _))
  show wpAny _ _ (Builtin.Frozenset.sizeOf D >>= _) _ _ s
  unfold Builtin.Frozenset.sizeOf setEntries
  refine wpAny_bind (wpAny_bind (wpAny_bind (wpAny_setState_of hD rfl (setT_fits _) (wpAny_pure (wpAny_pure ?_)))))
  refine wpAny_bind ?_
  unfold setDrawn
  refine wpAny_bind ?_
  refine wpAny_setState_of hD rfl (setT_fits _) ?_
  dsimp only
  unfold setsByText
  refine wpAny_bind (wpAny_bind (wpAny_askSetting (wpAny_pure ?_)))
  refine wpAny_pure ?_
  rw [if_neg (by rw [Bool.and_eq_true]; rintro ⟨_, h9⟩; exact Bool.noConfusion (show false = true from h9))]
  refine wpAny_bind (wpAny_pure ?_)
  unfold setEpoch
  refine wpAny_bind (wpAny_bind (wpAny_setState_of hD rfl (setT_fits _) (wpAny_pure ?_)))
  exact wpAny_bind (wpAny_newObj_type (wpAny_pure ⟨_, rfl, "set_iterator", _, ⟨_, Heap.get?_push_size _ rfl, rfl⟩, slot_setit_next.lookup, h⟩))
theorem sit_item {I D : Addr} {Q : Option Value → Shared → Prop} (hD : s.heap.get? D = some (setO #[(1, .bool true)] 1 (setT (!byText w)))) (hI : s.heap.get? I = some (sitO D 0 0))
    (h : ∀ h' nx, (byText w = false → nx = 2) → Heap.SameBut I s.heap h' → h'.get? I = some (sitO D nx 1) → Q (some (.bool true)) { s with heap := h' }) : wpAny (model prog w) A (pyNext (.ref I)) Q E s := by
  have hT : s.TypeIs (.ref I) "set_iterator" := ⟨_, hI, rfl⟩
  unfold pyNext
  refine wpAny_bind (wpAny_attempt (wpAny_callSpecial?_slot (name := Str.ofString "__next__") hT slot_setit_next
    (wpAny_call_entry slot_setit_next hT entry_setit_next ?_ (args_setit_next _))))
  show wpAny _ _ (fieldsOf (.ref I) >>= _) _ _ s
  refine wpAny_bind (wpAny_fieldsOf hI rfl ?_)
  dsimp only
  unfold setEntries
  refine wpAny_bind (wpAny_bind (wpAny_setState_of hD rfl (setT_fits _) (wpAny_pure ?_)))
  rw [if_neg (by intro h9; exact absurd (show (((1 : Nat) : Int) != 1) = true from h9) (by decide))]
  refine wpAny_bind (setNext_0 hD fun nx hnx => ?_)
  dsimp only
  refine wpAny_bind (wpAny_setField hI rfl (by simp) ?_)
  have h1 : ({ s with heap := s.heap.update I (Obj.mapFields (·.setIfInBounds 0 (rawInt nx))) } : Shared).heap.get? I = some { cls := .type "set_iterator", data := .fields #[.int nx 0, .int 0 0, .ref D, .int 1 0, .int 1 0] } := Heap.get?_update_self (Obj.mapFields (·.setIfInBounds 0 (rawInt nx))) hI rfl
  refine wpAny_bind (wpAny_setField h1 rfl (by simp) ?_)
  have h2 := Heap.get?_update_self (Obj.mapFields (·.setIfInBounds 1 (rawInt (0 + 1)))) h1 rfl
  exact wpAny_pure ⟨_, rfl, wpAny_pure (h _ nx hnx ((Heap.SameBut.update ..).trans (Heap.SameBut.update ..)) h2)⟩
theorem sit_end {I D : Addr} {nx : Nat} {Q : Option Value → Shared → Prop} (hh : A.handled = none) (hD : s.heap.get? D = some (setO #[(1, .bool true)] 1 (setT (!byText w)))) (hI : s.heap.get? I = some (sitO D nx 1)) (hn : byText w = false → nx = 2)
    (h : ∀ h', Heap.ExtBut I s.heap h' → Q none { s with heap := h' }) : wpAny (model prog w) A (pyNext (.ref I)) Q E s := by
  have hT : s.TypeIs (.ref I) "set_iterator" := ⟨_, hI, rfl⟩
  unfold pyNext
  refine wpAny_bind (wpAny_attempt (wpAny_callSpecial?_slot (name := Str.ofString "__next__") hT slot_setit_next
    (wpAny_call_entry slot_setit_next hT entry_setit_next ?_ (args_setit_next _))))
  show wpAny _ _ (fieldsOf (.ref I) >>= _) _ _ s
  refine wpAny_bind (wpAny_fieldsOf hI rfl ?_)
  dsimp only
  unfold setEntries
  refine wpAny_bind (wpAny_bind (wpAny_setState_of hD rfl (setT_fits _) (wpAny_pure ?_)))
  rw [if_neg (by intro h9; exact absurd (show (((1 : Nat) : Int) != 1) = true from h9) (by decide))]
  refine wpAny_bind (setNext_1 (nx := nx) hD hn ?_)
  dsimp only
  refine wpAny_bind (wpAny_setField hI rfl (by simp) ?_)
  show wpAny _ _ (newExc (.type "StopIteration") [] >>= _) _ _ _
  refine wpAny_bind ?_
  simp only [newExc, newTuple]
  refine wpAny_bind (wpAny_newObj_type ?_ (by size_fits))
  refine wpAny_bind (m := firstArgMember _ _) (wpAny_of_eq (a := Value.none) (by first | rfl | (simp only [firstArgMember]; rfl)) ?_)
  refine wpAny_newObj_type ?_ (by size_fits)
  simp only [raiseNew]
  refine wpAny_bind (wpAny_handled ?_)
  first | rw [show A.in1.handled = none from hh] | rw [hh]
  refine wpAny_bind (wpAny_pure (wpAny_throw ?_))
  refine wpAny_bind (wpAny_isInstance (T := "StopIteration") (b := true) ⟨_, Heap.get?_push_size _ rfl, rfl⟩ isSubtype_stop ?_)
  exact wpAny_pure (h _ (((Heap.SameBut.update ..).extBut.push _).push _))
end
section
variable {prog : Program} {w : World} {A : Around} {E : Value → Shared → Prop} {s : Shared} {h₀ : Heap} {L : Addr} {m : Str → Option Value} {news : List (Addr × Obj)}
/-- x, = {True}: the name gets True. -/
theorem unpack_set {env : Env} {x : Str} {px pos : Pos} {k : Nat} {D : Addr} {Q : Unit → Shared → Prop} (hh : A.handled = none) (F : Fr h₀ L s.heap m) (N : News h₀ L s.heap news) (hm : (D, setO #[(1, .bool true)] 1 (setT (!byText w))) ∈ news)
    (h : ∀ h', Fr h₀ L h' m → News h₀ L h' news → wpAny (model prog w) A (assign (.Name x px) env (.bool true)) Q E { s with heap := h' }) :
    wpAny (model prog w) A (assign (.Tuple [.Name x px] k pos) env (.ref D)) Q E s := by
  rw [arm_assign_Tuple]
  refine wpAny_bind (wpAny_standAt ?_)
  have hD := (N _ hm).1
  have hT : s.TypeIs (.ref D) "set" := ⟨_, hD, rfl⟩
  unfold unpack
  refine wpAny_bind (wpAny_holding ?_)
  show wpAny _ _ (unpackItems (.ref D) 1 none) _ _ _
  unfold unpackItems
  refine wpAny_bind ?_
  unfold notIterableAtAll
  refine wpAny_bind (wpAny_specialOf hT slot_set_iter'.lookup ?_)
  refine wpAny_pure ?_
  simp only [Bool.false_eq_true, if_false]
  refine wpAny_bind (wpAny_holding (pyIter_set hD ?_))
  have up : ∀ b o, s.heap.get? b = some o → (s.heap.push (sitO D 0 0)).get? b = some o := fun b o e => Heap.get?_push_of_some _ e
  refine wpAny_bind (wpAny_holding ?_)
  show wpAny _ _ (pyNext (.ref s.heap.objs.size) >>= _) _ _ _
  refine wpAny_bind (sit_item (D := D) (up _ _ hD) (Heap.get?_push_size _ rfl) fun h₁ nx hnx hs₁ hI₁ => ?_)
  have hDI : D ≠ s.heap.objs.size := Nat.ne_of_lt (Heap.lt_size hD)
  refine wpAny_bind (wpAny_holding (wpAny_pure (wpAny_pure ?_)))
  rw [if_neg (by decide)]
  refine wpAny_bind (wpAny_holding (sit_end hh ((hs₁.2 D hDI).trans (up _ _ hD)) hI₁ hnx fun h₂ he₂ => ?_))
  simp only [Option.isSome_none, Bool.false_eq_true, if_false]
  refine wpAny_pure ?_
  have keep : ∀ b o, s.heap.get? b = some o → h₂.get? b = some o := fun b o e =>
    have hb : b ≠ s.heap.objs.size := Nat.ne_of_lt (Heap.lt_size e)
    he₂ b o hb ((hs₁.2 b hb).trans (up b o e))
  show wpAny _ _ (assignInOrder [fun v => assign (.Name x px) env v] [.bool true]) _ _ _
  unfold assignInOrder
  refine wpAny_bind (wpAny_holding (wpAny_mono (h h₂ (F.keeps keep) (N.grown keep)) (fun _ s' hq => ?_) fun _ _ e => e))
  unfold assignInOrder
  exact wpAny_pure hq
end
theorem off_p25g : True := by
  w_top off
  trivial
theorem compTurn_set (elt target iter : PySem.Expr) (ifs : List PySem.Expr) (scope : Scope) (pos : Pos) (it acc : Value) (env : Env) :
    compTurn (.SetComp elt [⟨target, iter, ifs, 0⟩] scope pos) 0 it acc env = (do
      standAt iter.pos
      match ← pyNext it with
      | none => pure (.done .next)
      | some v =>
        letOwnedTupleGo target it v
        assign target env v
        let mut ok := true
        for c in ifs do
          if ok then ok ← isTrue c env (eval c env)
        if ok then
          (do let v ← eval elt env; standAt elt.pos; let _ ← call (.builtin "set.add") [acc, v])
        again (.compLoop (.SetComp elt [⟨target, iter, ifs, 0⟩] scope pos) 0 it acc env)) := by rfl
section
variable {prog : Program} {w : World} {A : Around} {R : Result → Shared → Prop}
theorem codeAny_compLoop_set {elt target iter : PySem.Expr} {scope : Scope} {pos : Pos} {it acc : Value} {env : Env} (I : Nat → Shared → Prop)
    (turn : ∀ n s, I n s → wpAny (model prog w) A (pyNext it) (fun r s₁ => match r with
      | none => R (.ok .next) s₁
      | some v => wpAny (model prog w) A (assign target env v) (fun _ s₂ =>
          wpAny (model prog w) A (eval elt env) (fun x s₄ =>
              wpAny (model prog w) A (call (.builtin "set.add") [acc, x]) (fun _ s₅ => ∃ m, m < n ∧ I m s₅) (notedBy (model prog w) A env fun e s' => R (.error e) s') s₄) (notedBy (model prog w) A env fun e s' => R (.error e) s') s₂) (notedBy (model prog w) A env fun e s' => R (.error e) s') s₁) (notedBy (model prog w) A env fun e s' => R (.error e) s') s)
    (n : Nat) {s : Shared} (h : I n s) (ht : ∀ v, letOwnedTupleGo target it v = pure () := by intro _; rfl) :
    codeAny (model prog w) A (.compLoop (.SetComp elt [⟨target, iter, [], 0⟩] scope pos) 0 it acc env) R s := by
  refine codeAny_loop rfl I (fun n s hI => ?_) n h
  show wpAny _ A ((compTurn (.SetComp elt [⟨target, iter, [], 0⟩] scope pos) 0 it acc env).onRaise (fun x => do noteFrame x env; theTreesLotGoes x)) _ _ s
  refine wpAny_noted ?_
  rw [compTurn_set]
  refine wpAny_bind (wpAny_standAt (wpAny_bind (wpAny_mono (turn n s hI) (fun r s₁ h₁ => ?_) fun _ _ h' => h')))
  cases r with
  | none => exact wpAny_pure h₁
  | some v =>
    refine wpAny_bind (wpAny_of_eq (ht v) ?_)
    refine wpAny_bind (wpAny_mono h₁ (fun _ s₂ h₂ => wpAny_bind (wpAny_pure ?_)) fun _ _ h' => h')
    exact wpAny_bind (wpAny_bind (wpAny_mono h₂ (fun x s₄ h₄ => wpAny_bind (wpAny_standAt (wpAny_bind (wpAny_mono h₄ (fun _ s₅ h₅ => wpAny_pure (wpAny_pure ⟨rfl, h₅⟩)) fun _ _ h' => h')))) fun _ _ h' => h'))
end
section
variable {prog : Program} {w : World} {A : Around} {R : Result → Shared → Prop} {s : Shared}
theorem codeAny_compStart_set {elt target iter : PySem.Expr} {ifs : List PySem.Expr} {rest : List Comprehension} {scope : Scope} {pos : Pos} {it acc : Value} {env : Env}
    (h0 : codeAny (model prog w) A (.compLoop (.SetComp elt (⟨target, iter, ifs, 0⟩ :: rest) scope pos) 0 it acc env) R s)
    (h : wpAny (model prog w) A (pyIter it) (fun it' s' => codeAny (model prog w) A (.compLoop (.SetComp elt (⟨target, iter, ifs, 0⟩ :: rest) scope pos) 0 it' acc env) R s')
      (notedBy (model prog w) A env fun x s' => R (.error x) s') s) :
    codeAny (model prog w) A (.compStart (.SetComp elt (⟨target, iter, ifs, 0⟩ :: rest) scope pos) 0 it acc env) R s := by
  refine codeAny_of_tree ?_
  show wpAny _ _ ((compStart (.SetComp elt (⟨target, iter, ifs, 0⟩ :: rest) scope pos) 0 it acc env).onRaise (fun x => do noteFrame x env; standAt theWindowsPlace)) _ _ s
  refine wpAny_notedAt ?_
  unfold compStart
  show wpAny _ _ (ask >>= _) _ _ s
  refine wpAny_bind (wpAny_askSetting (wpAny_ite ?_))
  split
  · first
      | exact wpAny_bind (wpAny_pure (wpAny_pure (And.intro rfl h0)))
      | exact wpAny_pure (And.intro rfl h0)
  · first
      | exact wpAny_bind (wpAny_rule (wpAny_bind (wpAny_standAt (wpAny_bind (wpAny_mono h (fun it' s' h' => wpAny_pure (And.intro rfl h')) fun _ _ x => x)))))
      | (refine wpAny_bind (wpAny_rule ?_); show wpAny _ _ (standAt iter.pos >>= _) _ _ s; exact wpAny_bind (wpAny_standAt (wpAny_bind (wpAny_mono h (fun it' s' h' => wpAny_pure (And.intro rfl h')) fun _ _ x => x))))
end
def setSt (i : Nat) (led : Bool) : Obj := if i = 0 then setO #[] 0 (.fresh 0 0 led) else setO #[(1, .bool true)] 1 (setT led)
section
variable {prog : Program} {w : World} {A : Around} {E : Value → Shared → Prop} {s : Shared} {h₀ : Heap} {L : Addr} {m : Str → Option Value} {env : Env} {news : List (Addr × Obj)}
theorem add_st {D : Addr} {i : Nat} {led : Bool} {Q : Value → Shared → Prop} (hD : s.heap.get? D = some (setSt i led))
    (h : ∀ h' tk, Heap.SameBut D s.heap h' → h'.get? D = some (setSt (i + 1) led) → Q .none { s with heap := h', toks := tk }) :
    wpAny (model prog w) A (call (.builtin "set.add") [.ref D, .bool true]) Q E s := by
  unfold setSt at hD h
  simp only [Nat.add_eq_zero_iff, Nat.one_ne_zero, and_false, if_false] at h
  by_cases hi : i = 0
  · rw [if_pos hi] at hD
    exact add_first hD h
  · rw [if_neg hi] at hD
    exact add_again hD fun tk => h _ _ (Heap.SameBut.refl ..) hD
theorem block_S {elt iter : PySem.Expr} {x : Str} {px : Pos} {scope : Scope} {cl : List (Str × Addr)} {pos : Pos} {s₂ : Shared} {I : Addr} {fp : List Addr} {n : Nat} {P : Nat → Value → Prop} {St : Nat → Heap → Prop}
    {RR : Value → Addr → Result → Shared → Prop}
    (W : Walks prog w A I fp [I] n P St) (hn0 : 0 < n) (hIo : ∀ i h, St i h → ∃ o, h.get? I = some o)
    (hSt : ∀ i h h' o, St i h → h.get? I = some o → h'.get? I = some o → (∀ b o, h₀.get? b = some o → h'.get? b = some o) → News h₀ L h' news → St i h')
    (hcell : ∀ y ∈ scope.names, y.2 ≠ .cell) (hkind : scope.kind = .function) (hx : scope.names.lookup x = some .local) (hst : St 0 s₂.heap) (hfp : ∀ b ∈ fp, b < s₂.heap.objs.size)
    (F : Fr h₀ L s₂.heap m) (N : News h₀ L s₂.heap news) (hIL : L ≠ I) (hI₀ : h₀.get? I = none) (off : ∀ p ∈ news, p.1 ≠ I)
    (R : ∀ v i I oI C oC D oD m₂ h tk (E' : Value → Shared → Prop), P i v → LCg.NsObj oC m₂ → m₂ x = some v → Fr h₀ L h m → News h₀ L h ((I, oI) :: (C, oC) :: (D, oD) :: news) → LCg.Off3 I C D news → ((@Ne Nat I C) ∧ (@Ne Nat I D) ∧ (@Ne Nat C D)) →
      wpAny (model prog w) A (eval elt (compEnvC scope cl C env)) (CEnd h₀ L m { s₂ with heap := h, toks := tk } ((I, oI) :: (C, oC) :: (D, oD) :: news) (fun y => y = .bool true)) E' { s₂ with heap := h, toks := tk })
    (hRR : ∀ D C h tk m', Fr h₀ L h m → News h₀ L h ((D, setO #[(1, .bool true)] 1 (setT (!byText w))) :: news) → LCg.Off1 D news → h.Ns C m' → h₀.get? C = none → h₀.get? D = none → C ≠ L → D ≠ L → C ≠ D → (∀ p ∈ news, p.1 ≠ C) → RR (.ref D) C (.ok .next) { s₂ with heap := h, toks := tk }) :
    wpAny (model prog w) A (newSet (.type "set")) (fun acc s₃ => wpAny (model prog w) A (newFunctionEnv scope env.globals cl [] env.qual none .none (some env)) (fun cenv s₄ =>
      codeAny (model prog w) A (.compStart (.SetComp elt [⟨.Name x px, iter, [], 0⟩] scope pos) 0 (.ref I) acc { cenv with scope := relabel scope env }) (RR acc cenv.locals) s₄) E s₃) E s₂ := by
  unfold newSet setsByText
  refine wpAny_bind (wpAny_bind (wpAny_askSetting (wpAny_pure ?_)))
  show wpAny _ _ (newObj (.type "set") (.set #[] 0 (.fresh 0 0 (!byText w)))) _ _ _
  generalize hled : (!byText w) = led at hRR ⊢
  refine wpAny_newObj_type (wpAny_newFunctionEnv hcell (by intro y hy; simp at hy) (fun h₁ hns₁ hsb₁ => ?_) hkind) (by show 0 ≤ sizeLine; decide)
  dsimp only at hns₁ hsb₁ ⊢
  generalize hH2 : s₂.heap.push (setO #[] 0 (.fresh 0 0 led)) = H2 at hns₁ hsb₁ ⊢
  have hC : H2.objs.size = s₂.heap.objs.size + 1 := by rw [← hH2, Heap.size_push]
  have hDC : s₂.heap.objs.size ≠ H2.objs.size := by rw [hC]; exact Nat.ne_of_lt (Nat.lt_succ_self _)
  have below : ∀ b, b < s₂.heap.objs.size → b ≠ H2.objs.size ∧ b ≠ s₂.heap.objs.size := fun b hb => ⟨by rw [hC]; exact Nat.ne_of_lt (Nat.lt_succ_of_lt hb), Nat.ne_of_lt hb⟩
  have hDf : s₂.heap.objs.size ∉ fp := fun hm => Nat.lt_irrefl _ (hfp _ hm)
  have hCf : H2.objs.size ∉ fp := fun hm => by have := hfp _ hm; rw [hC] at this; exact Nat.lt_irrefl _ (Nat.lt_of_succ_lt this)
  have hIf : I ∈ fp := W.sub I (List.mem_singleton.mpr rfl)
  have hIlt : I < s₂.heap.objs.size := hfp I hIf
  have old : ∀ b o, s₂.heap.get? b = some o → h₁.get? b = some o := fun b o e => hsb₁.extBut b o (below b (Heap.lt_size e)).1 (Heap.get?_push_of_some _ (hH2 ▸ Heap.get?_push_of_some _ e))
  have hacc : h₁.get? s₂.heap.objs.size = some (setSt 0 led) := hsb₁.extBut _ _ hDC (Heap.get?_push_of_some _ (hH2 ▸ Heap.get?_push_size _ rfl))
  have hst₁ : St 0 h₁ := W.frame _ _ _ hst fun b _ o e => old b o e
  have fresh : ∀ a, s₂.heap.objs.size ≤ a → s₂.heap.get? a = none := fun a ha => by
    cases e : s₂.heap.get? a with
    | none => rfl
    | some o' => exact absurd (Heap.lt_size e) (Nat.not_lt.mpr ha)
  have fresh₀ : ∀ a, s₂.heap.objs.size ≤ a → h₀.get? a = none := fun a ha => by
    cases e : h₀.get? a with
    | none => rfl
    | some o' => have := F.keep a o' e; rw [fresh a ha] at this; cases this
  have hD₀ : h₀.get? s₂.heap.objs.size = none := fresh₀ _ (Nat.le_refl _)
  have hC₀ : h₀.get? H2.objs.size = none := fresh₀ _ (by rw [hC]; exact Nat.le_succ _)
  have hLlt : L < s₂.heap.objs.size := F.ns.lt
  have hDL : s₂.heap.objs.size ≠ L := Ne.symm (below L hLlt).2
  have hCL : H2.objs.size ≠ L := Ne.symm (below L hLlt).1
  have hCI : I ≠ H2.objs.size := (below I hIlt).1
  have hDI : I ≠ s₂.heap.objs.size := (below I hIlt).2
  have off₀ : LCg.Off3 I H2.objs.size s₂.heap.objs.size news := LCg.Off3.of fun p hp => ⟨off p hp, (below _ (Heap.lt_size (N p hp).1)).1, (below _ (Heap.lt_size (N p hp).1)).2⟩
  have off3 := off₀.mem
  have loop : ∀ s₃ : Shared, s₃ = { s₂ with heap := h₁, toks := s₂.toks + ([] : List (Str × Value)).length } →
      codeAny (model prog w) A (.compLoop (.SetComp elt [⟨.Name x px, iter, [], 0⟩] scope pos) 0 (.ref I) (.ref s₂.heap.objs.size) (compEnvC scope cl H2.objs.size env))
        (RR (.ref s₂.heap.objs.size) H2.objs.size) s₃ := by
    rintro s₃ rfl
    refine codeAny_compLoop_set
      (fun k s' => ∃ h' tk i m', s' = { s₂ with heap := h', toks := tk } ∧ i ≤ n ∧ k = n + 1 - i ∧ St i h' ∧ Fr h₀ L h' m ∧ h'.Ns H2.objs.size m' ∧ News h₀ L h' ((s₂.heap.objs.size, setSt i led) :: news)) ?_ (n + 1)
      ⟨h₁, _, 0, _, rfl, Nat.zero_le _, rfl, hst₁, F.keeps old, hns₁, fun p hp => ?_⟩
    · rintro k s' ⟨h', tk, i, m', rfl, hi, rfl, hst', F', hn', N'⟩
      by_cases hlt : i < n
      · refine W.item i _ _ _ hlt hst' fun v h₂ tk₂ hPv hst₂ hk₂ => ?_
        refine wpAny_assign_Name (wpAny_storeName_local (lookup_relabel_local hx) (hn'.at' fun o e => hk₂ _ o (by simpa using Ne.symm hCI) e) (fun h₃ hn₃ hs₃ => ?_) (by simp [compEnvC, relabel, hkind]))
        have hst₃ : St (i + 1) h₃ := W.frame _ _ _ hst₂ fun b hb o e => hs₃.extBut b o (fun q => hCf (by have q' : b = H2.objs.size := q; rw [← q']; exact hb)) e
        obtain ⟨oI, heI⟩ := hIo _ _ hst₃
        obtain ⟨oC, heC, hoC⟩ := LCg.ns_obj hn₃
        have F₃ : Fr h₀ L h₃ m := (LCg.fr_but F' hk₂ hIL hI₀).change hs₃ hCL hC₀
        have N₂ : News h₀ L h₂ ((s₂.heap.objs.size, setSt i led) :: news) := LCg.news_but N' hk₂ fun p hp => by
          rcases List.mem_cons.mp hp with rfl | hp
          · exact Ne.symm hDI
          · exact (off3 p hp).1
        have N₃ : News h₀ L h₃ ((I, oI) :: (H2.objs.size, oC) :: (s₂.heap.objs.size, setSt i led) :: news) := fun p hp => by
          rcases List.mem_cons.mp hp with rfl | hp
          · exact ⟨heI, Ne.symm hIL, hI₀⟩
          · rcases List.mem_cons.mp hp with rfl | hp
            · exact ⟨heC, hCL, hC₀⟩
            · have z := N₂ p hp
              refine ⟨hs₃.extBut _ _ ?_ z.1, z.2⟩
              rcases List.mem_cons.mp hp with rfl | hp
              · exact hDC
              · exact (off3 p hp).2.1
        refine wpAny_mono (R v i I oI H2.objs.size oC s₂.heap.objs.size _ _ h₃ _ _ hPv hoC (by simp) F₃ N₃ off₀ ⟨hCI, hDI, Ne.symm hDC⟩) (fun y s₄ h₄ => ?_) fun _ _ e => e
        obtain ⟨h₄, tk₄, rfl, F₄, N₄, rfl⟩ := h₄
        have zI := (N₄ (I, oI) List.mem_cons_self).1
        have zC := (N₄ (H2.objs.size, oC) (List.mem_cons_of_mem _ List.mem_cons_self)).1
        have zD := (N₄ (s₂.heap.objs.size, setSt i led) (List.mem_cons_of_mem _ (List.mem_cons_of_mem _ List.mem_cons_self))).1
        have N₄' : News h₀ L h₄ news := fun p hp => N₄ p (List.mem_cons_of_mem _ (List.mem_cons_of_mem _ (List.mem_cons_of_mem _ hp)))
        have hst₄ : St (i + 1) h₄ := hSt _ _ _ _ hst₃ heI zI F₄.keep N₄'
        refine add_st zD fun h₅ tk₅ hs₅ hD₅ => ?_
        refine ⟨n + 1 - (i + 1), by omega, h₅, tk₅, i + 1, _, rfl, hlt, rfl, W.frame _ _ _ hst₄ fun b hb o e => hs₅.extBut b o (fun q => hDf (q ▸ hb)) e, F₄.change hs₅ hDL hD₀,
          (hoC.ns zC).sameBut hs₅ (Ne.symm hDC), fun p hp => ?_⟩
        rcases List.mem_cons.mp hp with rfl | hp
        · exact ⟨hD₅, hDL, hD₀⟩
        · exact ⟨hs₅.extBut _ _ (off3 p hp).2.2 (N₄' p hp).1, (N₄' p hp).2⟩
      · obtain rfl : i = n := Nat.le_antisymm hi (Nat.not_lt.mp hlt)
        refine W.done _ _ _ hst' fun h₂ tk₂ hk₂ => ?_
        have e9 : setSt i led = setO #[(1, .bool true)] 1 (setT led) := by rw [setSt, if_neg (by omega)]
        rw [e9] at N'
        exact hRR _ _ h₂ tk₂ _ (LCg.fr_but F' hk₂ hIL hI₀) (LCg.news_but N' hk₂ fun p hp => by
          rcases List.mem_cons.mp hp with rfl | hp
          · exact Ne.symm hDI
          · exact (off3 p hp).1) off₀.one (hn'.at' fun o e => hk₂ _ o (by simpa using Ne.symm hCI) e) hC₀ hD₀ hCL hDL (Ne.symm hDC) (fun p hp => (off3 p hp).2.1)
    · rcases List.mem_cons.mp hp with rfl | hp
      · exact ⟨hacc, hDL, hD₀⟩
      · exact ⟨old _ _ (N p hp).1, (N p hp).2⟩
  exact codeAny_compStart_set (loop _ rfl) (W.self 0 _ _ _ hst₁ (loop _ rfl))
end
theorem off_p25h : True := by
  w_top off
  trivial
section
variable {prog : Program} {w : World} {A : Around} {E : Value → Shared → Prop} {s : Shared} {h₀ : Heap} {L : Addr} {m : Str → Option Value} {env : Env}
def TupSrcS (prog : Program) (w : World) (A : Around) (h₀ : Heap) (L : Addr) (m : Str → Option Value) (env : Env) (elt : PySem.Expr) (x : Str) (scope : Scope) (cl : List (Str × Addr)) (y : Str) (Q : Flow → Shared → Prop) (xv : Value) (s₁ : Shared) : Prop :=
  ∃ ax its news, xv = .ref ax ∧ A.handled = none ∧ Fr h₀ L s₁.heap m ∧ News h₀ L s₁.heap news ∧ (ax, tupO its) ∈ news ∧ 0 < its.size ∧
      (∀ (v : Value) (i : Nat) I oI C oC D oD m₂ h tk (E' : Value → Shared → Prop), its[i]? = some v → LCg.NsObj oC m₂ → m₂ x = some v → Fr h₀ L h m → News h₀ L h ((I, oI) :: (C, oC) :: (D, oD) :: news) → LCg.Off3 I C D news → ((@Ne Nat I C) ∧ (@Ne Nat I D) ∧ (@Ne Nat C D)) →
        wpAny (model prog w) A (eval elt (compEnvC scope cl C env)) (CEnd h₀ L m { s₁ with heap := h, toks := tk } ((I, oI) :: (C, oC) :: (D, oD) :: news) (fun y => y = .bool true)) E' { s₁ with heap := h, toks := tk }) ∧
      (∀ h tk, Fr h₀ L h (fun z => if z = y then some (.bool true) else m z) → News h₀ L h news → Q .next { s₁ with heap := h, toks := tk })
theorem SetComp_Tup {elt iter : PySem.Expr} {x : Str} {px : Pos} {scope : Scope} {cl : List (Str × Addr)} {pos : Pos} {Q : Value → Shared → Prop}
    (hclos : closureFor scope env = pure cl) (hcell : ∀ z ∈ scope.names, z.2 ≠ .cell) (hkind : scope.kind = .function)
    (hnames : ∀ z ∈ scope.names, z.2 = .local → scope.names.lookup z.1 = some .local) (hx : scope.names.lookup x = some .local)
    (h : wpAny (model prog w) A (eval iter env) (fun xv s₁ => ∃ ax its news, xv = .ref ax ∧ A.handled = none ∧ Fr h₀ L s₁.heap m ∧ News h₀ L s₁.heap news ∧ (ax, tupO its) ∈ news ∧ 0 < its.size ∧
      (∀ (v : Value) (i : Nat) I oI C oC D oD m₂ h tk (E' : Value → Shared → Prop), its[i]? = some v → LCg.NsObj oC m₂ → m₂ x = some v → Fr h₀ L h m → News h₀ L h ((I, oI) :: (C, oC) :: (D, oD) :: news) → LCg.Off3 I C D news → ((@Ne Nat I C) ∧ (@Ne Nat I D) ∧ (@Ne Nat C D)) →
        wpAny (model prog w) A (eval elt (compEnvC scope cl C env)) (CEnd h₀ L m { s₁ with heap := h, toks := tk } ((I, oI) :: (C, oC) :: (D, oD) :: news) (fun y => y = .bool true)) E' { s₁ with heap := h, toks := tk }) ∧
      (∀ D h tk, Fr h₀ L h m → News h₀ L h ((D, setO #[(1, .bool true)] 1 (setT (!byText w))) :: news) → Q (.ref D) { s₁ with heap := h, toks := tk })) E s)
    (hs : ∀ x, foldedSetIterable iter env x = pure x := by intro _; rfl) :
    wpAny (model prog w) A (eval (.SetComp elt [⟨.Name x px, iter, [], 0⟩] scope pos) env) Q E s := by
  rw [arm_eval_SetComp]
  show wpAny _ A (comprehension (.SetComp elt [⟨.Name x px, iter, [], 0⟩] scope pos) scope env _ (newSet (.type "set")) false (eval iter env) none) _ _ s
  refine wpAny_comprehension_free (use := none) rfl hs hclos hkind hnames (wpAny_mono h (fun xv s₁ h₁ => ?_) fun _ _ e => e)
  obtain ⟨ax, its, news, rfl, hh, F, N, hm, hn0, R, fin⟩ := h₁
  have hl : s₁.heap.IsTuple ax its := ⟨_, (N _ hm).1, rfl, _, rfl⟩
  have hlt : ax < s₁.heap.objs.size := Heap.lt_size (N _ hm).1
  refine wpAny_pyIter_tuple hl ?_
  have up : ∀ b o, s₁.heap.get? b = some o → (s₁.heap.push { cls := .type "tuple_iterator", data := .fields #[.ref ax, .int 0 0] }).get? b = some o := fun b o e => Heap.get?_push_of_some _ e
  have hl' : (s₁.heap.push { cls := .type "tuple_iterator", data := .fields #[.ref ax, .int 0 0] }).IsTuple ax its := ⟨_, up _ _ (N _ hm).1, rfl, _, rfl⟩
  refine block_S (news := news) (Walks.tuple hh s₁.heap.objs.size ax (Nat.ne_of_lt hlt) its) hn0 (fun i h st => by obtain ⟨o, e, _⟩ := st.1; exact ⟨o, e⟩) (fun i h h' o st e e' k N' => tup_st i h h' o news st e e' k N' hm) hcell hkind hx ⟨⟨_, Heap.get?_push_size _ rfl, rfl, rfl⟩, hl'⟩ (fun b hb => ?_)
    (F.keeps up) (N.grown up) (Nat.ne_of_lt F.ns.lt) (next_is_new F) (fun p hp => Nat.ne_of_lt (Heap.lt_size (N p hp).1)) ?_ ?_
  · show b < (s₁.heap.push _).objs.size
    rw [Heap.size_push]
    rcases List.mem_cons.mp hb with rfl | hb
    · exact Nat.lt_succ_self _
    · rw [List.mem_singleton.mp hb]; exact Nat.lt_succ_of_lt hlt
  · intro v i I oI C oC D oD m₂ h tk E' hP hC hx2 F' N' off ne
    exact R v i I oI C oC D oD m₂ h tk E' hP hC hx2 F' N' off ne
  · intro D C h' tk m' F' N' o1 hn hC₀ hD₀ hCL hDL hCD offC
    refine ⟨m', hn, fun h'' hs'' => fin D h'' tk (F'.change hs'' hCL hC₀) (fun p hp => ?_)⟩
    refine ⟨hs''.extBut _ _ ?_ (N' p hp).1, (N' p hp).2⟩
    rcases List.mem_cons.mp hp with rfl | hp
    · exact Ne.symm hCD
    · exact offC p hp
/-- y, = {.. for x in (..)}, where each element is True. -/
theorem Assign_SetComp_one {elt iter : PySem.Expr} {x y : Str} {px py tpos : Pos} {k : Nat} {scope : Scope} {cl : List (Str × Addr)} {pos spos : Pos} {Q : Flow → Shared → Prop} (F₀ : Fr h₀ L s.heap m) (hLe : env.locals = L)
    (hclos : closureFor scope env = pure cl) (hcell : ∀ z ∈ scope.names, z.2 ≠ .cell) (hkind : scope.kind = .function)
    (hnames : ∀ z ∈ scope.names, z.2 = .local → scope.names.lookup z.1 = some .local) (hx : scope.names.lookup x = some .local)
    (hy : env.kindOf y = some .local) (hp : (env.scope.kind == .class || (env.scope.kind == .module && env.locals != env.globals)) = false)
    (h : wpAny (model prog w) A (eval iter env) (TupSrcS prog w A h₀ L m env elt x scope cl y Q) E s)
    (hs : ∀ x, foldedSetIterable iter env x = pure x := by intro _; rfl)
    (hsw : swapsWithSole [.Tuple [.Name y py] k tpos] (.SetComp elt [⟨.Name x px, iter, [], 0⟩] scope pos) spos.line env = pure false := by rfl)
    (hst : swappedStores [.Tuple [.Name y py] k tpos] (.SetComp elt [⟨.Name x px, iter, [], 0⟩] scope pos) env = pure none := by rfl) :
    wpAny (model prog w) A (exec (.Assign [.Tuple [.Name y py] k tpos] (.SetComp elt [⟨.Name x px, iter, [], 0⟩] scope pos) spos) env) Q E s := by
  subst hLe
  refine Assign_Tuple (hs := hsw) (hw := hst) (SetComp_Tup (m := m) (h₀ := h₀) (L := env.locals) hclos hcell hkind hnames hx (wpAny_mono h (fun xv s₁ h₁ => ?_) fun _ _ e => e) hs)
  obtain ⟨ax, its, news, rfl, hh, F, N, hm, hn0, R, fin⟩ := h₁
  refine ⟨ax, its, news, rfl, hh, F, N, hm, hn0, R, fun D h' tk F' N' => ?_⟩
  refine unpack_set hh F' N' (List.mem_cons_self ..) fun h₂ F₂ N₂ => ?_
  refine wpAny_assign_Name (wpAny_storeName_local hy F₂.ns (fun h₃ hn₃ hs₃ => ?_) hp)
  have hL₀ : h₀.get? env.locals = none := Heap.get?_none_of_le F₂.above
  exact fin h₃ _ ⟨hn₃, fun b o e => hs₃.extBut b o (fun q => by rw [q, hL₀] at e; cases e) (F₂.keep b o e), F₂.above⟩ fun p hp =>
    ⟨hs₃.extBut _ _ (N₂ p (List.mem_cons_of_mem _ hp)).2.1 (N₂ p (List.mem_cons_of_mem _ hp)).1, (N₂ p (List.mem_cons_of_mem _ hp)).2⟩
end
theorem off_p25i : True := by
  w_top off
  trivial
/-- The order of lists of texts. -/
def lexS : List Str → List Str → Bool
  | [], [] => false
  | [], _ :: _ => true
  | _ :: _, [] => false
  | a :: r, b :: t => if a = b then lexS r t else decide (a.cps.toList < b.cps.toList)
theorem str_eqB (a b : Str) : (a.cps.toList == b.cps.toList) = decide (a = b) := by
  by_cases h : a = b
  · subst h; simp
  · rw [decide_eq_false h, beq_eq_false_iff_ne]
    exact fun e => h (Str.ext' (Array.toList_inj.mp e))
section
variable {prog : Program} {w : World} {A : Around} {E : Value → Shared → Prop} {s : Shared}
theorem eqBool_str {a b : Str} {t u : Tok} {Q : Bool → Shared → Prop} (h : Q (decide (a = b)) s) : wpAny (model prog w) A (eqBool (.str a t) (.str b u)) Q E s := by
  unfold eqBool
  refine wpAny_holding ?_
  by_cases hab : (Value.str a t == Value.str b u) = true
  · rw [if_pos hab]
    have e : a = b := by have := eq_of_beq hab; injection this
    subst e
    exact wpAny_bind (wpAny_rule (wpAny_pure (by simpa using h)))
  · rw [if_neg hab]
    show wpAny _ _ (richCompare .Eq (.str a t) (.str b u) >>= _) _ _ _
    refine wpAny_bind (richCompare_gives (op := .Eq) (typeIs_str s a t) (typeIs_str s b u) PySem.F.slot_str_eq PySem.F.entry_str_eq (PySem.F.args_str_eq_2 _ _) (gives_str_eq a b t u) (fun e => nomatch e) ?_)
    show wpAny _ _ _ _ _ _
    rw [str_eqB]
    exact wpAny_truthy_bool h
end
theorem lexS_drop {xs ys : List Str} {i : Nat} {a b : Str} (h1 : xs[i]? = some a) (h2 : ys[i]? = some b) : lexS (xs.drop i) (ys.drop i) = if a = b then lexS (xs.drop (i + 1)) (ys.drop (i + 1)) else decide (a.cps.toList < b.cps.toList) := by
  rw [drop_cons h1, drop_cons h2, lexS]
/-- The loop of the comparison «less» of two lists of texts. -/
theorem lt_loop (l b : Addr) (vs us : List Value) (xs ys : List Str) (n n2 : Nat) (hx : StrsAre vs xs) (hy : StrsAre us ys) (k : Nat) :
    ∀ i : Nat, vs.length - i = k → i ≤ vs.length → i ≤ us.length → Meets (Builtin.«list.__eq__.loop» ⟨[.ref l, .ref b, rawInt i, rawInt 0], []⟩)
      (fun _ R s => s.heap.get? l = some (W.listOf vs.toArray n) ∧ s.heap.get? b = some (W.listOf us.toArray n2) ∧ R (.ok (.ret (.bool (lexS (xs.drop i) (ys.drop i))))) s) := by
  have hlx := hx.length
  have hly := hy.length
  induction k with
  | zero =>
    intro i hk hi1 hi2 prog w A R s h
    obtain ⟨hp, g, d, tk, os⟩ := s; obtain ⟨hl, hb, h⟩ := h
    wp_walk using AutoSeq1.wpAny_loadPart' hl, AutoSeq1.wpAny_loadPart' hb
    have e1 : vs.toArray[((i : Nat) : Int).toNat]? = none := by simp; omega
    rw [e1]
    wp_walk using AutoSeq1.wpAny_loadPart' hl, AutoSeq1.wpAny_loadPart' hb
    show R (.ok (.ret (.bool (decide (vs.toArray.size < us.toArray.size))))) _
    have hxd : xs.drop i = [] := by rw [List.drop_eq_nil_iff]; omega
    rw [hxd] at h
    have e2 : lexS [] (ys.drop i) = decide (vs.toArray.size < us.toArray.size) := by
      simp only [List.size_toArray]
      cases hyd : ys.drop i with
      | nil => rw [lexS]; rw [List.drop_eq_nil_iff] at hyd; rw [decide_eq_false (by omega)]
      | cons a r => rw [lexS]; have := congrArg List.length hyd; rw [List.length_drop, List.length_cons] at this; rw [decide_eq_true (by omega)]
    rw [e2] at h
    exact h
  | succ k ih =>
    intro i hk hi1 hi2 prog w A R s h
    obtain ⟨hp, g, d, tk, os⟩ := s; obtain ⟨hl, hb, h⟩ := h
    wp_walk using AutoSeq1.wpAny_loadPart' hl, AutoSeq1.wpAny_loadPart' hb
    have hlt : i < xs.length := by omega
    obtain ⟨tx, e1⟩ := hx.get i xs[i] (by simp [hlt])
    have e1' : vs.toArray[((i : Nat) : Int).toNat]? = some (.str xs[i] tx) := by simpa using e1
    by_cases hlt2 : i < ys.length
    · obtain ⟨ty, e2⟩ := hy.get i ys[i] (by simp [hlt2])
      have e2' : us.toArray[((i : Nat) : Int).toNat]? = some (.str ys[i] ty) := by simpa using e2
      rw [e1', e2']
      rw [lexS_drop (a := xs[i]) (b := ys[i]) (by simp [hlt]) (by simp [hlt2])] at h
      refine wpAny_bind (eqBool_str ?_)
      have hc : ((i : Int) + 1) = ((i + 1 : Nat) : Int) := by push_cast; rfl
      by_cases hab : xs[i] = ys[i]
      · rw [decide_eq_true hab]
        rw [if_pos hab] at h
        wp_walk
        rw [hc]
        exact ⟨plainId_quiet MeetsSeq3.plain_eq_loop _, codeAny_builtin MeetsSeq3.entry_eq_loop (by
          rw [Around.under_plainId MeetsSeq3.plain_eq_loop _]
          exact ih (i + 1) (by omega) (by omega) (by omega) prog w A R _ ⟨hl, hb, h⟩)⟩
      · rw [decide_eq_false hab]
        rw [if_neg hab] at h
        wp_walk using AutoSeq1.wpAny_loadPart' hl, AutoSeq1.wpAny_loadPart' hb
        rw [e1', e2']
        refine wpAny_bind (richCompare_gives (op := .Lt) (typeIs_str _ _ tx) (typeIs_str _ _ ty) PySem.F.slot_str_lt PySem.F.entry_str_lt (PySem.F.args_str_lt_2 _ _) (gives_str_lt _ _ tx ty) (fun e => nomatch e) ?_)
        exact wpAny_pure h
    · have e2' : us.toArray[((i : Nat) : Int).toNat]? = none := by simp; omega
      rw [e1', e2']
      wp_walk using AutoSeq1.wpAny_loadPart' hl, AutoSeq1.wpAny_loadPart' hb
      show R (.ok (.ret (.bool (decide (vs.toArray.size < us.toArray.size))))) _
      have e3 : lexS (xs.drop i) (ys.drop i) = decide (vs.toArray.size < us.toArray.size) := by
        have hyd : ys.drop i = [] := by rw [List.drop_eq_nil_iff]; omega
        rw [hyd, drop_cons (l := xs) (i := i) (c := xs[i]) (by simp [hlt]), lexS]
        rw [decide_eq_false (by simp only [List.size_toArray]; omega)]
      rw [e3] at h
      exact h
theorem off_p25j : True := by
  w_top off
  trivial
/-- The loop of the comparison «greater» of two lists of texts. -/
theorem gt_loop (l b : Addr) (vs us : List Value) (xs ys : List Str) (n n2 : Nat) (hx : StrsAre vs xs) (hy : StrsAre us ys) (k : Nat) :
    ∀ i : Nat, vs.length - i = k → i ≤ vs.length → i ≤ us.length → Meets (Builtin.«list.__eq__.loop» ⟨[.ref l, .ref b, rawInt i, rawInt 4], []⟩)
      (fun _ R s => s.heap.get? l = some (W.listOf vs.toArray n) ∧ s.heap.get? b = some (W.listOf us.toArray n2) ∧ R (.ok (.ret (.bool (lexS (ys.drop i) (xs.drop i))))) s) := by
  have hlx := hx.length
  have hly := hy.length
  induction k with
  | zero =>
    intro i hk hi1 hi2 prog w A R s h
    obtain ⟨hp, g, d, tk, os⟩ := s; obtain ⟨hl, hb, h⟩ := h
    wp_walk using AutoSeq1.wpAny_loadPart' hl, AutoSeq1.wpAny_loadPart' hb
    have e1 : vs.toArray[((i : Nat) : Int).toNat]? = none := by simp; omega
    rw [e1]
    wp_walk using AutoSeq1.wpAny_loadPart' hl, AutoSeq1.wpAny_loadPart' hb
    show R (.ok (.ret (.bool (decide (vs.toArray.size > us.toArray.size))))) _
    have hxd : xs.drop i = [] := by rw [List.drop_eq_nil_iff]; omega
    rw [hxd] at h
    have e2 : lexS (ys.drop i) [] = decide (vs.toArray.size > us.toArray.size) := by
      simp only [List.size_toArray]
      cases hyd : ys.drop i with
      | nil => rw [lexS]; rw [decide_eq_false (by omega)]
      | cons a r => rw [lexS]; rw [decide_eq_false (by omega)]
    rw [e2] at h
    exact h
  | succ k ih =>
    intro i hk hi1 hi2 prog w A R s h
    obtain ⟨hp, g, d, tk, os⟩ := s; obtain ⟨hl, hb, h⟩ := h
    wp_walk using AutoSeq1.wpAny_loadPart' hl, AutoSeq1.wpAny_loadPart' hb
    have hlt : i < xs.length := by omega
    obtain ⟨tx, e1⟩ := hx.get i xs[i] (by simp [hlt])
    have e1' : vs.toArray[((i : Nat) : Int).toNat]? = some (.str xs[i] tx) := by simpa using e1
    by_cases hlt2 : i < ys.length
    · obtain ⟨ty, e2⟩ := hy.get i ys[i] (by simp [hlt2])
      have e2' : us.toArray[((i : Nat) : Int).toNat]? = some (.str ys[i] ty) := by simpa using e2
      rw [e1', e2']
      rw [lexS_drop (a := ys[i]) (b := xs[i]) (by simp [hlt2]) (by simp [hlt])] at h
      refine wpAny_bind (eqBool_str ?_)
      have hc : ((i : Int) + 1) = ((i + 1 : Nat) : Int) := by push_cast; rfl
      by_cases hab : xs[i] = ys[i]
      · rw [decide_eq_true hab]
        rw [if_pos hab.symm] at h
        wp_walk
        rw [hc]
        exact ⟨plainId_quiet MeetsSeq3.plain_eq_loop _, codeAny_builtin MeetsSeq3.entry_eq_loop (by
          rw [Around.under_plainId MeetsSeq3.plain_eq_loop _]
          exact ih (i + 1) (by omega) (by omega) (by omega) prog w A R _ ⟨hl, hb, h⟩)⟩
      · rw [decide_eq_false hab]
        rw [if_neg (fun q => hab q.symm)] at h
        wp_walk using AutoSeq1.wpAny_loadPart' hl, AutoSeq1.wpAny_loadPart' hb
        rw [e1', e2']
        refine wpAny_bind (richCompare_gives (op := .Gt) (typeIs_str _ _ tx) (typeIs_str _ _ ty) PySem.F.slot_str_gt PySem.F.entry_str_gt (PySem.F.args_str_gt_2 _ _) (gives_str_gt _ _ tx ty) (fun e => nomatch e) ?_)
        exact wpAny_pure h
    · have e2' : us.toArray[((i : Nat) : Int).toNat]? = none := by simp; omega
      rw [e1', e2']
      wp_walk using AutoSeq1.wpAny_loadPart' hl, AutoSeq1.wpAny_loadPart' hb
      show R (.ok (.ret (.bool (decide (vs.toArray.size > us.toArray.size))))) _
      have e3 : lexS (ys.drop i) (xs.drop i) = decide (vs.toArray.size > us.toArray.size) := by
        have hyd : ys.drop i = [] := by rw [List.drop_eq_nil_iff]; omega
        rw [hyd, drop_cons (l := xs) (i := i) (c := xs[i]) (by simp [hlt]), lexS]
        rw [decide_eq_true (by simp only [List.size_toArray]; omega)]
      rw [e3] at h
      exact h
theorem slot_list_lt' : Slot "list" (cmpInfo .Lt).2.1 "list.__lt__" :=
  .of (owner := "list") (n := "__lt__") (by rw [typeLookup_type, builtinLookup_eq_fast]; kernel_rfl) (by decide +kernel) (by decide +kernel) (by decide +kernel)
    (by first | exact .inl (by decide +kernel) | exact .inr (by decide +kernel)) (by rw [isSubtype_type]; kernel_rfl)
theorem slot_list_gt' : Slot "list" (cmpInfo .Gt).2.1 "list.__gt__" :=
  .of (owner := "list") (n := "__gt__") (by rw [typeLookup_type, builtinLookup_eq_fast]; kernel_rfl) (by decide +kernel) (by decide +kernel) (by decide +kernel)
    (by first | exact .inl (by decide +kernel) | exact .inr (by decide +kernel)) (by rw [isSubtype_type]; kernel_rfl)
theorem entry_list_lt' : entryFor table "list.__lt__" = some Builtin.«list.__lt__» := entryFor_of_tree (by kernel_rfl)
theorem entry_list_gt' : entryFor table "list.__gt__" = some Builtin.«list.__gt__» := entryFor_of_tree (by kernel_rfl)
theorem args_list_lt' (a b : Value) : argsOk "list.__lt__" ⟨[a, b], []⟩ := by unfold argsOk; kernel_rfl
theorem args_list_gt' (a b : Value) : argsOk "list.__gt__" ⟨[a, b], []⟩ := by unfold argsOk; kernel_rfl
theorem list_lt (l b : Addr) (vs us : List Value) (xs ys : List Str) (n n2 : Nat) (hx : StrsAre vs xs) (hy : StrsAre us ys) : Meets (Builtin.«list.__lt__» ⟨[.ref l, .ref b], []⟩)
      (fun _ R s => s.heap.get? l = some (W.listOf vs.toArray n) ∧ s.heap.get? b = some (W.listOf us.toArray n2) ∧ R (.ok (.ret (.bool (lexS xs ys)))) s) := by
  intro prog w A R s h
  obtain ⟨hp, g, d, tk, os⟩ := s; obtain ⟨hl, hb, h⟩ := h
  have f3 := AutoSeq1.sub_list_list
  wp_walk using AutoSeq1.wpAny_loadPart' hl, AutoSeq1.wpAny_loadPart' hb
  exact ⟨plainId_quiet MeetsSeq3.plain_eq_loop _, codeAny_builtin MeetsSeq3.entry_eq_loop (by
    rw [Around.under_plainId MeetsSeq3.plain_eq_loop _]
    exact lt_loop l b vs us xs ys n n2 hx hy _ 0 rfl (Nat.zero_le _) (Nat.zero_le _) prog w A R _ ⟨hl, hb, by simpa using h⟩)⟩
theorem list_gt (l b : Addr) (vs us : List Value) (xs ys : List Str) (n n2 : Nat) (hx : StrsAre vs xs) (hy : StrsAre us ys) : Meets (Builtin.«list.__gt__» ⟨[.ref l, .ref b], []⟩)
      (fun _ R s => s.heap.get? l = some (W.listOf vs.toArray n) ∧ s.heap.get? b = some (W.listOf us.toArray n2) ∧ R (.ok (.ret (.bool (lexS ys xs)))) s) := by
  intro prog w A R s h
  obtain ⟨hp, g, d, tk, os⟩ := s; obtain ⟨hl, hb, h⟩ := h
  have f3 := AutoSeq1.sub_list_list
  wp_walk using AutoSeq1.wpAny_loadPart' hl, AutoSeq1.wpAny_loadPart' hb
  exact ⟨plainId_quiet MeetsSeq3.plain_eq_loop _, codeAny_builtin MeetsSeq3.entry_eq_loop (by
    rw [Around.under_plainId MeetsSeq3.plain_eq_loop _]
    exact gt_loop l b vs us xs ys n n2 hx hy _ 0 rfl (Nat.zero_le _) (Nat.zero_le _) prog w A R _ ⟨hl, hb, by simpa using h⟩)⟩
section
variable {prog : Program} {w : World} {A : Around} {E : Value → Shared → Prop} {s : Shared}
theorem rich_lt {l b : Addr} {vs us : List Value} {xs ys : List Str} {n n2 : Nat} {Q : Value → Shared → Prop} (hx : StrsAre vs xs) (hy : StrsAre us ys) (hl : s.heap.get? l = some (W.listOf vs.toArray n)) (hb : s.heap.get? b = some (W.listOf us.toArray n2)) (hu : A.units < cLine)
    (h : Q (.bool (lexS xs ys)) s) : wpAny (model prog w) A (richCompare .Lt (.ref l) (.ref b)) Q E s :=
  richCompare_meets_room (T := "list") ⟨_, hl, rfl⟩ ⟨_, hb, rfl⟩ slot_list_lt' entry_list_lt' (args_list_lt' _ _) (list_lt l b vs us xs ys n n2 hx hy) ⟨hl, hb, (show Value.bool _ ≠ Value.notImplemented ∧ Q _ s from ⟨(by intro e; cases e), h⟩)⟩ hu
theorem rich_gt {l b : Addr} {vs us : List Value} {xs ys : List Str} {n n2 : Nat} {Q : Value → Shared → Prop} (hx : StrsAre vs xs) (hy : StrsAre us ys) (hl : s.heap.get? l = some (W.listOf vs.toArray n)) (hb : s.heap.get? b = some (W.listOf us.toArray n2)) (hu : A.units < cLine)
    (h : Q (.bool (lexS ys xs)) s) : wpAny (model prog w) A (richCompare .Gt (.ref l) (.ref b)) Q E s :=
  richCompare_meets_room (T := "list") ⟨_, hl, rfl⟩ ⟨_, hb, rfl⟩ slot_list_gt' entry_list_gt' (args_list_gt' _ _) (list_gt l b vs us xs ys n n2 hx hy) ⟨hl, hb, (show Value.bool _ ≠ Value.notImplemented ∧ Q _ s from ⟨(by intro e; cases e), h⟩)⟩ hu
end
theorem off_p25k : True := by
  w_top off
  trivial
section
variable {prog : Program} {w : World} {A : Around} {E : Value → Shared → Prop} {s : Shared} {h₀ : Heap} {L : Addr} {m : Str → Option Value} {news : List (Addr × Obj)}
/-- min of a list of two. -/
theorem min_pair {l : Addr} {v0 v1 : Value} {k : Nat} (b : Bool) {Q : Value → Shared → Prop} (hh : A.handled = none) (F : Fr h₀ L s.heap m) (N : News h₀ L s.heap news) (hm : (l, W.listOf #[v0, v1] k) ∈ news)
    (hcmp : ∀ (h' : Heap) (tk' : Nat) (Q E : Value → Shared → Prop), (∀ b o, s.heap.get? b = some o → h'.get? b = some o) → Q (.bool b) { s with heap := h', toks := tk' } → wpAny (model prog w) A.in1 (richCompare .Lt v1 v0) Q E { s with heap := h', toks := tk' })
    (h : ∀ h' tk', Fr h₀ L h' m → News h₀ L h' news → Q (if b then v1 else v0) { s with heap := h', toks := tk' }) :
    wpAny (model prog w) A (call (.builtin "min") [.ref l]) Q E s := by
  have hname : (toString "min" ++ toString ".loop" : String) = "min.loop" := by decide
  have gl := (N _ hm).1
  have hlt := Heap.lt_size gl
  have hl : s.heap.IsList l #[v0, v1] := ⟨_, gl, rfl, _, rfl⟩
  refine call_function_tree PySem.F.kind_min PySem.F.plain_min PySem.F.entry_min (PySem.F.args_min1 _) ?_
  show wpAny _ A.in1 (Builtin.Builtins.bindParams "min" ["key", "default"] 0 ⟨[], []⟩ >>= _) _ _ s
  refine wpAny_bind (wpAny_of_eq (show Builtin.Builtins.bindParams "min" ["key", "default"] 0 ⟨[], []⟩ = pure [none, none] from rfl) ?_)
  refine wpAny_bind (wpAny_pure ?_)
  refine wpAny_bind (wpAny_pyIter_list hl ?_)
  refine wpAny_bind (wpAny_newObj_type ?_)
  rw [hname]
  generalize hI : s.heap.objs.size = I
  have hI' : I = s.heap.objs.size := hI.symm
  have lI : l ≠ I := hI' ▸ Nat.ne_of_lt hlt
  have W9 := Walks.list (prog := prog) (w := w) (A := A.in1) hh I l lI #[v0, v1]
  dsimp only
  generalize hH : s.heap.push { cls := .type "list_iterator", data := .fields #[.ref l, .int 0 0] } = H1
  have hS : H1.objs.size = I + 1 := by rw [← hH, Heap.size_push, hI]
  have up1 : ∀ b o, s.heap.get? b = some o → (H1.push { cls := .type "list", data := .seq ([] : List Value).toArray }).get? b = some o := fun b o e => Heap.get?_push_of_some _ (hH ▸ Heap.get?_push_of_some _ e)
  have gI1 : H1.get? I = some { cls := .type "list_iterator", data := .fields #[.ref l, .int 0 0] } := by rw [← hH, hI']; exact Heap.get?_push_size _ rfl
  have gI : (H1.push { cls := .type "list", data := .seq ([] : List Value).toArray }).get? I = some { cls := .type "list_iterator", data := .fields #[.ref l, .int 0 0] } := Heap.get?_push_of_some _ gI1
  have gS : (H1.push { cls := .type "list", data := .seq ([] : List Value).toArray }).get? H1.objs.size = some (seqObj "list" #[] 0) := Heap.get?_push_size _ rfl
  generalize hH2 : H1.push { cls := .type "list", data := .seq ([] : List Value).toArray } = H2 at up1 gI gS
  generalize H1.objs.size = S at hS gS
  have nSI : S ≠ I := by rw [hS]; exact Nat.succ_ne_self I
  have nb : ∀ b o, s.heap.get? b = some o → b ≠ I ∧ b ≠ S := fun b o e => by
    have z := Heap.lt_size e
    rw [hI] at z
    exact ⟨Nat.ne_of_lt z, by rw [hS]; exact Nat.ne_of_lt (Nat.lt_succ_of_lt z)⟩
  have fin : ∀ (h' : Heap) (tk' : Nat), (∀ b o, s.heap.get? b = some o → h'.get? b = some o) → Q (if b then v1 else v0) { s with heap := h', toks := tk' } := fun h' tk' hk => h h' tk' (F.keeps hk) (N.grown hk)
  refine wpAny_pure ⟨plainId_quiet PySem.F.plain_min_loop _, codeAny_builtin PySem.F.entry_min_loop ?_⟩
  rw [Around.under_plainId PySem.F.plain_min_loop _]
  show wpAny _ A.in1 (seqItems? (.ref S) >>= _) _ _ _
  refine wpAny_bind (wpAny_seqItems gS rfl ?_)
  show wpAny _ A.in1 (tryCatch (pyNext (.ref I)) _ >>= _) _ _ _
  refine wpAny_bind (wpAny_tryCatch (W9.item 0 _ _ _ (by simp) ⟨⟨_, gI, rfl, rfl⟩, ⟨_, up1 _ _ gl, rfl, _, rfl⟩⟩ fun v h3 tk3 hP hst3 hk3 => ?_))
  obtain rfl : v0 = v := by simpa using hP
  have gS3 := hk3 S _ (by simpa using nSI) gS
  show wpAny _ A.in1 (updateSeq S (fun _ => #[v0, v0]) >>= _) _ _ _
  refine wpAny_bind ?_
  have sb4 := Heap.SameBut.update h3 S (Obj.mapSeq fun _ => #[v0, v0])
  obtain ⟨c4, gS4⟩ : ∃ c4, (h3.update S (Obj.mapSeq fun _ => #[v0, v0])).get? S = some (seqObj "list" #[v0, v0] c4) := ⟨_, get?_update_seq gS3 fun _ => #[v0, v0]⟩
  refine wpAny_updateSeq gS3 rfl ?_
  generalize h3.update S (Obj.mapSeq fun _ => #[v0, v0]) = h4 at sb4 gS4
  have hst4 := W9.frame _ _ h4 hst3 fun b hb o e => (sb4.2 b (fun q => by
    rcases List.mem_cons.mp hb with e2 | e2
    · exact nSI (q.symm.trans e2)
    · exact (nb l _ gl).2 ((List.mem_singleton.mp e2).symm.trans q))).trans e
  have up4 : ∀ b o, s.heap.get? b = some o → h4.get? b = some o := fun b o e => (sb4.2 b (nb b o e).2).trans (hk3 b o (by simpa using (nb b o e).1) (up1 b o e))
  rw [hname]
  refine wpAny_pure ⟨plainId_quiet PySem.F.plain_min_loop _, codeAny_builtin PySem.F.entry_min_loop ?_⟩
  rw [Around.under_plainId PySem.F.plain_min_loop _]
  show wpAny _ A.in1 (seqItems? (.ref S) >>= _) _ _ _
  refine wpAny_bind (wpAny_seqItems gS4 rfl ?_)
  show wpAny _ A.in1 (tryCatch (pyNext (.ref I)) _ >>= _) _ _ _
  refine wpAny_bind (wpAny_tryCatch (W9.item 1 _ _ _ (by simp) hst4 fun v h5 tk5 hP hst5 hk5 => ?_))
  obtain rfl : v1 = v := by simpa using hP
  have up5 : ∀ b o, s.heap.get? b = some o → h5.get? b = some o := fun b o e => hk5 b o (by simpa using (nb b o e).1) (up4 b o e)
  have gS5 := hk5 S _ (by simpa using nSI) gS4
  show wpAny _ A.in1 (tryCatch (holding [v1, v1] (richCompare .Lt v1 v0 >>= _)) _ >>= _) _ _ _
  refine wpAny_bind (wpAny_tryCatch (wpAny_holding (wpAny_bind (hcmp h5 tk5 _ _ up5 ?_))))
  refine wpAny_bind (wpAny_holding (wpAny_truthy_bool ?_))
  refine wpAny_bind (wpAny_letGo (wpAny_pure ?_))
  have last : ∀ (vb : Value) (c6 : Nat) (h6 : Heap) (tk6 : Nat), vb = (if b then v1 else v0) → h6.get? S = some (seqObj "list" #[vb, vb] c6) → (h6.IsListIter I l (1 + 1) ∧ h6.IsList l #[v0, v1]) → (∀ b o, s.heap.get? b = some o → h6.get? b = some o) →
      codeAny (model prog w) A (.builtin "min.loop" ⟨[.ref I, .none, .ref S], []⟩) (fun r s' => match r with | .ok (.ret v) => Q v s' | .ok _ => False | .error e => E e s') { s with heap := h6, toks := tk6 } := by
    intro vb c6 h6 tk6 hvb gS6 hst6 up6
    refine codeAny_builtin PySem.F.entry_min_loop ?_
    rw [Around.under_plainId PySem.F.plain_min_loop _]
    show wpAny _ A.in1 (seqItems? (.ref S) >>= _) _ _ _
    refine wpAny_bind (wpAny_seqItems gS6 rfl ?_)
    show wpAny _ A.in1 (tryCatch (pyNext (.ref I)) _ >>= _) _ _ _
    refine wpAny_bind (wpAny_tryCatch (W9.done _ _ _ hst6 fun h7 tk7 hk7 => ?_))
    have gS7 := hk7 S _ (by simpa using nSI) gS6
    show wpAny _ A.in1 (updateSeq S (fun _ => #[]) >>= _) _ _ _
    refine wpAny_bind ?_
    refine wpAny_updateSeq gS7 rfl (wpAny_bind (wpAny_letGo (wpAny_pure ?_)))
    show Q vb _
    rw [hvb]
    refine fin _ _ fun b o e => (Heap.get?_update_other _ _ (Ne.symm (nb b o e).2)).trans (hk7 b o (by simpa using (nb b o e).1) (up6 b o e))
  cases hb : b with
  | true =>
    rw [hb] at last
    simp only [if_true]
    refine wpAny_bind ?_
    have sb6 := Heap.SameBut.update h5 S (Obj.mapSeq fun _ => #[v1, v1])
    obtain ⟨c6, gS6⟩ : ∃ c6, (h5.update S (Obj.mapSeq fun _ => #[v1, v1])).get? S = some (seqObj "list" #[v1, v1] c6) := ⟨_, get?_update_seq gS5 fun _ => #[v1, v1]⟩
    refine wpAny_updateSeq gS5 rfl (wpAny_bind (wpAny_letGo ?_))
    rw [hname]
    refine wpAny_pure ⟨plainId_quiet PySem.F.plain_min_loop _, last v1 c6 _ _ rfl gS6 (W9.frame _ _ _ hst5 fun b hb o e => (sb6.2 b (fun q => ?_)).trans e) fun b o e => (sb6.2 b (nb b o e).2).trans (up5 b o e)⟩
    rcases List.mem_cons.mp hb with e2 | e2
    · exact nSI (q.symm.trans e2)
    · exact (nb l _ gl).2 ((List.mem_singleton.mp e2).symm.trans q)
  | false =>
    rw [hb] at last
    simp only [Bool.false_eq_true, if_false]
    refine wpAny_bind (wpAny_letGo ?_)
    rw [hname]
    exact wpAny_pure ⟨plainId_quiet PySem.F.plain_min_loop _, last v0 c4 h5 tk5 rfl gS5 hst5 up5⟩
end
section
variable {prog : Program} {w : World} {A : Around} {E : Value → Shared → Prop} {s : Shared} {h₀ : Heap} {L : Addr} {m : Str → Option Value} {news : List (Addr × Obj)}
/-- max of a list of two. -/
theorem max_pair {l : Addr} {v0 v1 : Value} {k : Nat} (b : Bool) {Q : Value → Shared → Prop} (hh : A.handled = none) (F : Fr h₀ L s.heap m) (N : News h₀ L s.heap news) (hm : (l, W.listOf #[v0, v1] k) ∈ news)
    (hcmp : ∀ (h' : Heap) (tk' : Nat) (Q E : Value → Shared → Prop), (∀ b o, s.heap.get? b = some o → h'.get? b = some o) → Q (.bool b) { s with heap := h', toks := tk' } → wpAny (model prog w) A.in1 (richCompare .Gt v1 v0) Q E { s with heap := h', toks := tk' })
    (h : ∀ h' tk', Fr h₀ L h' m → News h₀ L h' news → Q (if b then v1 else v0) { s with heap := h', toks := tk' }) :
    wpAny (model prog w) A (call (.builtin "max") [.ref l]) Q E s := by
  have hname : (toString "max" ++ toString ".loop" : String) = "max.loop" := by decide
  have gl := (N _ hm).1
  have hlt := Heap.lt_size gl
  have hl : s.heap.IsList l #[v0, v1] := ⟨_, gl, rfl, _, rfl⟩
  refine call_function_tree PySem.F.kind_max PySem.F.plain_max PySem.F.entry_max (PySem.F.args_max1 _) ?_
  show wpAny _ A.in1 (Builtin.Builtins.bindParams "max" ["key", "default"] 0 ⟨[], []⟩ >>= _) _ _ s
  refine wpAny_bind (wpAny_of_eq (show Builtin.Builtins.bindParams "max" ["key", "default"] 0 ⟨[], []⟩ = pure [none, none] from rfl) ?_)
  refine wpAny_bind (wpAny_pure ?_)
  refine wpAny_bind (wpAny_pyIter_list hl ?_)
  refine wpAny_bind (wpAny_newObj_type ?_)
  rw [hname]
  generalize hI : s.heap.objs.size = I
  have hI' : I = s.heap.objs.size := hI.symm
  have lI : l ≠ I := hI' ▸ Nat.ne_of_lt hlt
  have W9 := Walks.list (prog := prog) (w := w) (A := A.in1) hh I l lI #[v0, v1]
  dsimp only
  generalize hH : s.heap.push { cls := .type "list_iterator", data := .fields #[.ref l, .int 0 0] } = H1
  have hS : H1.objs.size = I + 1 := by rw [← hH, Heap.size_push, hI]
  have up1 : ∀ b o, s.heap.get? b = some o → (H1.push { cls := .type "list", data := .seq ([] : List Value).toArray }).get? b = some o := fun b o e => Heap.get?_push_of_some _ (hH ▸ Heap.get?_push_of_some _ e)
  have gI1 : H1.get? I = some { cls := .type "list_iterator", data := .fields #[.ref l, .int 0 0] } := by rw [← hH, hI']; exact Heap.get?_push_size _ rfl
  have gI : (H1.push { cls := .type "list", data := .seq ([] : List Value).toArray }).get? I = some { cls := .type "list_iterator", data := .fields #[.ref l, .int 0 0] } := Heap.get?_push_of_some _ gI1
  have gS : (H1.push { cls := .type "list", data := .seq ([] : List Value).toArray }).get? H1.objs.size = some (seqObj "list" #[] 0) := Heap.get?_push_size _ rfl
  generalize hH2 : H1.push { cls := .type "list", data := .seq ([] : List Value).toArray } = H2 at up1 gI gS
  generalize H1.objs.size = S at hS gS
  have nSI : S ≠ I := by rw [hS]; exact Nat.succ_ne_self I
  have nb : ∀ b o, s.heap.get? b = some o → b ≠ I ∧ b ≠ S := fun b o e => by
    have z := Heap.lt_size e
    rw [hI] at z
    exact ⟨Nat.ne_of_lt z, by rw [hS]; exact Nat.ne_of_lt (Nat.lt_succ_of_lt z)⟩
  have fin : ∀ (h' : Heap) (tk' : Nat), (∀ b o, s.heap.get? b = some o → h'.get? b = some o) → Q (if b then v1 else v0) { s with heap := h', toks := tk' } := fun h' tk' hk => h h' tk' (F.keeps hk) (N.grown hk)
  refine wpAny_pure ⟨plainId_quiet PySem.F.plain_max_loop _, codeAny_builtin PySem.F.entry_max_loop ?_⟩
  rw [Around.under_plainId PySem.F.plain_max_loop _]
  show wpAny _ A.in1 (seqItems? (.ref S) >>= _) _ _ _
  refine wpAny_bind (wpAny_seqItems gS rfl ?_)
  show wpAny _ A.in1 (tryCatch (pyNext (.ref I)) _ >>= _) _ _ _
  refine wpAny_bind (wpAny_tryCatch (W9.item 0 _ _ _ (by simp) ⟨⟨_, gI, rfl, rfl⟩, ⟨_, up1 _ _ gl, rfl, _, rfl⟩⟩ fun v h3 tk3 hP hst3 hk3 => ?_))
  obtain rfl : v0 = v := by simpa using hP
  have gS3 := hk3 S _ (by simpa using nSI) gS
  show wpAny _ A.in1 (updateSeq S (fun _ => #[v0, v0]) >>= _) _ _ _
  refine wpAny_bind ?_
  have sb4 := Heap.SameBut.update h3 S (Obj.mapSeq fun _ => #[v0, v0])
  obtain ⟨c4, gS4⟩ : ∃ c4, (h3.update S (Obj.mapSeq fun _ => #[v0, v0])).get? S = some (seqObj "list" #[v0, v0] c4) := ⟨_, get?_update_seq gS3 fun _ => #[v0, v0]⟩
  refine wpAny_updateSeq gS3 rfl ?_
  generalize h3.update S (Obj.mapSeq fun _ => #[v0, v0]) = h4 at sb4 gS4
  have hst4 := W9.frame _ _ h4 hst3 fun b hb o e => (sb4.2 b (fun q => by
    rcases List.mem_cons.mp hb with e2 | e2
    · exact nSI (q.symm.trans e2)
    · exact (nb l _ gl).2 ((List.mem_singleton.mp e2).symm.trans q))).trans e
  have up4 : ∀ b o, s.heap.get? b = some o → h4.get? b = some o := fun b o e => (sb4.2 b (nb b o e).2).trans (hk3 b o (by simpa using (nb b o e).1) (up1 b o e))
  rw [hname]
  refine wpAny_pure ⟨plainId_quiet PySem.F.plain_max_loop _, codeAny_builtin PySem.F.entry_max_loop ?_⟩
  rw [Around.under_plainId PySem.F.plain_max_loop _]
  show wpAny _ A.in1 (seqItems? (.ref S) >>= _) _ _ _
  refine wpAny_bind (wpAny_seqItems gS4 rfl ?_)
  show wpAny _ A.in1 (tryCatch (pyNext (.ref I)) _ >>= _) _ _ _
  refine wpAny_bind (wpAny_tryCatch (W9.item 1 _ _ _ (by simp) hst4 fun v h5 tk5 hP hst5 hk5 => ?_))
  obtain rfl : v1 = v := by simpa using hP
  have up5 : ∀ b o, s.heap.get? b = some o → h5.get? b = some o := fun b o e => hk5 b o (by simpa using (nb b o e).1) (up4 b o e)
  have gS5 := hk5 S _ (by simpa using nSI) gS4
  show wpAny _ A.in1 (tryCatch (holding [v1, v1] (richCompare .Gt v1 v0 >>= _)) _ >>= _) _ _ _
  refine wpAny_bind (wpAny_tryCatch (wpAny_holding (wpAny_bind (hcmp h5 tk5 _ _ up5 ?_))))
  refine wpAny_bind (wpAny_holding (wpAny_truthy_bool ?_))
  refine wpAny_bind (wpAny_letGo (wpAny_pure ?_))
  have last : ∀ (vb : Value) (c6 : Nat) (h6 : Heap) (tk6 : Nat), vb = (if b then v1 else v0) → h6.get? S = some (seqObj "list" #[vb, vb] c6) → (h6.IsListIter I l (1 + 1) ∧ h6.IsList l #[v0, v1]) → (∀ b o, s.heap.get? b = some o → h6.get? b = some o) →
      codeAny (model prog w) A (.builtin "max.loop" ⟨[.ref I, .none, .ref S], []⟩) (fun r s' => match r with | .ok (.ret v) => Q v s' | .ok _ => False | .error e => E e s') { s with heap := h6, toks := tk6 } := by
    intro vb c6 h6 tk6 hvb gS6 hst6 up6
    refine codeAny_builtin PySem.F.entry_max_loop ?_
    rw [Around.under_plainId PySem.F.plain_max_loop _]
    show wpAny _ A.in1 (seqItems? (.ref S) >>= _) _ _ _
    refine wpAny_bind (wpAny_seqItems gS6 rfl ?_)
    show wpAny _ A.in1 (tryCatch (pyNext (.ref I)) _ >>= _) _ _ _
    refine wpAny_bind (wpAny_tryCatch (W9.done _ _ _ hst6 fun h7 tk7 hk7 => ?_))
    have gS7 := hk7 S _ (by simpa using nSI) gS6
    show wpAny _ A.in1 (updateSeq S (fun _ => #[]) >>= _) _ _ _
    refine wpAny_bind ?_
    refine wpAny_updateSeq gS7 rfl (wpAny_bind (wpAny_letGo (wpAny_pure ?_)))
    show Q vb _
    rw [hvb]
    refine fin _ _ fun b o e => (Heap.get?_update_other _ _ (Ne.symm (nb b o e).2)).trans (hk7 b o (by simpa using (nb b o e).1) (up6 b o e))
  cases hb : b with
  | true =>
    rw [hb] at last
    simp only [if_true]
    refine wpAny_bind ?_
    have sb6 := Heap.SameBut.update h5 S (Obj.mapSeq fun _ => #[v1, v1])
    obtain ⟨c6, gS6⟩ : ∃ c6, (h5.update S (Obj.mapSeq fun _ => #[v1, v1])).get? S = some (seqObj "list" #[v1, v1] c6) := ⟨_, get?_update_seq gS5 fun _ => #[v1, v1]⟩
    refine wpAny_updateSeq gS5 rfl (wpAny_bind (wpAny_letGo ?_))
    rw [hname]
    refine wpAny_pure ⟨plainId_quiet PySem.F.plain_max_loop _, last v1 c6 _ _ rfl gS6 (W9.frame _ _ _ hst5 fun b hb o e => (sb6.2 b (fun q => ?_)).trans e) fun b o e => (sb6.2 b (nb b o e).2).trans (up5 b o e)⟩
    rcases List.mem_cons.mp hb with e2 | e2
    · exact nSI (q.symm.trans e2)
    · exact (nb l _ gl).2 ((List.mem_singleton.mp e2).symm.trans q)
  | false =>
    rw [hb] at last
    simp only [Bool.false_eq_true, if_false]
    refine wpAny_bind (wpAny_letGo ?_)
    rw [hname]
    exact wpAny_pure ⟨plainId_quiet PySem.F.plain_max_loop _, last v0 c4 h5 tk5 rfl gS5 hst5 up5⟩
end
theorem off_p25l : True := by
  w_top off
  trivial
/-- The end of a comprehension's turn where the ledger may have grown. -/
def CEndG (h₀ : Heap) (L : Addr) (m : Str → Option Value) (s : Shared) (I : Addr) (oI : Obj) (C : Addr) (oC : Obj) (D : Addr) (oD : Obj) (rest : Value → List (Addr × Obj) → Prop) (y : Value) (s₂ : Shared) : Prop :=
  ∃ h' tk' news', s₂ = { s with heap := h', toks := tk' } ∧ Fr h₀ L h' m ∧ News h₀ L h' ((I, oI) :: (C, oC) :: (D, oD) :: news') ∧ LCg.Off3 I C D news' ∧ rest y news'
theorem cendG {h₀ : Heap} {L : Addr} {m : Str → Option Value} {s : Shared} {I : Addr} {oI : Obj} {C : Addr} {oC : Obj} {D : Addr} {oD : Obj} {rest : Value → List (Addr × Obj) → Prop} {y : Value} {h' : Heap} {tk' : Nat} {all : List (Addr × Obj)}
    (F : Fr h₀ L h' m) (N : News h₀ L h' all) (news' : List (Addr × Obj)) (sub : ∀ p ∈ (I, oI) :: (C, oC) :: (D, oD) :: news', p ∈ all) (off : LCg.Off3 I C D news') (hr : rest y news') :
    CEndG h₀ L m s I oI C oC D oD rest y { s with heap := h', toks := tk' } := ⟨h', tk', news', rfl, F, fun p hp => N p (sub p hp), off, hr⟩
section
variable {prog : Program} {w : World} {A : Around} {E : Value → Shared → Prop} {s : Shared} {h₀ : Heap} {L : Addr} {m : Str → Option Value} {env : Env}
theorem compRest_grow {elt : PySem.Expr} {x : Str} {scope : Scope} {cl : List (Str × Addr)} {S : List (Addr × Obj) → Prop} {P : Nat → Value → Prop} {Fin : List Value → List (Addr × Obj) → Prop} {n : Nat} (J : Nat → List Value → List (Addr × Obj) → Prop) (hS : ∀ i ys news, J i ys news → S news)
    (turn : ∀ i ys news v I oI C oC D m₂ h tk (E' : Value → Shared → Prop), i < n → J i ys news → P i v → LCg.NsObj oC m₂ → m₂ x = some v → Fr h₀ L h m → News h₀ L h ((I, oI) :: (C, oC) :: (D, LCg.lst ys) :: news) → LCg.Off3 I C D news → ((@Ne Nat I C) ∧ (@Ne Nat I D) ∧ (@Ne Nat C D)) →
      wpAny (model prog w) A (eval elt (compEnvC scope cl C env)) (CEndG h₀ L m { s with heap := h, toks := tk } I oI C oC D (LCg.lst ys) (fun y news' => J (i + 1) (ys ++ [y]) news')) E' { s with heap := h, toks := tk })
    (fin : ∀ ys news, J n ys news → Fin ys news) : ∀ k i ys news, i + k = n → J i ys news → LCg.CompRest prog w A h₀ L m env elt x scope cl s S P Fin k i ys news
  | 0, i, ys, news, e, hj => by
    have e' : i = n := by omega
    subst e'
    exact LCg.CompRest.zero (fin ys news hj)
  | k + 1, i, ys, news, e, hj => LCg.CompRest.succ fun v I oI C oC D m₂ h tk E' hP hC hx F N off ne => by
    refine wpAny_mono (turn i ys news v I oI C oC D m₂ h tk E' (by omega) hj hP hC hx F N off ne) (fun y s₂ p => ?_) fun _ _ e => e
    obtain ⟨h', tk', news', rfl, F', N', off', hj'⟩ := p
    exact ⟨h', tk', news', rfl, F', N', off', hS _ _ _ hj', compRest_grow J hS turn fin k (i + 1) (ys ++ [y]) news' (by omega) hj'⟩
/-- With one test, no growth. -/
theorem compRestT_inv {ct elt : PySem.Expr} {x : Str} {scope : Scope} {cl : List (Str × Addr)} {S : List (Addr × Obj) → Prop} {P : Nat → Value → Prop} {Fin : List Value → List (Addr × Obj) → Prop} {news : List (Addr × Obj)} {n : Nat} (J : Nat → List Value → Prop) (hS : S news)
    (turn : ∀ i ys v I oI C oC D m₂ h tk (E' : Value → Shared → Prop), i < n → J i ys → P i v → LCg.NsObj oC m₂ → m₂ x = some v → Fr h₀ L h m → News h₀ L h ((I, oI) :: (C, oC) :: (D, LCg.lst ys) :: news) → LCg.Off3 I C D news → ((@Ne Nat I C) ∧ (@Ne Nat I D) ∧ (@Ne Nat C D)) →
      wpAny (model prog w) A (isTrue ct (compEnvC scope cl C env) (eval ct (compEnvC scope cl C env))) (fun ok s' => if ok = true then
        wpAny (model prog w) A (eval elt (compEnvC scope cl C env)) (CEnd h₀ L m { s with heap := h, toks := tk } ((I, oI) :: (C, oC) :: (D, LCg.lst ys) :: news) (fun y => J (i + 1) (ys ++ [y]))) E' s'
        else CEnd h₀ L m { s with heap := h, toks := tk } ((I, oI) :: (C, oC) :: (D, LCg.lst ys) :: news) (fun _ => J (i + 1) ys) Value.none s') E' { s with heap := h, toks := tk })
    (fin : ∀ ys, J n ys → Fin ys news) : ∀ k i ys, i + k = n → J i ys → LCt.CompRestT prog w A h₀ L m env ct elt x scope cl s S P Fin k i ys news
  | 0, i, ys, e, hj => by
    have e' : i = n := by omega
    subst e'
    exact LCt.CompRestT.zero (fin ys hj)
  | k + 1, i, ys, e, hj => LCt.CompRestT.succ fun v I oI C oC D m₂ h tk E' hP hC hx F N off ne => by
    refine wpAny_mono (turn i ys v I oI C oC D m₂ h tk E' (by omega) hj hP hC hx F N off ne) (fun ok s₂ p => ?_) fun _ _ e => e
    cases ok with
    | true =>
      simp only [if_true] at p ⊢
      refine wpAny_mono p (fun y s₃ q => ?_) fun _ _ e => e
      obtain ⟨h', tk', rfl, F', N', hj'⟩ := q
      exact ⟨h', tk', news, rfl, F', N', off, hS, compRestT_inv J hS turn fin k (i + 1) (ys ++ [y]) (by omega) hj'⟩
    | false =>
      simp only [Bool.false_eq_true, if_false] at p ⊢
      obtain ⟨h', tk', rfl, F', N', hj'⟩ := p
      exact ⟨h', tk', news, rfl, F', N', off, hS, compRestT_inv J hS turn fin k (i + 1) ys (by omega) hj'⟩
end
/-- Rows of texts that stand in the ledger. -/
inductive TxtRows (news : List (Addr × Obj)) : List Value → List (List Str) → Prop
  | nil : TxtRows news [] []
  | cons {a : Addr} {us : List Value} {k : Nat} {r : List Str} {vs : List Value} {rs : List (List Str)} (hm : (a, W.listOf us.toArray k) ∈ news) (hi : StrsAre us r) (t : TxtRows news vs rs) : TxtRows news (.ref a :: vs) (r :: rs)
theorem TxtRows.mono {news news' : List (Addr × Obj)} {vs : List Value} {rs : List (List Str)} (h : TxtRows news vs rs) (hs : ∀ p ∈ news, p ∈ news') : TxtRows news' vs rs := by
  induction h with
  | nil => exact .nil
  | cons hm hi _ ih => exact .cons (hs _ hm) hi ih
theorem TxtRows.snoc {news : List (Addr × Obj)} {vs : List Value} {rs : List (List Str)} {a : Addr} {us : List Value} {k : Nat} {r : List Str} (h : TxtRows news vs rs) (hm : (a, W.listOf us.toArray k) ∈ news) (hi : StrsAre us r) : TxtRows news (vs ++ [.ref a]) (rs ++ [r]) := by
  induction h with
  | nil => exact .cons hm hi .nil
  | cons hm' hi' _ ih => exact .cons hm' hi' ih
theorem TxtRows.two {news : List (Addr × Obj)} {vs : List Value} {r1 r2 : List Str} (h : TxtRows news vs [r1, r2]) : ∃ a b us1 us2 k1 k2, vs = [.ref a, .ref b] ∧ (a, W.listOf us1.toArray k1) ∈ news ∧ StrsAre us1 r1 ∧ (b, W.listOf us2.toArray k2) ∈ news ∧ StrsAre us2 r2 := by
  cases h with
  | cons hm hi t =>
    cases t with
    | cons hm' hi' t' =>
      cases t'
      exact ⟨_, _, _, _, _, _, rfl, hm, hi, hm', hi'⟩
theorem off_p25m : True := by
  w_top off
  trivial
section
variable {prog : Program} {w : World} {A : Around} {E : Value → Shared → Prop} {s : Shared} {env : Env} {h₀ : Heap} {body : List Stmt} {Q : Flow → Shared → Prop}
/-- A turn over (i, c) that goes on with P, or leaves. -/
def EnumPost (h₀ : Heap) (L : Addr) (s₁ : Shared) (its news : List (Addr × Obj)) (x1 x2 : Str) (m₀ : Str → Option Value) (P : Prop) (Q : Flow → Shared → Prop) (f : Flow) (s₂ : Shared) : Prop :=
  match f with
  | .ret v => Q (.ret v) s₂
  | .brk => Q .next s₂
  | _ => ∃ h' tk m', s₂ = { s₁ with heap := h', toks := tk } ∧ Fr h₀ L h' m' ∧ News h₀ L h' (its ++ news) ∧ (∀ z, z ≠ x1 → z ≠ x2 → m' z = m₀ z) ∧ P
theorem two_fr {L : Addr} {h : Heap} {x1 x2 : Str} {m m₀ : Str → Option Value} (F : Fr h₀ L h m) (e : ∀ z, z ≠ x1 → z ≠ x2 → m z = m₀ z) : Fr h₀ L h (fun y => if y = x1 then m x1 else if y = x2 then m x2 else m₀ y) :=
  fr_congr F fun y => by
    by_cases h1 : y = x1
    · simp [h1]
    · by_cases h2 : y = x2
      · subst h2; rw [if_neg h1, if_pos rfl]
      · rw [if_neg h1, if_neg h2]; exact e y h1 h2
theorem enum_rest {elts : List PySem.Expr} {k : Nat} {pos : Pos} {l : Addr} {lo : Obj} {vs : List Value} {news : List (Addr × Obj)} {x1 x2 : Str} {m₀ : Str → Option Value} {I : Addr} (P : Nat → Prop) (hl : (l, lo) ∈ news) (hI : ∀ p ∈ news, @LT.lt Nat _ p.1 I)
    (turn : ∀ i v T t o1 o2 u1 u2 h tk, vs[i]? = some v → P i → IsTup h T #[.int (i : Int) t, v] → Fr h₀ env.locals h (fun y => if y = x1 then u1 else if y = x2 then u2 else m₀ y) → News h₀ env.locals h ((I + 1, o1) :: (I, o2) :: news) →
      wpAny (model prog w) A (assign (.Tuple elts k pos) env (.ref T)) (fun _ s₂ => wpAny (model prog w) A (execs body env) (EnumPost h₀ env.locals { s with heap := h, toks := tk } [(I + 1, o1), (I, o2)] news x1 x2 m₀ (P (i + 1)) Q) E s₂) E { s with heap := h, toks := tk })
    (done : ∀ u1 u2 h tk, P vs.length → Fr h₀ env.locals h (fun y => if y = x1 then u1 else if y = x2 then u2 else m₀ y) → News h₀ env.locals h news → Q .next { s with heap := h, toks := tk }) :
    ∀ (r : List Value) i m, vs.drop i = r → i ≤ vs.length → P i → (∀ z, z ≠ x1 → z ≠ x2 → m z = m₀ z) → ItemsRest prog w A E h₀ env (.Tuple elts k pos) body Q s [(I + 1, "enumerate"), (I, "list_iterator")] [(l, lo)] (enumItems i r) m news
  | [], i, m, e, hi, hp, hm => by
    have e' : i = vs.length := by have := List.drop_eq_nil_iff.mp e; omega
    subst e'
    exact ItemsRest.zero fun h tk F N => done _ _ h tk hp (two_fr F hm) N
  | v :: r, i, m, e, hi, hp, hm => by
    have hlt : i < vs.length := by
      rcases Nat.lt_or_ge i vs.length with h1 | h1
      · exact h1
      · rw [List.drop_eq_nil_iff.mpr h1] at e; cases e
    have e2 := List.drop_eq_getElem_cons hlt
    rw [e] at e2
    have ev : vs[i]? = some v := by rw [List.getElem?_eq_getElem hlt]; exact congrArg some (List.cons.inj e2).1.symm
    refine ItemsRest.pair fun T t h tk hT F => ?_
    refine AllObj.cons fun o1 hc1 => AllObj.cons fun o2 hc2 => AllObj.nil fun N => ?_
    refine wpAny_mono (turn i v T t o1 o2 _ _ h tk ev hp hT (two_fr F hm) N) (fun _ s₂ p => wpAny_mono p (fun f s₃ p' => ?_) fun _ _ e => e) fun _ _ e => e
    have fin : (∃ h' tk' m', s₃ = { ({ s with heap := h, toks := tk } : Shared) with heap := h', toks := tk' } ∧ Fr h₀ env.locals h' m' ∧ News h₀ env.locals h' ([(I + 1, o1), (I, o2)] ++ news) ∧ (∀ z, z ≠ x1 → z ≠ x2 → m' z = m₀ z) ∧ P (i + 1)) →
        UnrEndW h₀ env.locals { s with heap := h, toks := tk } [(I + 1, o1), (I, o2)] (fun m' n' => SubL [(l, lo)] n' ∧ ItemsRest prog w A E h₀ env (.Tuple elts k pos) body Q s [(I + 1, "enumerate"), (I, "list_iterator")] [(l, lo)] (enumItems (i + 1) r) m' n') s₃ := by
      rintro ⟨h', tk', m', rfl, F', N', hm', hp'⟩
      refine ⟨h', tk', m', news, rfl, F', N', fun p hp q hq => ?_, ⟨hl, trivial⟩, enum_rest P hl hI turn done r (i + 1) m' (List.cons.inj e2).2.symm hlt hp' hm'⟩
      have hq' : q = (I + 1, o1) ∨ q = (I, o2) := by simpa using hq
      rcases hq' with rfl | rfl
      · exact Nat.ne_of_lt (Nat.lt_succ_of_lt (hI p hp))
      · exact Nat.ne_of_lt (hI p hp)
    cases f with
    | ret v => exact p'
    | brk => exact p'
    | next => exact fin p'
    | cont => exact fin p'
theorem enum_inv {elts : List PySem.Expr} {k : Nat} {pos : Pos} {l : Addr} {vs : List Value} {n : Nat} {news : List (Addr × Obj)} {x1 x2 : Str} {m₀ : Str → Option Value} (P : Nat → Prop) (hh : A.handled = none) (F : Fr h₀ env.locals s.heap m₀) (N : News h₀ env.locals s.heap news) (hm : (l, W.listOf vs.toArray n) ∈ news) (hp : P 0)
    (turn : ∀ I i v T t o1 o2 u1 u2 h tk, (∀ p ∈ news, @LT.lt Nat _ p.1 I) → vs[i]? = some v → P i → IsTup h T #[.int (i : Int) t, v] → Fr h₀ env.locals h (fun y => if y = x1 then u1 else if y = x2 then u2 else m₀ y) → News h₀ env.locals h ((I + 1, o1) :: (I, o2) :: news) →
      wpAny (model prog w) A (assign (.Tuple elts k pos) env (.ref T)) (fun _ s₂ => wpAny (model prog w) A (execs body env) (EnumPost h₀ env.locals { s with heap := h, toks := tk } [(I + 1, o1), (I, o2)] news x1 x2 m₀ (P (i + 1)) Q) E s₂) E { s with heap := h, toks := tk })
    (done : ∀ u1 u2 h tk, P vs.length → Fr h₀ env.locals h (fun y => if y = x1 then u1 else if y = x2 then u2 else m₀ y) → News h₀ env.locals h news → Q .next { s with heap := h, toks := tk }) :
    wpAny (model prog w) A (call (.type "enumerate") [.ref l]) (fun xv s₁ => wpAny (model prog w) A (pyIter xv) (fun it s₂ => TurnsAt prog w A h₀ env (.Tuple elts k pos) body Q E it s₂) E s₁) E s :=
  ktu_enum hh F N hm rfl rfl rfl fun I hI => enum_rest P hm hI (fun i v T t o1 o2 u1 u2 h tk => turn I i v T t o1 o2 u1 u2 h tk hI) done vs 0 m₀ List.drop_zero (Nat.zero_le _) hp fun _ _ _ => rfl
end
/-- The common start of two lists of texts. -/
def lcpS : List Str → List Str → List Str
  | a :: r, b :: t => if a = b then a :: lcpS r t else []
  | _, _ => []
theorem lcpS_comm : ∀ a b : List Str, lcpS a b = lcpS b a
  | [], [] => rfl
  | [], _ :: _ => rfl
  | _ :: _, [] => rfl
  | a :: r, b :: t => by
    unfold lcpS
    by_cases h : a = b
    · subst h; rw [if_pos rfl, if_pos rfl, lcpS_comm r t]
    · rw [if_neg h, if_neg (fun q => h q.symm)]
theorem lexS_irr : ∀ a : List Str, lexS a a = false
  | [] => rfl
  | a :: r => by unfold lexS; rw [if_pos rfl]; exact lexS_irr r
theorem lexS_asymm : ∀ a b : List Str, lexS a b = true → lexS b a = false
  | [], [], _ => rfl
  | [], _ :: _, _ => rfl
  | _ :: _, [], h => by simp [lexS] at h
  | a :: r, b :: t, h => by
    unfold lexS at h ⊢
    by_cases e : a = b
    · subst e; rw [if_pos rfl] at h ⊢; exact lexS_asymm r t h
    · rw [if_neg e] at h
      rw [if_neg (fun q => e q.symm)]
      rw [decide_eq_true_eq] at h
      exact decide_eq_false (List.lt_asymm h)
/-- Equal starts and p not greater than q: q is long enough. -/
theorem lexS_long : ∀ (p q : List Str) (i : Nat), lexS q p = false → i < p.length → p.take i = q.take i → i < q.length
  | [], _, _, _, h, _ => absurd h (Nat.not_lt_zero _)
  | _ :: _, [], i, hl, _, _ => by simp [lexS] at hl
  | _ :: _, _ :: _, 0, _, _, _ => Nat.succ_pos _
  | a :: r, b :: t, i + 1, hl, h, e => by
    rw [List.take_succ_cons, List.take_succ_cons] at e
    obtain ⟨e1, e2⟩ := List.cons.inj e
    unfold lexS at hl
    rw [if_pos e1.symm] at hl
    have := lexS_long r t i hl (by simpa using h) e2
    simpa using this
theorem lcpS_at : ∀ (p q : List Str) (i : Nat) (a b : Str), p[i]? = some a → q[i]? = some b → a ≠ b → p.take i = q.take i → lcpS p q = p.take i
  | [], _, _, _, _, h, _, _, _ => by simp at h
  | _ :: _, [], _, _, _, _, h, _, _ => by simp at h
  | x :: r, y :: t, 0, a, b, h1, h2, hn, _ => by
    have e1 : x = a := by simpa using h1
    have e2 : y = b := by simpa using h2
    subst e1 e2
    unfold lcpS
    rw [if_neg hn]; rfl
  | x :: r, y :: t, i + 1, a, b, h1, h2, hn, e => by
    rw [List.take_succ_cons, List.take_succ_cons] at e
    obtain ⟨e1, e2⟩ := List.cons.inj e
    unfold lcpS
    rw [if_pos e1, List.take_succ_cons, lcpS_at r t i a b (by simpa using h1) (by simpa using h2) hn e2]
theorem lcpS_all : ∀ (p q : List Str), p = q.take p.length → lcpS p q = p
  | [], _, _ => by unfold lcpS; rfl
  | x :: r, [], h => by simp at h
  | x :: r, y :: t, h => by
    rw [List.length_cons, List.take_succ_cons] at h
    obtain ⟨e1, e2⟩ := List.cons.inj h
    unfold lcpS
    rw [if_pos e1, lcpS_all r t e2]
theorem lexS_eq : ∀ (a b : List Str), lexS b a = false → lexS a b = false → a = b
  | [], [], _, _ => rfl
  | [], _ :: _, _, h => by simp [lexS] at h
  | _ :: _, [], h, _ => by simp [lexS] at h
  | a :: r, b :: t, h1, h2 => by
    unfold lexS at h1 h2
    by_cases e : a = b
    · subst e
      rw [if_pos rfl] at h1 h2
      rw [lexS_eq r t h1 h2]
    · exfalso
      rw [if_neg (fun q => e q.symm)] at h1
      rw [if_neg e] at h2
      rw [decide_eq_false_iff_not] at h1 h2
      exact e (Str.ext' (Array.toList_inj.mp (List.le_antisymm (List.not_lt.mp h1) (List.not_lt.mp h2))))
theorem off_p25n : True := by
  w_top off
  trivial
section
variable {prog : Program} {w : World} {A : Around} {E : Value → Shared → Prop} {s : Shared} {h₀ : Heap} {L l : Addr} {m : Str → Option Value} {news : List (Addr × Obj)} {value slice : PySem.Expr} {vs : List Value} {k : Nat} {y : Int} {u : Tok} {Q : Value → Shared → Prop}
theorem min_cast {y : Int} (h : 0 ≤ y) (n : Nat) : max 0 (min y (n : Int)) = ((min y.toNat n : Nat) : Int) := by
  obtain ⟨m, rfl⟩ := Int.eq_ofNat_of_zero_le h
  rw [Int.toNat_natCast]
  rcases Nat.le_total m n with q | q
  · rw [Nat.min_eq_left q, Int.min_eq_left (Int.ofNat_le.mpr q), Int.max_eq_right h]
  · rw [Nat.min_eq_right q, Int.min_eq_right (Int.ofNat_le.mpr q), Int.max_eq_right (Int.natCast_nonneg n)]
theorem pick_to (vs : List Value) {y : Int} (h : 0 ≤ y) : slicePick vs.toArray none (some y) none = (vs.take y.toNat).toArray := by
  have e : sliceBounds none (some y) none vs.toArray.size = (((0 : Nat) : Int), ((min y.toNat vs.toArray.size : Nat) : Int), 1) := by
    simp only [sliceBounds, Option.getD_none, show (1 : Int) > 0 by decide, if_true, if_neg (Int.not_lt.mpr h)]
    congr 1
    congr 1
    exact min_cast h _
  rw [kmk_pick_nat _ e]
  show ((vs.drop 0).take (min y.toNat vs.toArray.size - 0)).toArray = _
  rw [List.drop_zero, Nat.sub_zero, List.size_toArray, kmk_take_min]
theorem slice_to (hs : subscripted slice false (.ref l) (.ref s.heap.objs.size) = operate [.ref s.heap.objs.size, .ref l] (getItem (.ref l) (.ref s.heap.objs.size))) (ht : ∀ r, letTemporaryGo value (.ref l) r = pure ()) (F : Fr h₀ L s.heap m) (N : News h₀ L s.heap news) (hm : (l, W.listOf vs.toArray k) ∈ news) (hz : vs.length ≤ 10000) (h0 : 0 ≤ y)
    (h : ∀ D h', Fr h₀ L h' m → News h₀ L h' ((D, W.listOf (vs.take y.toNat).toArray 0) :: news) → (∀ p ∈ news, p.1 < D) → Q (.ref D) { s with heap := h' }) :
    wpAny (model prog w) A (subscriptTail value slice (.ref l) (.ref s.heap.objs.size)) Q E { s with heap := s.heap.push { cls := .type "slice", data := .fields #[.none, .int y u, .none] } } := by
  refine kmk_slice F N (News.isList N hm) IsPart.none (IsPart.int _ _) (fun D h' F' N' l1 => h D h' F' ?_ l1) hs ht (by rw [sizeLine_eq]; simp; omega)
  rw [← pick_to vs h0]
  exact N'
end
-- MACRO BEGIN
local macro_rules | `(tactic| walk_at "subscriptTail Name Slice ref ref") => `(tactic| (k_here; k_dflt (apply Mine.slice_to; with_unfolding_all rfl; kmk_pure; k_asm; k_asm; k_mem; walk_at "zo"; first | apply Int.natCast_nonneg | omega); intro D' h' F' N' l1; (try k_lt l1); try k_sweep))
-- MACRO END
theorem off_p26 : True := by
  w_top off
  trivial
theorem gen_news {h₀ : Heap} {L : Addr} {h : Heap} {led : List (Addr × Obj)} (N : News h₀ L h led) : ∃ l, led = l ∧ News h₀ L h l := ⟨led, rfl, N⟩
def keepS (c : Str) : Bool := decide (c.length ≠ 0) && c != Str.ofString "."
theorem take_filter {l : List Str} {i : Nat} {c : Str} {f : Str → Bool} (h : l[i]? = some c) : (l.take (i + 1)).filter f = (l.take i).filter f ++ if f c = true then [c] else [] := by
  rw [List.take_add_one, h, List.filter_append]
  cases hf : f c <;> simp [hf]
theorem mem_pair {α : Type} {x a b : α} {r : List α} (h : x ∈ [a, b]) : x ∈ a :: b :: r := by
  rcases List.mem_cons.mp h with rfl | h
  · exact List.mem_cons_self ..
  · rw [List.mem_singleton.mp h]; exact List.mem_cons_of_mem _ (List.mem_cons_self ..)
section
local macro_rules
  | `(tactic| walk_at "exec Try") => `(tactic| walk_at "zh")
  | `(tactic| walk_at "exec Assign cons ListComp") => `(tactic| walk_at "zh")
  | `(tactic| walk_at "exec Assign cons SetComp") => `(tactic| walk_at "zh")
  | `(tactic| walk_at "exec For Tuple Call cons nil") => `(tactic| walk_at "zh")
  | `(tactic| walk_at "call builtin:str.join") => `(tactic| walk_at "zh")
  | `(tactic| walk_at "call type:enumerate") => `(tactic| walk_at "zh")
  | `(tactic| walk_at "subscriptTail Name Name ref int") => `(tactic| walk_at "zh")
  | `(tactic| walk_at "EnumPost") => `(tactic| walk_at "zh")
  | `(tactic| walk_at "eval ListComp") => `(tactic| walk_at "zh")
  | `(tactic| walk_at "CompSrcT") => `(tactic| walk_at "zh")
  | `(tactic| walk_at "TupSrcL") => `(tactic| walk_at "zh")
  | `(tactic| walk_at "TupSrcS") => `(tactic| walk_at "zh")
  | `(tactic| walk_at "call builtin:min") => `(tactic| walk_at "zh")
  | `(tactic| walk_at "call builtin:max") => `(tactic| walk_at "zh")
  | `(tactic| walk_at "call type:map") => `(tactic| walk_at "zh")
  | `(tactic| walk_at "call type:tuple") => `(tactic| walk_at "zh")
theorem common_c (w : World) (news : List (Addr × Obj)) (l : Addr) (x y : Str) (t u : Tok) (k : Nat) (hl : (l, W.listOf #[.str x t, .str y u] k) ∈ news) (hx : x.length ≤ 900) (hy : y.length ≤ 900) (hxs : Txt.startswith x (Str.ofString "/") = true) (hys : Txt.startswith y (Str.ofString "/") = true) (hzx : (Txt.split x (Str.ofString "/")).length ≤ 901) (hzy : (Txt.split y (Str.ofString "/")).length ≤ 901) (hlx : ∀ a ∈ Txt.split x (Str.ofString "/"), a.length ≤ 900) (hly : ∀ a ∈ Txt.split y (Str.ofString "/"), a.length ≤ 900) :
    Ctr w 141 news [.ref l] 30 (fun v tl => tl = [] ∧ ∃ t', v = .str (Str.ofString "/" ++ Str.join (Str.ofString "/") (lcpS ((Txt.split x (Str.ofString "/")).filter keepS) ((Txt.split y (Str.ofString "/")).filter keepS))) t') := by
  unfold Ctr
  k_fill
  rintro mean mg mb dp un gd cn cs a ccd cl outer A₀ base h₀ L m ⟨sh, sg, sd, sk, so⟩ Q E B F X N T hk hdp hun hret
  dsimp only at F N hret
  refine wpAny_call ?_
  k_dflt ((refine' code_defC ?k1 ?k2 ?k3 ?k4 ?k5 ?kA ?kF ?kK ?k6 ?k7 ?k8 ?k9 ?kB ?kD ?_ ?c2 ?c3 ?c4; (case kA => exact rfl); (case kF => exact rfl); (case kK => assumption); (case k1 => k_asm); (case k2 => k_asm); (case k3 => k_asm); (case k4 => k_asm); (case k5 => k_asm); (case k6 => k_is); (case k7 => k_is); (case k8 => ktr_room); (case k9 => exact BindsTo.of_eq rfl); (case kB => exact rfl); (case kD => decide +kernel); (case c2 => exact rfl); (case c3 => exact rfl); (case c4 => exact rfl); k_whole; intro g' L' h' tk' cells' FG' F' N' Y' B' X' T' l1; (try k_cells Y'); (try simp only [List.cons_append, List.nil_append] at N'); (try dsimp only); (try k_fold)))
  rename_i hd1 hd2
  have hLow : Low news L' := l1
  replace hd1 : _ = Data.cell none := hd1
  replace hd2 : _ = Data.cell none := hd2
  have FE := F'
  clear F'
  obtain ⟨mE, F'⟩ := fr_split (x := Str.ofString "paths") (v := .ref l) FE rfl
  clear FE
  refine letAE ?_
  intro e9 A9
  k_steps
  refine Hold.mk (call_map (by assumption) (by k_asm) (by k_mem) ?_)
  intro M9 T9 I9 h9 F9 N9 l1 l2 l3
  k_steps
  refine Hold.mk (call_tuple_map (by rfl) (by assumption) (by k_asm) (by k_mem) (fun p hp => Nat.ne_of_lt (l1 p hp)) (Nat.ne_of_gt (Nat.lt_trans l2 l3)) (Nat.ne_of_gt l2) (by simp) ?_ ?_)
  · intro v led h tk Q' hv F9 N9 hq
    have hv' : v = .str x t ∨ v = .str y u := by simpa using hv
    rcases hv' with rfl | rfl
    · refine Ctr.useV (fspath_c w led x t) (by k_asm) F9 (by k_asm) N9 (by k_asm) rfl (by dsimp only [A9]; ktr_room) (by dsimp only [A9]; ktr_units) ?_
      exact fun h' tk' F' N' => hq h' tk' F' N'
    · refine Ctr.useV (fspath_c w led y u) (by k_asm) F9 (by k_asm) N9 (by k_asm) rfl (by dsimp only [A9]; ktr_room) (by dsimp only [A9]; ktr_units) ?_
      exact fun h' tk' F' N' => hq h' tk' F' N'
  intro D h' tk' F' N' lD
  k_lt lD
  obtain ⟨m0, F0⟩ : ∃ m0, Fr g' L' h' m0 := ⟨_, F'⟩
  clear F'
  k_steps
  refine Hold.mk (wpAny_Try_except (neverE ?_))
  rename_i hd3 _ _ F1 N1 hd4
  k_steps
  refine Hold.mk ?_
  k_dflt (refine Assign_ListComp_Tup F1 (by rfl) (by with_unfolding_all rfl) (by with_unfolding_all rfl) (by decide) (by rfl) (by decide) (by rfl) (by rfl) (by rfl) ?_)
  k_steps
  refine Hold.mk ⟨D, #[.str x t, .str y u], _, rfl, rfl, F1, N1, List.mem_cons_self .., by show 2 ≤ sizeLine; decide, ?_⟩
  rintro s₂ ⟨h2, rfl⟩
  generalize hbase : (D, tupO #[Value.str x t, Value.str y u]) :: _ = base at N1 ⊢
  refine compRest_grow (n := 2) (fun i ys nw => (∀ p ∈ base, p ∈ nw) ∧ TxtRows nw ys (([x, y].take i).map (fun z => Txt.split z (Str.ofString "/")))) (fun i ys nw hj => hj.1 _ (hbase ▸ List.mem_cons_self ..)) ?_ ?_ _ 0 [] base rfl ⟨fun _ h => h, TxtRows.nil⟩
  · intro i ys nw v I oI C oC Dc m₂ h tk E' hi hJ hP hC hx9 F9 N9 off ne
    have hv' : ∃ b ub, v = .str b ub ∧ b.length ≤ 900 ∧ [x, y].take (i + 1) = [x, y].take i ++ [b] := by
      match i, hP with
      | 0, hv => exact ⟨x, t, (Option.some.inj hv).symm, hx, rfl⟩
      | 1, hv => exact ⟨y, u, (Option.some.inj hv).symm, hy, rfl⟩
    refine letG ?_
    intro G9
    obtain ⟨b9, ub, er1, hb9, ht9⟩ := hv'
    dsimp only [G9]
    clear G9
    subst er1
    obtain ⟨hsub, hrows⟩ := hJ
    have hc1 := hsub (L' + 1, _) (hbase ▸ List.mem_cons_of_mem _ (List.mem_cons_of_mem _ (List.mem_cons_self ..)))
    have lt9 : ∀ p ∈ (I, oI) :: (C, oC) :: (Dc, LCg.lst ys) :: nw, @Ne Nat h.objs.size p.1 := fun p hp => Nat.ne_of_gt (Heap.lt_size (N9 p hp).1)
    k_steps
    rename List (Str × Tok) => l9
    rename StrsAre _ _ => hS9
    rename (List.map _ _ = Txt.split _ _) => hsp
    rw [hsp] at hS9
    rename_i _ _ _ _ F8 N8
    refine cendG F8 N8 ((h.objs.size, W.listOf (strValues l9).toArray 0) :: nw) ?_ ⟨⟨lt9 _ (List.mem_cons_self ..), lt9 _ (List.mem_cons_of_mem _ (List.mem_cons_self ..)), lt9 _ (List.mem_cons_of_mem _ (List.mem_cons_of_mem _ (List.mem_cons_self ..)))⟩, off⟩ ⟨fun p hp => List.mem_cons_of_mem _ (hsub p hp), ?_⟩
    · repeat' (first | with_reducible exact List.mem_cons_self .. | refine List.forall_mem_cons.mpr ⟨?_, ?_⟩ | refine List.mem_cons_of_mem _ ?_ | (intro p hp; repeat (first | exact hp | refine List.mem_cons_of_mem _ ?_)))
    · rw [ht9, List.map_append]
      exact (hrows.mono fun p hp => List.mem_cons_of_mem _ hp).snoc (List.mem_cons_self ..) hS9
  · intro ys nw hJ
    obtain ⟨hsub, hrows⟩ := hJ
    refine letG ?_
    intro G9
    obtain ⟨a1, b1, us1, us2, k1, k2, er2, hm1, hs1, hm2, hs2⟩ := TxtRows.two (show TxtRows nw ys [Txt.split x (Str.ofString "/"), Txt.split y (Str.ofString "/")] from hrows)
    dsimp only [G9]
    clear G9
    subst er2
    intro D2 h tk F2 N2 off2
    have N3 : News g' L' h ((D2, LCg.lst [.ref a1, .ref b1]) :: (a1, W.listOf us1.toArray k1) :: (b1, W.listOf us2.toArray k2) :: base) := cb_drop N2 fun p hp => by
      rcases List.mem_cons.mp hp with rfl | hp
      · exact List.mem_cons_self ..
      · refine List.mem_cons_of_mem _ ?_
        rcases List.mem_cons.mp hp with rfl | hp
        · exact hm1
        · rcases List.mem_cons.mp hp with rfl | hp
          · exact hm2
          · exact hsub p hp
    clear N2 off2 hsub hrows hm1 hm2 N1
    subst hbase
    k_steps
    refine Hold.mk (wpAny_Try_except (neverE ?_))
    k_steps
    refine Hold.mk ?_
    k_dflt (refine Assign_SetComp_one F2 (by rfl) (by with_unfolding_all rfl) (by decide) (by rfl) (by decide) (by rfl) (by rfl) (by rfl) ?_)
    k_steps
    refine Hold.mk ⟨D, #[.str x t, .str y u], _, rfl, rfl, F2, N3, by k_mem, Nat.succ_pos _, ?_, ?_⟩
    · intro v i I oI C oC Dc oD m₂ h3 tk3 E' hP hC hx9 F9 N9 off ne
      have hv' : ∃ b ub, v = .str b ub ∧ b.length ≤ 900 ∧ Txt.startswith b (Str.ofString "/") = true := by
        match i, hP with
        | 0, hv => exact ⟨x, t, (Option.some.inj hv).symm, hx, hxs⟩
        | 1, hv => exact ⟨y, u, (Option.some.inj hv).symm, hy, hys⟩
      refine letG ?_
      intro G9
      obtain ⟨b9, ub, er3, hb9, ht9⟩ := hv'
      dsimp only [G9]
      clear G9
      subst er3
      k_steps
      exact cend F9 N9 (fun _ h => h) (congrArg Value.bool ht9)
    · intro h3 tk3 F9 N9
      k_steps
      refine Hold.mk ?_
      k_dflt (refine LCg.Assign_ListComp_U (F₀ := F9) (by rfl) (by with_unfolding_all rfl) (by with_unfolding_all rfl) (by decide) (by rfl) (by decide) (by rfl) (by rfl) (by rfl) ?_)
      k_steps
      refine Hold.mk (LCg.CompSrc.ledger (by rfl) F9 N9 (List.mem_cons_self ..) (by show 2 ≤ sizeLine; decide) fun g9 => ?_)
      generalize hbase : (D2, LCg.lst [Value.ref a1, Value.ref b1]) :: _ = base at N9 ⊢
      have hD2 : (D2, LCg.lst [Value.ref a1, Value.ref b1]) ∈ base := hbase ▸ List.mem_cons_self ..
      have ha1 : (a1, W.listOf us1.toArray k1) ∈ base := hbase ▸ List.mem_cons_of_mem _ (List.mem_cons_self ..)
      have hb1 : (b1, W.listOf us2.toArray k2) ∈ base := hbase ▸ List.mem_cons_of_mem _ (List.mem_cons_of_mem _ (List.mem_cons_self ..))
      refine compRest_grow (n := 2) (fun i ys nw => (∀ p ∈ base, p ∈ nw) ∧ TxtRows nw ys (([Txt.split x (Str.ofString "/"), Txt.split y (Str.ofString "/")].take i).map (fun z => z.filter keepS))) (fun i ys nw hj => .inr ⟨_, hj.1 _ hD2, rfl, _, rfl⟩) ?_ ?_ _ 0 [] base rfl ⟨fun _ h => h, TxtRows.nil⟩
      · intro i ys nw v I oI C oC Dc m₂ h4 tk4 E' hi hJ hP hC hx9 F8 N8 off ne
        obtain ⟨hsub, hrows⟩ := hJ
        have hv' : ∃ b us kk r, v = .ref b ∧ (b, W.listOf us.toArray kk) ∈ base ∧ StrsAre us r ∧ [Txt.split x (Str.ofString "/"), Txt.split y (Str.ofString "/")].take (i + 1) = [Txt.split x (Str.ofString "/"), Txt.split y (Str.ofString "/")].take i ++ [r] ∧ r.length ≤ 901 ∧ (∀ a ∈ r, a.length ≤ 900) := by
          match i, hP with
          | 0, hv => exact ⟨a1, us1, k1, _, (Option.some.inj hv).symm, ha1, hs1, rfl, hzx, hlx⟩
          | 1, hv => exact ⟨b1, us2, k2, _, (Option.some.inj hv).symm, hb1, hs2, rfl, hzy, hly⟩
        refine letG ?_
        intro G9
        obtain ⟨b9, us9, kk9, r9, er4, hm9, hs9, ht9, hz9, hlz⟩ := hv'
        dsimp only [G9]
        clear G9
        subst er4
        have hm9' := hsub _ hm9
        have hl9 := hs9.length
        have hc2 := hsub (L' + 1 + 1, _) (hbase ▸ List.mem_cons_of_mem _ (List.mem_cons_of_mem _ (List.mem_cons_of_mem _ (List.mem_cons_of_mem _ (List.mem_cons_self ..)))))
        k_steps
        refine Hold.mk ?_
        k_dflt (refine LCt.ListComp_T (F₀ := F8) (by with_unfolding_all rfl) (by decide) (by rfl) (by decide) (by rfl) ?_)
        k_steps
        refine Hold.mk (LCt.CompSrcT.ledger (by rfl) F8 N8 (by k_mem) (by rw [sizeLine_eq]; simp; omega) fun g8 => ?_)
        refine compRestT_inv (n := us9.length) (fun i ys => StrsAre ys ((r9.take i).filter keepS)) (.inr ⟨_, by k_mem, rfl, _, rfl⟩) ?_ ?_ _ 0 [] (by simp) StrsAre.nil
        · intro i2 ys2 v2 I2 oI2 C2 oC2 Dc2 m₃ h5 tk5 E2 hi2 hJ2 hP2 hC2 hx2 F7 N7 off2 ne2
          refine letG ?_
          intro G9
          obtain ⟨c2, tc2, er5, hc2'⟩ := StrsAre.item hs9 i2 v2 (by simpa using hP2)
          dsimp only [G9]
          clear G9
          subst er5
          have hcl : c2.length ≤ 900 := hlz _ (List.mem_of_getElem? hc2')
          k_steps
          · rename Str.length c2 ≠ 0 => q1
            rename (c2 != Str.ofString ".") = true => q2
            refine cend F7 N7 (fun _ h => h) ?_
            rw [take_filter hc2', if_pos (by rw [keepS, decide_eq_true q1, q2]; rfl)]
            exact hJ2.append' (StrsAre.cons _ _ StrsAre.nil)
          · rename Str.length c2 ≠ 0 => q1
            rename (c2 != Str.ofString ".") = false => q2
            refine cend F7 N7 (fun _ h => h) ?_
            rw [take_filter hc2', if_neg (by rw [keepS, q2]; simp), List.append_nil]
            exact hJ2
          · rename ¬ (Str.length c2 ≠ 0) => q1
            refine cend F7 N7 (fun _ h => h) ?_
            rw [take_filter hc2', if_neg (by rw [keepS, decide_eq_false q1]; simp), List.append_nil]
            exact hJ2
        · intro ys2 hJ2 D4 h5 tk5 F7 N7 off7
          rw [hl9, List.take_length] at hJ2
          refine cendG F7 N7 ((D4, W.listOf ys2.toArray ys2.length) :: nw) ?_ ⟨⟨fun e => off7.1 e.symm, fun e => off7.2.1 e.symm, fun e => off7.2.2.1 e.symm⟩, off⟩ ⟨fun p hp => List.mem_cons_of_mem _ (hsub p hp), ?_⟩
          · repeat' (first | with_reducible exact List.mem_cons_self .. | refine List.forall_mem_cons.mpr ⟨?_, ?_⟩ | refine List.mem_cons_of_mem _ ?_ | (intro p hp; repeat (first | exact hp | refine List.mem_cons_of_mem _ ?_)))
          · rw [ht9, List.map_append]
            exact (hrows.mono fun p hp => List.mem_cons_of_mem _ hp).snoc (List.mem_cons_self ..) hJ2
      · intro ys nw hJ
        obtain ⟨hsub, hrows⟩ := hJ
        refine letG ?_
        intro G9
        obtain ⟨a3, b3, us3, us4, k3, k4, er6, hm3, hs3, hm4, hs4⟩ := TxtRows.two (show TxtRows nw ys [(Txt.split x (Str.ofString "/")).filter keepS, (Txt.split y (Str.ofString "/")).filter keepS] from hrows)
        dsimp only [G9]
        clear G9
        subst er6
        intro D5 h6 tk6 F6 N6 off6
        have N7 : News g' L' h6 ((D5, LCg.lst [.ref a3, .ref b3]) :: (a3, W.listOf us3.toArray k3) :: (b3, W.listOf us4.toArray k4) :: base) := cb_drop N6 fun p hp => by
          rcases List.mem_cons.mp hp with rfl | hp
          · exact List.mem_cons_self ..
          · refine List.mem_cons_of_mem _ ?_
            rcases List.mem_cons.mp hp with rfl | hp
            · exact hm3
            · rcases List.mem_cons.mp hp with rfl | hp
              · exact hm4
              · exact hsub p hp
        clear N6 off6 hsub hrows hm3 hm4 N9 N3 hD2 ha1 hb1
        subst hbase
        have hl3 := hs3.length
        have hl4 := hs4.length
        have hf3 := List.length_filter_le keepS (Txt.split x (Str.ofString "/"))
        have hf4 := List.length_filter_le keepS (Txt.split y (Str.ofString "/"))
        have hb3 : ∀ a ∈ (Txt.split x (Str.ofString "/")).filter keepS, a.length ≤ 900 := fun a ha => hlx a (List.mem_filter.mp ha).1
        have hb4 : ∀ a ∈ (Txt.split y (Str.ofString "/")).filter keepS, a.length ≤ 900 := fun a ha => hly a (List.mem_filter.mp ha).1
        generalize hr3 : (Txt.split x (Str.ofString "/")).filter keepS = r3 at hs3 hl3 hf3 hret hb3
        generalize hr4 : (Txt.split y (Str.ofString "/")).filter keepS = r4 at hs4 hl4 hf4 hret hb4
        have hu9 : un + 8 * 30 < cLine := hun
        k_steps
        refine Hold.mk (min_pair (v0 := .ref a3) (v1 := .ref b3) (lexS r4 r3) (by rfl) F6 N7 (List.mem_cons_self ..) (fun h' tk' Q' E' hk hq => rich_lt hs4 hs3 (hk _ _ (N7 _ (List.mem_cons_of_mem _ (List.mem_cons_of_mem _ (List.mem_cons_self ..)))).1) (hk _ _ (N7 _ (List.mem_cons_of_mem _ (List.mem_cons_self ..))).1) (by dsimp only [A9]; ktr_units) hq) ?_)
        intro h7 tk7 F7 N8
        k_steps
        rename_i h8 F8 N9
        refine Hold.mk (max_pair (v0 := .ref a3) (v1 := .ref b3) (lexS r3 r4) (by rfl) F8 N9 (List.mem_cons_self ..) (fun h' tk' Q' E' hk hq => rich_gt hs4 hs3 (hk _ _ (N9 _ (List.mem_cons_of_mem _ (List.mem_cons_of_mem _ (List.mem_cons_self ..)))).1) (hk _ _ (N9 _ (List.mem_cons_of_mem _ (List.mem_cons_self ..))).1) (by dsimp only [A9]; ktr_units) hq) ?_)
        intro h9 tk9 F10 N10
        refine letG ?_
        intro G9
        obtain ⟨p, q, usp, usq, kp, kq, P, Qs, e1, e2, hmp, hmq, hsp, hsq, hle, hlc, hPl, hPb⟩ : ∃ p q usp usq kp kq P Qs, (if lexS r4 r3 = true then Value.ref b3 else .ref a3) = .ref p ∧ (if lexS r3 r4 = true then Value.ref b3 else .ref a3) = .ref q ∧ (p, W.listOf usp.toArray kp) ∈ [(a3, W.listOf us3.toArray k3), (b3, W.listOf us4.toArray k4)] ∧ (q, W.listOf usq.toArray kq) ∈ [(a3, W.listOf us3.toArray k3), (b3, W.listOf us4.toArray k4)] ∧ StrsAre usp P ∧ StrsAre usq Qs ∧ lexS Qs P = false ∧ lcpS P Qs = lcpS r3 r4 ∧ P.length ≤ 901 ∧ (∀ a ∈ P, a.length ≤ 900) := by
          cases hb : lexS r4 r3 with
          | true =>
            have := lexS_asymm _ _ hb
            exact ⟨b3, a3, us4, us3, k4, k3, r4, r3, rfl, by rw [this]; rfl, by simp, by simp, hs4, hs3, this, lcpS_comm _ _, by omega, hb4⟩
          | false =>
            cases hb2 : lexS r3 r4 with
            | true => exact ⟨a3, b3, us3, us4, k3, k4, r3, r4, rfl, rfl, by simp, by simp, hs3, hs4, hb, rfl, by omega, hb3⟩
            | false => exact ⟨a3, a3, us3, us3, k3, k3, r3, r3, rfl, rfl, by simp, by simp, hs3, hs3, lexS_irr _, by rw [lexS_eq _ _ hb hb2], by omega, hb3⟩
        dsimp only [G9]
        clear G9
        rw [e2]
        rw [e1] at F10
        k_steps
        rename Fr _ _ _ _ => F11
        refine Hold.mk ?_
        k_dflt (refine For_turns F11 ?_)
        k_steps
        rename News _ _ _ _ => N11
        obtain ⟨led, hled, N11⟩ := gen_news N11
        have mP : (p, W.listOf usp.toArray kp) ∈ led := hled ▸ List.mem_cons_of_mem _ (mem_pair hmp)
        have mQ : (q, W.listOf usq.toArray kq) ∈ led := hled ▸ List.mem_cons_of_mem _ (mem_pair hmq)
        have hcS : (L' + 1, _) ∈ led := hled ▸ List.mem_cons_of_mem _ (List.mem_cons_of_mem _ (List.mem_cons_of_mem _ (List.mem_cons_of_mem _ (List.mem_cons_of_mem _ (List.mem_cons_of_mem _ (List.mem_cons_of_mem _ (List.mem_cons_of_mem _ (List.mem_cons_self ..))))))))
        have hsubN : ∀ z ∈ news, z ∈ led := fun z hz => hled ▸ List.mem_cons_of_mem _ (List.mem_cons_of_mem _ (List.mem_cons_of_mem _ (List.mem_cons_of_mem _ (List.mem_cons_of_mem _ (List.mem_cons_of_mem _ (List.mem_cons_of_mem _ (List.mem_cons_of_mem _ (List.mem_cons_of_mem _ hz))))))))
        have hsl : (Str.ofString "/").length = 1 := by decide +kernel
        have hje : ∀ l, Txt.join (Str.ofString "/") l = Str.join (Str.ofString "/") l := fun l => PySem.StrLaws.glued_eq_join _ _
        have hlP := hsp.length
        have hlQ := hsq.length
        refine Hold.mk ?_
        refine enum_inv (x1 := Str.ofString "i") (x2 := Str.ofString "c") (fun i => P.take i = Qs.take i) ?zh F11 N11 mP ?zp ?_ ?_
        case zh => rfl
        case zp => rfl
        · intro I i v T t9 o1 o2 u1 u2 h12 tk12 hI hv hp hT F12 N12
          refine letG ?_
          intro G9
          obtain ⟨c9, tc9, er7, hc9⟩ := StrsAre.item hsp i v hv
          dsimp only [G9]
          clear G9
          subst er7
          have hi9 : i < P.length := (List.getElem?_eq_some_iff.mp hc9).1
          have hi8 := lexS_long P Qs i hle hi9 hp
          obtain ⟨td9, hd9⟩ := hsq.get i Qs[i] (by simp [hi8])
          k_steps
          rename Fr _ _ _ _ => F13
          rename News _ _ _ _ => N13
          have mQ' : (q, W.listOf usq.toArray kq) ∈ (I + 1, o1) :: (I, o2) :: led := List.mem_cons_of_mem _ (List.mem_cons_of_mem _ mQ)
          have hd9' : usq[((i : Nat) : Int).toNat]? = some (.str Qs[i] td9) := by simpa using hd9
          refine Hold.mk ?_
          refine item_lst N13 mQ' (by omega) (by omega) hd9' ?_
          have mP' : (p, W.listOf usp.toArray kp) ∈ (I + 1, o1) :: (I, o2) :: led := List.mem_cons_of_mem _ (List.mem_cons_of_mem _ mP)
          have hcS' : (L' + 1, _) ∈ (I + 1, o1) :: (I, o2) :: led := List.mem_cons_of_mem _ (List.mem_cons_of_mem _ hcS)
          k_steps
          · rename (c9 != Qs[i]) = true => q1
            refine Hold.mk ?_
            dsimp only [EnumPost]
            k_steps
            rename Fr _ _ _ _ => F14
            rename News _ _ _ _ => N14
            have hT9 : StrsAre (usp.take i) (P.take i) := hsp.take' i
            have hTb : ∀ a ∈ P.take i, a.length ≤ 900 := fun a ha => hPb a (List.mem_of_mem_take ha)
            have hTl : (P.take i).length ≤ 901 := by rw [List.length_take]; omega
            have hsum := sum_le hTb
            have hmul : (P.take i).length * 900 ≤ 901 * 900 := Nat.mul_le_mul_right _ hTl
            have hjl := join_le (Str.ofString "/") (P.take i)
            rw [← hje, hsl, Nat.mul_one] at hjl
            refine Hold.mk (join_listC (News.isList N14 mem_head) (by simpa using hT9) (by decide +kernel) (by omega) ?_)
            intro t8 k8
            k_steps
            refine hret _ [] _ _ (by assumption) (cb_drop (by assumption) (fun p hp => List.mem_cons_of_mem _ (List.mem_cons_of_mem _ (List.mem_cons_of_mem _ (hsubN p hp))))) (fun _ _ _ h9 => nomatch h9) ⟨rfl, _, congrArg (fun z => Value.str z _) ?_⟩
            rw [hje, ← hlc, lcpS_at P Qs i c9 Qs[i] hc9 (by simp [hi8]) (by simpa using q1) hp]
          · rename (c9 != Qs[i]) = false => q1
            refine Hold.mk ⟨_, _, _, rfl, by assumption, by assumption, fun z hz1 hz2 => ?_, ?_⟩
            · simp only [if_neg hz1, if_neg hz2]
            · have e9 : Qs[i]? = some c9 := by rw [List.getElem?_eq_getElem hi8]; exact congrArg some (by simpa using q1 : c9 = Qs[i]).symm
              rw [List.take_add_one, List.take_add_one, hc9, e9, hp]
        · intro u1 u2 h12 tk12 hp F12 N12
          k_steps
          have hsum := sum_le hPb
          have hmul : P.length * 900 ≤ 901 * 900 := Nat.mul_le_mul_right _ hPl
          have hjl := join_le (Str.ofString "/") P
          rw [← hje, hsl, Nat.mul_one] at hjl
          refine Hold.mk (join_listC (News.isList (by assumption) mP) (by simpa using hsp) (by decide +kernel) (by omega) ?_)
          intro t8 k8
          k_steps
          refine hret _ [] _ _ (by assumption) (cb_drop (by assumption) (fun p hp => hsubN p hp)) (fun _ _ _ h9 => nomatch h9) ⟨rfl, _, congrArg (fun z => Value.str z _) ?_⟩
          rw [hlP, List.take_length] at hp
          rw [hje, ← hlc, lcpS_all P Qs hp]
end
theorem off_p27 : True := by
  w_top off
  trivial
section
variable {prog : Program} {w : World} {A : Around} {E : Value → Shared → Prop} {s : Shared} {env : Env} {h₀ : Heap} {body : List Stmt} {Q : Flow → Shared → Prop} {x : Str} {px : Pos}
theorem iter_rangeTurns {r : Addr} {a b : Int} {t u v : Tok} {n : Nat} {m₀ : Str → Option Value} {news : List (Addr × Obj)}
    (hh : A.handled = none) (hr : IsRange s.heap r a b 1 t u v) (hsm : Builtin.Range.small a b 1 = true) (hn : Builtin.Range.rangeSize a b 1 = ((n : Nat) : Int)) (F : Fr h₀ env.locals s.heap m₀) (N : News h₀ env.locals s.heap news)
    (rest₀ : ∀ I : Addr, (∀ p ∈ news, @LT.lt Nat _ p.1 I) → ItemsRest prog w A E h₀ env (.Name x px) body Q s [(I, "range_iterator")] [] ((List.range n).map fun i => Itm.tok (fun t => .int (a + ((i : Nat) : Int)) t)) m₀ news) :
    wpAny (model prog w) A (pyIter (.ref r)) (fun it s₂ => TurnsAt prog w A h₀ env (.Name x px) body Q E it s₂) E s := by
  refine wpAny_pyIter_range hr hsm ?_
  refine ktu_core (tk0 := s.toks) (keep := []) (KTurns.ofWalks (LCg.range_walks (I := s.heap.objs.size) hh a n).bound fun i v s Q E st q => wpAny_of_eq (by rfl) q) (by simp) (fun i v h hp => ?_) (fun i h st => ?_) (fun b hb => ?_) (fun b hb => by simpa using hb) (fun b hb => ?_) ?_ (fun p hp hI => ?_) ?_ (F.push _) (fun p hp => ⟨Heap.get?_push_of_some _ (N p hp).1, (N p hp).2⟩) trivial (rest₀ _ fun p hp => Heap.lt_size (N p hp).1)
  · obtain ⟨hi, t', rfl⟩ := hp
    exact ⟨Itm.tok (fun t => .int (a + ((i : Nat) : Int)) t), by simp [hi], t', rfl⟩
  · exact ⟨[(s.heap.objs.size, _)], ⟨⟨rfl, rfl⟩, trivial⟩, fun p hp => by rw [List.mem_singleton.mp hp]; exact st⟩
  · have hb' : b = s.heap.objs.size := by simpa using hb
    rw [hb']
    exact ⟨List.mem_cons_self .., next_is_new F⟩
  · have hb' : b = s.heap.objs.size := by simpa using hb
    exact .inl (by simp [hb'])
  · intro hI
    exact absurd F.ns.lt (List.mem_singleton.mp hI ▸ Nat.lt_irrefl _)
  · exact absurd (Heap.lt_size (N p hp).1) ((List.mem_singleton.mp hI) ▸ Nat.lt_irrefl _)
  · show IsRangeIter _ _ _ _ _
    rw [hn]
    simpa using Heap.get?_push_size _ rfl
theorem toks_inv {I : Addr} {T : String} {a : Int} {n : Nat} (J : Nat → (Str → Option Value) → List (Addr × Obj) → Prop)
    (turn : ∀ i t m news (it : Obj) h tk, i < n → J i m news → it.cls = .type T → Fr h₀ env.locals h m → News h₀ env.locals h ((I, it) :: news) →
      wpAny (model prog w) A (assign (.Name x px) env (.int (a + (i : Int)) t)) (fun _ s₂ => wpAny (model prog w) A (execs body env) (UnrPost h₀ env.locals { s with heap := h, toks := tk } I it (fun m' n' => J (i + 1) m' n') Q) E s₂) E { s with heap := h, toks := tk })
    (done : ∀ m news h tk, J n m news → Fr h₀ env.locals h m → News h₀ env.locals h news → Q .next { s with heap := h, toks := tk }) :
    ∀ (k i : Nat) m news, i + k = n → J i m news → ItemsRest prog w A E h₀ env (.Name x px) body Q s [(I, T)] [] ((List.range' i k).map fun i => Itm.tok (fun t => .int (a + ((i : Nat) : Int)) t)) m news
  | 0, i, m, news, e, hj => by
    have e' : i = n := by omega
    subst e'
    exact ItemsRest.zero fun h tk F N => done m news h tk hj F N
  | k + 1, i, m, news, e, hj => ItemsRest.tok fun t h tk F it hc N =>
    wpAny_mono (turn i t m news it h tk (by omega) hj hc F N) (fun _ s₂ p => wpAny_mono p (fun f s₃ p' => unrW p' fun m' n' r' => ⟨trivial, toks_inv J turn done k (i + 1) m' n' (by omega) r'⟩) fun _ _ e => e) fun _ _ e => e
/-- A loop over a range whose name may be a cell: the state is any J over names and ledger. -/
theorem range_turns {r : Addr} {a b : Int} {t u v : Tok} {m₀ : Str → Option Value} {news : List (Addr × Obj)} (n : Nat) (J : Nat → (Str → Option Value) → List (Addr × Obj) → Prop)
    (hh : A.handled = none) (hr : IsRange s.heap r a b 1 t u v) (hlo : 0 ≤ a) (hhi : b < 2 ^ 30) (hblo : 0 ≤ b) (hlo2 : a < 2 ^ 30) (hn : (n : Int) = max 0 (b - a)) (F : Fr h₀ env.locals s.heap m₀) (N : News h₀ env.locals s.heap news)
    (start : ∀ I : Addr, (∀ p ∈ news, @LT.lt Nat _ p.1 I) → J 0 m₀ news)
    (turn : ∀ (I : Addr) i t m nw (it : Obj) h tk, (∀ p ∈ news, @LT.lt Nat _ p.1 I) → i < n → J i m nw → it.cls = .type "range_iterator" → Fr h₀ env.locals h m → News h₀ env.locals h ((I, it) :: nw) →
      wpAny (model prog w) A (assign (.Name x px) env (.int (a + (i : Int)) t)) (fun _ s₂ => wpAny (model prog w) A (execs body env) (UnrPost h₀ env.locals { s with heap := h, toks := tk } I it (fun m' n' => J (i + 1) m' n') Q) E s₂) E { s with heap := h, toks := tk })
    (done : ∀ m nw h tk, J n m nw → Fr h₀ env.locals h m → News h₀ env.locals h nw → Q .next { s with heap := h, toks := tk }) :
    wpAny (model prog w) A (pyIter (.ref r)) (fun it s₂ => TurnsAt prog w A h₀ env (.Name x px) body Q E it s₂) E s := by
  refine iter_rangeTurns (n := n) hh hr ?_ ?_ F N fun I hI => ?_
  · exact small_one (by omega) (by omega) (by omega) (by omega)
  · unfold Builtin.Range.rangeSize; simp; omega
  · have := toks_inv (s := s) (Q := Q) (E := E) (x := x) (px := px) (body := body) (T := "range_iterator") (a := a) (n := n) J (fun i t m nw it h tk hi hj hc F' N' => turn I i t m nw it h tk hI hi hj hc F' N') done n 0 m₀ news (by omega) (start I hI)
    rw [← List.range_eq_range'] at this
    exact this
end
section
variable {prog : Program} {w : World} {A : Around} {E : Value → Shared → Prop} {s : Shared} {h₀ : Heap} {L : Addr} {news : List (Addr × Obj)}
theorem neg_lst {value slice : PySem.Expr} {c : Addr} {vs : List Value} {n : Nat} {k : Int} {u : Tok} {v : Value} {Q : Value → Shared → Prop} (N : News h₀ L s.heap news) (hm : (c, W.listOf vs.toArray n) ∈ news) (h0 : k < 0) (h1 : -(vs.length : Int) ≤ k) (hx : vs[(k + vs.length).toNat]? = some v) (hz : vs.length < 2 ^ 62) (h : Q v s)
    (hs : subscripted slice false (.ref c) (.int k u) = operate [.ref c, .int k u] (getItem (.ref c) (.int k u)) := by with_unfolding_all rfl) :
    wpAny (model prog w) A (subscriptTail value slice (.ref c) (.int k u)) Q E s := by
  refine kde_neg (N.isList hm) h0 (by omega) (j := (k + vs.length).toNat) ?_ hx h hs
  unfold seqIndex?
  simp only [h0, if_true]
  rw [if_pos (by simp only [Bool.and_eq_true, decide_eq_true_eq]; omega)]
end
-- MACRO BEGIN
local macro_rules | `(tactic| k_all) => `(tactic| with_reducible assumption)
-- MACRO END
theorem off_p40 : True := by
  w_top off
  trivial
theorem lt6 : ∀ {k : Nat}, k < 6 → k = 0 ∨ k = 1 ∨ k = 2 ∨ k = 3 ∨ k = 4 ∨ k = 5
  | 0, _ => .inl rfl
  | 1, _ => .inr (.inl rfl)
  | 2, _ => .inr (.inr (.inl rfl))
  | 3, _ => .inr (.inr (.inr (.inl rfl)))
  | 4, _ => .inr (.inr (.inr (.inr (.inl rfl))))
  | 5, _ => .inr (.inr (.inr (.inr (.inr rfl))))
  | n + 6, h => absurd h (Nat.not_lt.mpr (Nat.le_add_left 6 n))
theorem lt9 : ∀ {k : Nat}, k < 9 → k = 0 ∨ k = 1 ∨ k = 2 ∨ k = 3 ∨ k = 4 ∨ k = 5 ∨ k = 6 ∨ k = 7 ∨ k = 8
  | 0, _ => .inl rfl
  | 1, _ => .inr (.inl rfl)
  | 2, _ => .inr (.inr (.inl rfl))
  | 3, _ => .inr (.inr (.inr (.inl rfl)))
  | 4, _ => .inr (.inr (.inr (.inr (.inl rfl))))
  | 5, _ => .inr (.inr (.inr (.inr (.inr (.inl rfl)))))
  | 6, _ => .inr (.inr (.inr (.inr (.inr (.inr (.inl rfl))))))
  | 7, _ => .inr (.inr (.inr (.inr (.inr (.inr (.inr (.inl rfl)))))))
  | 8, _ => .inr (.inr (.inr (.inr (.inr (.inr (.inr (.inr rfl)))))))
  | n + 9, h => absurd h (Nat.not_lt.mpr (Nat.le_add_left 9 n))
/-- What a line's white space tells: the counts by run, the trailing blanks, the length, the tabs; within the bounds of the law. -/
structure WsOk (ns : List Int) (b n nt : Int) : Prop where
  len : ns.length ≤ 9
  b0 : 0 ≤ b
  b8 : b ≤ 8
  nn : ∀ i, 0 ≤ ns.getD i 0
  last : 0 < ns.length → 0 < ns.getD (ns.length - 1) 0
  sum : nt = ns.getD 0 0 + ns.getD 1 0 + ns.getD 2 0 + ns.getD 3 0 + ns.getD 4 0 + ns.getD 5 0 + ns.getD 6 0 + ns.getD 7 0 + ns.getD 8 0
  tot : n = b + ns.getD 0 0 + 2 * ns.getD 1 0 + 3 * ns.getD 2 0 + 4 * ns.getD 3 0 + 5 * ns.getD 4 0 + 6 * ns.getD 5 0 + 7 * ns.getD 6 0 + 8 * ns.getD 7 0 + 9 * ns.getD 8 0
theorem getD_out {ns : List Int} {i : Nat} (h : ns.length ≤ i) : ns.getD i 0 = 0 := by
  rw [List.getD_eq_getElem?_getD, List.getElem?_eq_none h]; rfl
theorem ilS_ext (ns : List Int) (ts : Nat) : ∀ k d, ns.length ≤ ts + k → ilS ns ts (k + d) = ilS ns ts k
  | _, 0, _ => rfl
  | k, d + 1, h => by
    rw [← Nat.add_assoc, ilS, ilS_ext ns ts k d h, getD_out (by walk_at "zz")]
    simp
theorem lvl_eq {ns : List Int} {b nt : Int} {ts : Nat} (h : ns.length ≤ 9) (h1 : ts ≤ 9) : lvl ns b nt ts = b + ts * (ilS ns ts (9 - ts) + nt) := by
  rw [← Nat.add_sub_cancel' (Nat.sub_le_sub_right h ts), ilS_ext ns ts (ns.length - ts) _ (Nat.sub_le_iff_le_add'.mp (Nat.le_refl _))]; rfl
section
variable {ns : List Int} {b nt : Int} (h : ns.length ≤ 9)
include h
theorem lvl1 : lvl ns b nt 1 = b + (ns.getD 1 0 + 2 * ns.getD 2 0 + 3 * ns.getD 3 0 + 4 * ns.getD 4 0 + 5 * ns.getD 5 0 + 6 * ns.getD 6 0 + 7 * ns.getD 7 0 + 8 * ns.getD 8 0 + nt) := by
  rw [lvl_eq h (by decide)]; simp [ilS]
theorem lvl2 : lvl ns b nt 2 = b + 2 * (ns.getD 2 0 + ns.getD 3 0 + 2 * ns.getD 4 0 + 2 * ns.getD 5 0 + 3 * ns.getD 6 0 + 3 * ns.getD 7 0 + 4 * ns.getD 8 0 + nt) := by
  rw [lvl_eq h (by decide)]; simp [ilS]
theorem lvl3 : lvl ns b nt 3 = b + 3 * (ns.getD 3 0 + ns.getD 4 0 + ns.getD 5 0 + 2 * ns.getD 6 0 + 2 * ns.getD 7 0 + 2 * ns.getD 8 0 + nt) := by
  rw [lvl_eq h (by decide)]; simp [ilS]
theorem lvl4 : lvl ns b nt 4 = b + 4 * (ns.getD 4 0 + ns.getD 5 0 + ns.getD 6 0 + ns.getD 7 0 + 2 * ns.getD 8 0 + nt) := by
  rw [lvl_eq h (by decide)]; simp [ilS]
theorem lvl5 : lvl ns b nt 5 = b + 5 * (ns.getD 5 0 + ns.getD 6 0 + ns.getD 7 0 + ns.getD 8 0 + nt) := by
  rw [lvl_eq h (by decide)]; simp [ilS]
theorem lvl6 : lvl ns b nt 6 = b + 6 * (ns.getD 6 0 + ns.getD 7 0 + ns.getD 8 0 + nt) := by
  rw [lvl_eq h (by decide)]; simp [ilS]
theorem lvl7 : lvl ns b nt 7 = b + 7 * (ns.getD 7 0 + ns.getD 8 0 + nt) := by
  rw [lvl_eq h (by decide)]; simp [ilS]
theorem lvl8 : lvl ns b nt 8 = b + 8 * (ns.getD 8 0 + nt) := by
  rw [lvl_eq h (by decide)]; simp [ilS]
theorem lvl9 : lvl ns b nt 9 = b + 9 * nt := by
  rw [lvl_eq h (by decide)]; simp [ilS]
end
theorem off_p41 : True := by
  w_top off
  trivial
theorem list_getD_ext {a b : List Int} (hl : a.length = b.length) (h : ∀ i < a.length, a.getD i 0 = b.getD i 0) : a = b :=
  List.ext_getElem hl fun i h1 h2 => by
    have := h i h1
    simpa [List.getD_eq_getElem?_getD, h1, h2] using this
theorem acan {a b c : Int} (h : a + c = b + c) : a = b := by omega
theorem cmul {b k x y : Int} (h : b + k * x = b + k * y) (hk : k ≠ 0) : x = y := Int.eq_of_mul_eq_mul_left hk (Int.add_left_cancel h)
theorem col_eq {a0 a1 a2 a3 a4 a5 a6 a7 a8 b nt c0 c1 c2 c3 c4 c5 c6 c7 c8 b' nt' : Int}
    (s : nt = a0 + a1 + a2 + a3 + a4 + a5 + a6 + a7 + a8) (s' : nt' = c0 + c1 + c2 + c3 + c4 + c5 + c6 + c7 + c8) (h0 : 0 ≤ b) (h8 : b ≤ 8) (h0' : 0 ≤ b') (h8' : b' ≤ 8)
    (e1 : b + (a1 + 2 * a2 + 3 * a3 + 4 * a4 + 5 * a5 + 6 * a6 + 7 * a7 + 8 * a8 + nt) = b' + (c1 + 2 * c2 + 3 * c3 + 4 * c4 + 5 * c5 + 6 * c6 + 7 * c7 + 8 * c8 + nt'))
    (e2 : b + 2 * (a2 + a3 + 2 * a4 + 2 * a5 + 3 * a6 + 3 * a7 + 4 * a8 + nt) = b' + 2 * (c2 + c3 + 2 * c4 + 2 * c5 + 3 * c6 + 3 * c7 + 4 * c8 + nt'))
    (e3 : b + 3 * (a3 + a4 + a5 + 2 * a6 + 2 * a7 + 2 * a8 + nt) = b' + 3 * (c3 + c4 + c5 + 2 * c6 + 2 * c7 + 2 * c8 + nt'))
    (e4 : b + 4 * (a4 + a5 + a6 + a7 + 2 * a8 + nt) = b' + 4 * (c4 + c5 + c6 + c7 + 2 * c8 + nt'))
    (e5 : b + 5 * (a5 + a6 + a7 + a8 + nt) = b' + 5 * (c5 + c6 + c7 + c8 + nt'))
    (e6 : b + 6 * (a6 + a7 + a8 + nt) = b' + 6 * (c6 + c7 + c8 + nt'))
    (e7 : b + 7 * (a7 + a8 + nt) = b' + 7 * (c7 + c8 + nt'))
    (e8 : b + 8 * (a8 + nt) = b' + 8 * (c8 + nt'))
    (e9 : b + 9 * nt = b' + 9 * nt') : b = b' ∧ nt = nt' ∧ a0 = c0 ∧ a1 = c1 ∧ a2 = c2 ∧ a3 = c3 ∧ a4 = c4 ∧ a5 = c5 ∧ a6 = c6 ∧ a7 = c7 ∧ a8 = c8 := by
  have hnt : nt = nt' := by clear e1 e2 e3 e4 e5 e6 e7 e8 s s'; omega
  subst hnt
  have hb : b = b' := acan e9
  subst hb
  clear h0 h8 h0' h8' e9
  replace e8 := cmul e8 (by decide)
  have g8 : a8 = c8 := acan e8
  subst g8
  have g7 : a7 = c7 := acan (acan (cmul e7 (by decide)))
  subst g7
  have g6 : a6 = c6 := acan (acan (acan (cmul e6 (by decide))))
  subst g6
  have g5 : a5 = c5 := acan (acan (acan (acan (cmul e5 (by decide)))))
  subst g5
  have g4 : a4 = c4 := acan (acan (acan (acan (acan (cmul e4 (by decide))))))
  subst g4
  have g3 : a3 = c3 := acan (acan (acan (acan (acan (acan (cmul e3 (by decide)))))))
  subst g3
  have g2 : a2 = c2 := acan (acan (acan (acan (acan (acan (acan (cmul e2 (by decide))))))))
  subst g2
  have g1 : a1 = c1 := acan (acan (acan (acan (acan (acan (acan (acan (Int.add_left_cancel e1))))))))
  subst g1
  have g0 : a0 = c0 := acan (acan (acan (acan (acan (acan (acan (acan (s.symm.trans s'))))))))
  exact ⟨rfl, rfl, g0, rfl, rfl, rfl, rfl, rfl, rfl, rfl, rfl⟩
theorem ws_eq {ns ns' : List Int} {b n nt b' n' nt' : Int} (h : WsOk ns b n nt) (h' : WsOk ns' b' n' nt') (hall : ∀ k < 9, lvl ns b nt (k + 1) = lvl ns' b' nt' (k + 1)) : ns = ns' ∧ b = b' := by
  have l := h.len
  have l' := h'.len
  have s := h.sum
  have s' := h'.sum
  have c0 := h.b0; have c8 := h.b8; have c0' := h'.b0; have c8' := h'.b8
  have e1 := hall 0 (by decide); have e2 := hall 1 (by decide); have e3 := hall 2 (by decide)
  have e4 := hall 3 (by decide); have e5 := hall 4 (by decide); have e6 := hall 5 (by decide)
  have e7 := hall 6 (by decide); have e8 := hall 7 (by decide); have e9 := hall 8 (by decide)
  simp only [Nat.zero_add, Nat.reduceAdd] at e1 e2 e3 e4 e5 e6 e7 e8 e9
  rw [lvl1 l, lvl1 l'] at e1
  rw [lvl2 l, lvl2 l'] at e2
  rw [lvl3 l, lvl3 l'] at e3
  rw [lvl4 l, lvl4 l'] at e4
  rw [lvl5 l, lvl5 l'] at e5
  rw [lvl6 l, lvl6 l'] at e6
  rw [lvl7 l, lvl7 l'] at e7
  rw [lvl8 l, lvl8 l'] at e8
  rw [lvl9 l, lvl9 l'] at e9
  obtain ⟨hb, hnt, g0, g1, g2, g3, g4, g5, g6, g7, g8⟩ := col_eq s s' c0 c8 c0' c8' e1 e2 e3 e4 e5 e6 e7 e8 e9
  clear e1 e2 e3 e4 e5 e6 e7 e8 e9 s s' hall c0 c8 c0' c8'
  have g : ∀ i, ns.getD i 0 = ns'.getD i 0 := fun i => by
    rcases Nat.lt_or_ge i 9 with hi | hi
    · have := lt9 hi
      rcases this with rfl | rfl | rfl | rfl | rfl | rfl | rfl | rfl | rfl <;> assumption
    · rw [getD_out (by walk_at "zz"), getD_out (by walk_at "zz")]
  have hlen : ns.length = ns'.length := by
    rcases Nat.lt_trichotomy ns.length ns'.length with hlt | he | hgt
    · have := h'.last (by walk_at "zz")
      rw [← g, getD_out (by walk_at "zz")] at this
      omega
    · exact he
    · have := h.last (by walk_at "zz")
      rw [g, getD_out (by walk_at "zz")] at this
      omega
  exact ⟨list_getD_ext hlen fun i _ => g i, hb⟩
theorem all9 {P : Nat → Prop} : (∀ k < 9, P k) ↔ P 0 ∧ P 1 ∧ P 2 ∧ P 3 ∧ P 4 ∧ P 5 ∧ P 6 ∧ P 7 ∧ P 8 := by
  constructor
  · intro h
    exact ⟨h 0 (by decide), h 1 (by decide), h 2 (by decide), h 3 (by decide), h 4 (by decide), h 5 (by decide), h 6 (by decide), h 7 (by decide), h 8 (by decide)⟩
  · rintro ⟨h0, h1, h2, h3, h4, h5, h6, h7, h8⟩ k hk
    match k, hk with
    | 0, _ => exact h0
    | 1, _ => exact h1
    | 2, _ => exact h2
    | 3, _ => exact h3
    | 4, _ => exact h4
    | 5, _ => exact h5
    | 6, _ => exact h6
    | 7, _ => exact h7
    | 8, _ => exact h8
    | n + 9, hk => exact absurd hk (Nat.not_lt.mpr (Nat.le_add_left 9 n))
theorem off_p42 : True := by
  w_top off
  trivial
theorem lvl_big {ns : List Int} {b nt : Int} {ts : Nat} (h : ns.length ≤ ts) : lvl ns b nt ts = b + ts * nt := by
  rw [lvl, show ns.length - ts = 0 by walk_at "zz", ilS, Int.zero_add]
theorem lvl_one {ns : List Int} {b n nt : Int} (h : WsOk ns b n nt) : lvl ns b nt 1 = n := by
  have s := h.sum
  have t := h.tot
  rw [lvl1 h.len]
  omega
/-- b + t * nt grows from a place on. -/
theorem grow {b nt b' nt' : Int} {r t : Nat} (h : b + (r : Int) * nt < b' + (r : Int) * nt') (hn : nt ≤ nt') (ht : r ≤ t) : b + (t : Int) * nt < b' + (t : Int) * nt' := by
  have e : (t : Int) = (r : Int) + ((t - r : Nat) : Int) := by walk_at "zz"
  rw [e, Int.add_mul, Int.add_mul]
  have := Int.mul_le_mul_of_nonneg_left hn (Int.natCast_nonneg (t - r))
  omega
theorem less_nt {b nt b' nt' : Int} {r : Nat} (h : b + (r : Int) * nt < b' + (r : Int) * nt') (h0 : 0 ≤ b) (h8 : b' < r) : nt ≤ nt' := by
  rcases Int.lt_or_le nt' nt with hlt | hle
  · exfalso
    have h1 : nt' + 1 ≤ nt := hlt
    have := Int.mul_le_mul_of_nonneg_left h1 (Int.natCast_nonneg r)
    rw [Int.mul_add, Int.mul_one] at this
    omega
  · exact hle
theorem run_le {ns : List Int} {b : Int} {R : Nat} (h : runOf ns b ≤ (R : Int)) : ns.length ≤ R + 1 ∧ b ≤ R :=
  ⟨Int.ofNat_le.mp (Int.le_add_of_sub_right_le (Int.le_trans (Int.le_max_left _ _) h)), Int.le_trans (Int.le_max_right _ _) h⟩
theorem ws_less_iff {ns ns' : List Int} {b n nt b' n' nt' : Int} (h : WsOk ns b n nt) (h' : WsOk ns' b' n' nt') :
    lessB ns b n nt ns' b' n' nt' = true ↔ ∀ k < 9, lvl ns b nt (k + 1) < lvl ns' b' nt' (k + 1) := by
  have l := h.len
  have l' := h'.len
  have c0 := h.b0; have c8 := h.b8; have c0' := h'.b0; have c8' := h'.b8
  have o := lvl_one h
  have o' := lvl_one h'
  unfold lessB
  by_cases hn : n' ≤ n
  · rw [if_pos hn]
    constructor
    · intro q; cases q
    · intro q
      have := q 0 (by decide)
      rw [Nat.zero_add, o, o'] at this
      exact absurd hn (Int.not_le.mpr this)
  · rw [if_neg hn]
    by_cases hc : ns.length ≤ 1 ∧ ns'.length ≤ 1
    · rw [if_pos hc, decide_eq_true_eq]
      have e1 : b + ((1 : Nat) : Int) * nt < b' + ((1 : Nat) : Int) * nt' := by
        rw [← lvl_big hc.1, ← lvl_big hc.2, o, o']; exact Int.not_le.mp hn
      constructor
      · intro q k hk
        have h2 := Nat.le_add_left 1 k
        rw [lvl_big (Nat.le_trans hc.1 h2), lvl_big (Nat.le_trans hc.2 h2)]
        exact grow e1 q h2
      · intro q
        have := q 8 (by decide)
        rw [lvl_big l, lvl_big l'] at this
        exact less_nt this c0 (Int.lt_add_one_of_le c8')
    · rw [if_neg hc, decide_eq_true_eq]
      obtain ⟨R, hR, hR8⟩ := runs_bd (B := 8) (runOf_bd l ⟨c0, c8⟩) (runOf_bd l' ⟨c0', c8'⟩)
      have r1 := run_le (Int.le_trans (Int.le_max_left _ _) (Int.le_of_eq hR))
      have r2 := run_le (Int.le_trans (Int.le_max_right _ _) (Int.le_of_eq hR))
      rw [hR, Int.toNat_natCast]
      constructor
      · intro q
        have q1 : ∀ ts, 1 ≤ ts → ts ≤ R + 1 → lvl ns b nt ts < lvl ns' b' nt' ts := fun ts h1 h2 => by
          match ts, h1, h2 with
          | 1, _, _ => rw [o, o']; exact Int.not_le.mp hn
          | k + 2, _, h2 => rw [Nat.add_comm k 2]; exact q k (Nat.lt_of_succ_le (Nat.le_of_succ_le_succ h2))
        have q2 := q1 (R + 1) (Nat.le_add_left 1 R) (Nat.le_refl _)
        rw [lvl_big r1.1, lvl_big r2.1] at q2
        have q3 := less_nt q2 c0 (Int.lt_add_one_of_le r2.2)
        intro k hk
        rcases Nat.lt_or_ge k (R + 1) with h1 | h1
        · exact q1 (k + 1) (Nat.le_add_left 1 k) h1
        · have h2 := Nat.le_succ_of_le h1
          rw [lvl_big (Nat.le_trans r1.1 h2), lvl_big (Nat.le_trans r2.1 h2)]
          exact grow q2 q3 h2
      · intro q k hk
        rw [Nat.add_comm 2 k]
        exact q (k + 1) (Nat.lt_of_le_of_lt (Nat.le_trans hk hR8) (by decide))
theorem off_p43 : True := by
  w_top off
  trivial
def mkLead (rs : List Nat) (b : Nat) : List Nat := rs.flatMap (fun r => List.replicate r 32 ++ [9]) ++ List.replicate b 32
theorem scan_blanks (l : List Nat) : ∀ (k : Nat) (ns : List Int) (b n nt : Int), scanF (List.replicate k 32 ++ l) (ns, b, n, nt) = scanF l (ns, b + k, n + k, nt)
  | 0, ns, b, n, nt => by simp
  | k + 1, ns, b, n, nt => by
    rw [List.replicate_succ, List.cons_append, scanF, if_pos rfl, scan_blanks l k]
    have e1 : b + 1 + (k : Int) = b + ((k + 1 : Nat) : Int) := by push_cast; omega
    have e2 : n + 1 + (k : Int) = n + ((k + 1 : Nat) : Int) := by push_cast; omega
    rw [e1, e2]
theorem scan_run (l : List Nat) (r : Nat) (ns : List Int) (n nt : Int) : scanF ((List.replicate r 32 ++ [9]) ++ l) (ns, 0, n, nt) = scanF l (bump ns r, 0, n + r + 1, nt + 1) := by
  rw [List.append_assoc, scan_blanks, List.singleton_append, scanF, if_neg (by decide), if_pos rfl, Int.zero_add]
theorem scan_mk (l : List Nat) (b : Nat) : ∀ (rs : List Nat) (ns : List Int) (n nt : Int), scanF (mkLead rs b ++ l) (ns, 0, n, nt) =
    scanF (List.replicate b 32 ++ l) (rs.foldl (fun ns (r : Nat) => bump ns r) ns, 0, rs.foldl (fun n (r : Nat) => n + r + 1) n, rs.foldl (fun n (_ : Nat) => n + 1) nt)
  | [], ns, n, nt => rfl
  | r :: rs, ns, n, nt => by
    have e : mkLead (r :: rs) b ++ l = (List.replicate r 32 ++ [9]) ++ (mkLead rs b ++ l) := by simp [mkLead]
    rw [e, scan_run, scan_mk l b rs]
    rfl
theorem bump_len (ns : List Int) (r : Nat) : (bump ns r).length = max ns.length (r + 1) := by
  unfold bump
  by_cases h : (ns.length : Int) ≤ r
  · rw [Nat.max_eq_right (Nat.le_succ_of_le (Int.ofNat_le.mp h) : ns.length ≤ r + 1)]
    simp only [h, if_true, List.length_set, List.length_append, List.length_replicate]; omega
  · rw [Nat.max_eq_left (Int.ofNat_lt.mp (Int.not_le.mp h) : r + 1 ≤ ns.length)]
    simp only [h, if_false, List.length_set]
theorem getD_app0 (ns : List Int) (k i : Nat) : (ns ++ List.replicate k (0 : Int)).getD i 0 = ns.getD i 0 := by
  simp only [List.getD_eq_getElem?_getD]
  rcases Nat.lt_or_ge i ns.length with h | h
  · rw [List.getElem?_append_left h]
  · rw [List.getElem?_append_right h, List.getElem?_eq_none h, List.getElem?_replicate]
    split <;> rfl
theorem getD_set (ms : List Int) (r i : Nat) (v : Int) (h : r < ms.length) : (ms.set r v).getD i 0 = if i = r then v else ms.getD i 0 := by
  simp only [List.getD_eq_getElem?_getD, List.getElem?_set]
  by_cases e : r = i
  · subst e; simp [h]
  · rw [if_neg e, if_neg (fun q => e q.symm)]
theorem bump_getD (ns : List Int) (r i : Nat) : (bump ns r).getD i 0 = ns.getD i 0 + if i = r then 1 else 0 := by
  unfold bump
  by_cases h : (ns.length : Int) ≤ r
  · simp only [h, if_true, Int.toNat_natCast]
    rw [getD_set _ _ _ _ (by simp only [List.length_append, List.length_replicate]; omega), getD_app0, getD_app0]
    by_cases e : i = r
    · subst e; simp
    · simp [e]
  · simp only [h, if_false, Int.toNat_natCast]
    rw [getD_set _ _ _ _ (by walk_at "zz")]
    by_cases e : i = r
    · subst e; simp
    · simp [e]
theorem ws_nil : WsOk [] 0 0 0 := ⟨by decide, by decide, by decide, fun i => by simp, fun h => absurd h (by decide), by simp, by simp⟩
theorem comb {k x a b f d : Int} (h : x = a + b) : x + k * (f + d) = (a + k * f) + (b + k * d) := by
  rw [h, Int.mul_add]; omega
theorem comb1 {x a b f d : Int} (h : x = a + b) : x + (f + d) = (a + f) + (b + d) := by
  rw [h]; omega
theorem ite01 {p : Prop} [Decidable p] : 0 ≤ if p then (1 : Int) else 0 := by split <;> decide
theorem d_sum : ∀ r : Nat, r < 9 → (if 0 = r then (1 : Int) else 0) + (if 1 = r then 1 else 0) + (if 2 = r then 1 else 0) + (if 3 = r then 1 else 0) + (if 4 = r then 1 else 0) + (if 5 = r then 1 else 0) + (if 6 = r then 1 else 0) + (if 7 = r then 1 else 0) + (if 8 = r then 1 else 0) = 1 := by decide +kernel
theorem d_tot : ∀ r : Nat, r < 9 → (if 0 = r then (1 : Int) else 0) + 2 * (if 1 = r then 1 else 0) + 3 * (if 2 = r then 1 else 0) + 4 * (if 3 = r then 1 else 0) + 5 * (if 4 = r then 1 else 0) + 6 * (if 5 = r then 1 else 0) + 7 * (if 6 = r then 1 else 0) + 8 * (if 7 = r then 1 else 0) + 9 * (if 8 = r then 1 else 0) = (r : Int) + 1 := by decide +kernel
theorem ws_bump {ns : List Int} {n nt : Int} {r : Nat} (h : WsOk ns 0 n nt) (hr : r ≤ 8) : WsOk (bump ns r) 0 (n + r + 1) (nt + 1) := by
  refine ⟨by rw [bump_len]; exact Nat.max_le.mpr ⟨h.len, Nat.succ_le_succ hr⟩, by decide, by decide, fun i => ?_, fun _ => ?_, ?_, ?_⟩
  · rw [bump_getD]; exact Int.add_nonneg (h.nn i) ite01
  · rw [bump_len, bump_getD]
    rcases Nat.lt_or_ge r ns.length with h1 | h1
    · rw [Nat.max_eq_left h1]
      exact Int.add_pos_of_pos_of_nonneg (h.last (Nat.zero_lt_of_lt h1)) ite01
    · rw [Nat.max_eq_right (show ns.length ≤ r + 1 from Nat.le_succ_of_le h1), Nat.add_sub_cancel, if_pos rfl]
      exact Int.lt_add_one_of_le (h.nn r)
  · have e := (comb1 (comb1 (comb1 (comb1 (comb1 (comb1 (comb1 (comb1 (rfl : ns.getD 0 0 + (if 0 = r then (1 : Int) else 0) = _) (f := ns.getD 1 0) (d := if 1 = r then 1 else 0)) (f := ns.getD 2 0) (d := if 2 = r then 1 else 0)) (f := ns.getD 3 0) (d := if 3 = r then 1 else 0)) (f := ns.getD 4 0) (d := if 4 = r then 1 else 0)) (f := ns.getD 5 0) (d := if 5 = r then 1 else 0)) (f := ns.getD 6 0) (d := if 6 = r then 1 else 0)) (f := ns.getD 7 0) (d := if 7 = r then 1 else 0)) (f := ns.getD 8 0) (d := if 8 = r then 1 else 0))
    rw [← h.sum, d_sum r (Nat.lt_succ_of_le hr)] at e
    rw [bump_getD, bump_getD, bump_getD, bump_getD, bump_getD, bump_getD, bump_getD, bump_getD, bump_getD]
    exact e.symm
  · have e := (comb (k := 9) (comb (k := 8) (comb (k := 7) (comb (k := 6) (comb (k := 5) (comb (k := 4) (comb (k := 3) (comb (k := 2) ((Int.add_assoc 0 _ _).symm : 0 + (ns.getD 0 0 + (if 0 = r then (1 : Int) else 0)) = _) (f := ns.getD 1 0) (d := if 1 = r then 1 else 0)) (f := ns.getD 2 0) (d := if 2 = r then 1 else 0)) (f := ns.getD 3 0) (d := if 3 = r then 1 else 0)) (f := ns.getD 4 0) (d := if 4 = r then 1 else 0)) (f := ns.getD 5 0) (d := if 5 = r then 1 else 0)) (f := ns.getD 6 0) (d := if 6 = r then 1 else 0)) (f := ns.getD 7 0) (d := if 7 = r then 1 else 0)) (f := ns.getD 8 0) (d := if 8 = r then 1 else 0))
    rw [← h.tot, d_tot r (Nat.lt_succ_of_le hr)] at e
    rw [Int.add_assoc n, bump_getD, bump_getD, bump_getD, bump_getD, bump_getD, bump_getD, bump_getD, bump_getD, bump_getD]
    exact e.symm
theorem ws_fold : ∀ (rs : List Nat) {ns : List Int} {n nt : Int}, WsOk ns 0 n nt → (∀ r ∈ rs, r ≤ 8) → WsOk (rs.foldl (fun ns (r : Nat) => bump ns r) ns) 0 (rs.foldl (fun n (r : Nat) => n + r + 1) n) (rs.foldl (fun n (_ : Nat) => n + 1) nt)
  | [], _, _, _, h, _ => h
  | r :: rs, _, _, _, h, hr => ws_fold rs (ws_bump h (hr r List.mem_cons_self)) fun q hq => hr q (List.mem_cons_of_mem _ hq)
theorem cst {x x' y b : Int} (h : x + b = x') : x + y + b = x' + y := by rw [Int.add_right_comm, h]
theorem ws_trail {ns : List Int} {n nt : Int} {b : Nat} (h : WsOk ns 0 n nt) (hb : b ≤ 8) : WsOk ns b (n + b) nt :=
  ⟨h.len, Int.natCast_nonneg b, Int.ofNat_le.mpr hb, h.nn, h.last, h.sum, by
    have t := h.tot
    rw [t]; exact cst (cst (cst (cst (cst (cst (cst (cst (cst (Int.zero_add (b : Int))))))))))⟩
/-- Runs closed at most A, trailing blanks at most B. -/
def LeadB (A B : Nat) (l : List Nat) : Prop := ∃ rs b, l = mkLead rs b ∧ (∀ r ∈ rs, r ≤ A) ∧ b ≤ B
def scanOf (l : Str) : List Int × Int × Int × Int := scanF l.cps.toList ([], 0, 0, 0)
theorem scan_lead {A B : Nat} {l : List Nat} (h : LeadB A B l) (hA : A ≤ 8) (hB : B ≤ 8) (e : List Nat) (he : ∀ c, scanF e c = c) : ∃ ns b n nt, scanF (l ++ e) ([], 0, 0, 0) = (ns, b, n, nt) ∧ scanF l ([], 0, 0, 0) = (ns, b, n, nt) ∧ WsOk ns b n nt := by
  obtain ⟨rs, b, rfl, hr, hb⟩ := h
  have w := ws_trail (b := b) (ws_fold rs ws_nil fun r hq => Nat.le_trans (hr r hq) hA) (Nat.le_trans hb hB)
  refine ⟨_, _, _, _, ?_, ?_, w⟩
  · rw [scan_mk, scan_blanks, he]; simp
  · have e1 := scan_mk [] b rs [] 0 0
    have e2 := scan_blanks [] b
    rw [List.append_nil] at e1
    rw [e1, e2, scanF]; simp
def pieceL : Nat → List Nat
  | 0 => []
  | 1 => [9]
  | 2 => [32, 9]
  | 3 => [32, 32, 9]
  | 4 => [32]
  | _ => [9, 9]
theorem mk_snoc (rs : List Nat) (b r : Nat) : mkLead rs b ++ (List.replicate r 32 ++ [9]) = mkLead (rs ++ [b + r]) 0 := by
  simp only [mkLead, List.flatMap_append, List.flatMap_cons, List.flatMap_nil, List.append_nil, List.replicate_zero, List.append_assoc]
  rw [← List.append_assoc (List.replicate b 32), List.replicate_append_replicate]
theorem mk_blank (rs : List Nat) (b : Nat) : mkLead rs b ++ [32] = mkLead rs (b + 1) := by
  simp [mkLead, List.replicate_succ']
theorem mk_cons (rs : List Nat) (b r : Nat) : (List.replicate r 32 ++ [9]) ++ mkLead rs b = mkLead (r :: rs) b := by
  simp [mkLead]
theorem mk_blank0 (r : Nat) (rs : List Nat) (b : Nat) : 32 :: mkLead (r :: rs) b = mkLead ((r + 1) :: rs) b := by
  simp [mkLead, List.replicate_succ]
theorem mk_blank1 (b : Nat) : 32 :: mkLead [] b = mkLead [] (b + 1) := by
  simp [mkLead, List.replicate_succ]
theorem lead_app {s : Nat} {l : List Nat} {j : Nat} (h : LeadB (s + 1) s l) (hj : j < 6) : LeadB (s + 2) (s + 1) (l ++ pieceL j) := by
  obtain ⟨rs, b, rfl, hr, hb⟩ := h
  have hr' : ∀ r ∈ rs, r ≤ s + 2 := fun r hq => Nat.le_succ_of_le (hr r hq)
  have sn : ∀ q, b + q ≤ s + 2 → ∀ r ∈ rs ++ [b + q], r ≤ s + 2 := fun q hq r hr9 => by
    rcases List.mem_append.mp hr9 with h1 | h1
    · exact hr' r h1
    · rw [List.mem_singleton.mp h1]; exact hq
  have := lt6 hj
  rcases this with rfl | rfl | rfl | rfl | rfl | rfl
  · exact ⟨rs, b, by simp [pieceL], hr', by walk_at "zz"⟩
  · exact ⟨rs ++ [b + 0], 0, mk_snoc rs b 0, sn 0 (by walk_at "zz"), by walk_at "zz"⟩
  · exact ⟨rs ++ [b + 1], 0, mk_snoc rs b 1, sn 1 (by walk_at "zz"), by walk_at "zz"⟩
  · exact ⟨rs ++ [b + 2], 0, mk_snoc rs b 2, sn 2 (by walk_at "zz"), by walk_at "zz"⟩
  · exact ⟨rs, b + 1, mk_blank rs b, hr', by walk_at "zz"⟩
  · refine ⟨(rs ++ [b + 0]) ++ [0 + 0], 0, ?_, fun r h9 => ?_, by walk_at "zz"⟩
    · rw [← mk_snoc, ← mk_snoc]; simp [pieceL]
    · rcases List.mem_append.mp h9 with h1 | h1
      · exact sn 0 (by walk_at "zz") r h1
      · rw [List.mem_singleton.mp h1]; omega
theorem lead_pre {s : Nat} {l : List Nat} {j : Nat} (h : LeadB (s + 1) s l) (hj : j < 6) : LeadB (s + 2) (s + 1) (pieceL j ++ l) := by
  obtain ⟨rs, b, rfl, hr, hb⟩ := h
  have hr' : ∀ r ∈ rs, r ≤ s + 2 := fun r hq => Nat.le_succ_of_le (hr r hq)
  have sn : ∀ q, q ≤ s + 2 → ∀ r ∈ q :: rs, r ≤ s + 2 := fun q hq r hr9 => by
    rcases List.mem_cons.mp hr9 with h1 | h1
    · rw [h1]; exact hq
    · exact hr' r h1
  have := lt6 hj
  rcases this with rfl | rfl | rfl | rfl | rfl | rfl
  · exact ⟨rs, b, by simp [pieceL], hr', by walk_at "zz"⟩
  · exact ⟨0 :: rs, b, mk_cons rs b 0, sn 0 (by walk_at "zz"), by walk_at "zz"⟩
  · exact ⟨1 :: rs, b, mk_cons rs b 1, sn 1 (by walk_at "zz"), by walk_at "zz"⟩
  · exact ⟨2 :: rs, b, mk_cons rs b 2, sn 2 (by walk_at "zz"), by walk_at "zz"⟩
  · cases rs with
    | nil => exact ⟨[], b + 1, mk_blank1 b, hr', by walk_at "zz"⟩
    | cons r rs =>
      refine ⟨(r + 1) :: rs, b, mk_blank0 r rs b, fun q h9 => ?_, by walk_at "zz"⟩
      rcases List.mem_cons.mp h9 with h1 | h1
      · rw [h1]; have := hr r List.mem_cons_self; omega
      · exact hr' q (List.mem_cons_of_mem _ h1)
  · refine ⟨0 :: 0 :: rs, b, ?_, fun r h9 => ?_, by walk_at "zz"⟩
    · rw [← mk_cons, ← mk_cons]; simp [pieceL]
    · rcases List.mem_cons.mp h9 with h1 | h1
      · rw [h1]; omega
      · exact sn 0 (by walk_at "zz") r h1
theorem lead_tab {s : Nat} {l : List Nat} (h : LeadB (s + 1) s l) : LeadB (s + 1) s (l ++ [9]) := by
  obtain ⟨rs, b, rfl, hr, hb⟩ := h
  refine ⟨rs ++ [b + 0], 0, mk_snoc rs b 0, fun r h9 => ?_, by walk_at "zz"⟩
  rcases List.mem_append.mp h9 with h1 | h1
  · exact hr r h1
  · rw [List.mem_singleton.mp h1]; omega
theorem lead_nil : LeadB 1 0 [] := ⟨[], 0, rfl, ⟨fun _ h => (nomatch h), Nat.le_refl _⟩⟩
theorem lead_weak {A B A' B' : Nat} {l : List Nat} (h : LeadB A B l) (ha : A ≤ A') (hb : B ≤ B') : LeadB A' B' l := by
  obtain ⟨rs, b, rfl, hr, hb'⟩ := h
  exact ⟨rs, b, rfl, fun r hq => Nat.le_trans (hr r hq) ha, Nat.le_trans hb' hb⟩
theorem off_p44 : True := by
  w_top off
  trivial
abbrev gC (r : List Int) (k : Nat) : Int := r.getD k 0
def z9 : List Int := List.replicate 9 0
def lastD {α : Type} (l : List (List α)) : List α := l.getD (l.length - 1) []
/-- The lines that lie, their paths, the ladder of columns. -/
inductive Run : List (List Int) → List (List Nat) → List (List Int) → Prop
  | start : Run [z9] [[0]] [z9]
  | step {cols : List (List Int)} {ds : List (List Nat)} {lad : List (List Int)} {c : List Int} {p : Nat} (h : Run cols ds lad) (hp : p ≤ lad.length)
      (hc : (p = lad.length ∧ ∀ k < 9, gC (lastD lad) k < gC c k) ∨ lad[p]? = some c) : Run (cols ++ [c]) (ds ++ [(lastD ds).take p ++ [ds.length]]) (lad.take p ++ [c])
/-- At tab place k the first least column in (i, j] is l's. -/
def FLk (cols : List (List Int)) (i j l k : Nat) : Prop :=
  i < l ∧ l ≤ j ∧ (∀ j', i < j' → j' ≤ j → gC (cols.getD l []) k ≤ gC (cols.getD j' []) k) ∧ ∀ j', i < j' → j' < l → gC (cols.getD l []) k < gC (cols.getD j' []) k
theorem FLk.unique {cols : List (List Int)} {i j l l' k : Nat} (h : FLk cols i j l k) (h' : FLk cols i j l' k) : l = l' := by
  obtain ⟨a1, a2, a3, a4⟩ := h
  obtain ⟨b1, b2, b3, b4⟩ := h'
  rcases Nat.lt_trichotomy l l' with q | q | q
  · have := b4 l a1 q
    have := a3 l' b1 b2
    omega
  · exact q
  · have := a4 l' b1 q
    have := b3 l a1 a2
    omega
theorem FLk.first (cols : List (List Int)) (i k : Nat) : FLk cols i (i + 1) (i + 1) k :=
  ⟨Nat.lt_succ_self _, Nat.le_refl _, fun j' h1 h2 => by
    have : j' = i + 1 := by omega
    subst this; exact Int.le_refl _, fun j' h1 h2 => by omega⟩
theorem FLk.next {cols : List (List Int)} {i j l k : Nat} (h : FLk cols i j l k) : FLk cols i (j + 1) (if gC (cols.getD (j + 1) []) k < gC (cols.getD l []) k then j + 1 else l) k := by
  obtain ⟨a1, a2, a3, a4⟩ := h
  split
  · rename_i hlt
    refine ⟨by walk_at "zz", by walk_at "zz", fun j' h1 h2 => ?_, fun j' h1 h2 => ?_⟩
    · rcases Nat.lt_or_ge j j' with q | q
      · have : j' = j + 1 := by walk_at "zz"
        subst this; exact Int.le_refl _
      · have := a3 j' h1 q; omega
    · have := a3 j' h1 (by walk_at "zz"); omega
  · rename_i hge
    refine ⟨a1, by walk_at "zz", fun j' h1 h2 => ?_, a4⟩
    rcases Nat.lt_or_ge j j' with q | q
    · have : j' = j + 1 := by walk_at "zz"
      subst this; omega
    · exact a3 j' h1 q
def lcpN : List Nat → List Nat → List Nat
  | a :: r, b :: t => if a = b then a :: lcpN r t else []
  | _, _ => []
theorem lcpN_eq : ∀ (a b : List Nat) (q : Nat), a.take q = b.take q → q < b.length → q ≤ a.length → (∀ x, a[q]? = some x → b[q]? ≠ some x) → lcpN a b = a.take q
  | [], _, q, _, _, h, _ => by unfold lcpN; simp
  | _ :: _, [], _, _, h, _, _ => by simp at h
  | x :: r, y :: t, 0, _, _, _, hn => by
    unfold lcpN
    rw [if_neg (fun e => hn x rfl (by rw [e]; rfl))]; rfl
  | x :: r, y :: t, q + 1, he, hb, ha, hn => by
    rw [List.take_succ_cons, List.take_succ_cons] at he
    obtain ⟨e1, e2⟩ := List.cons.inj he
    unfold lcpN
    rw [if_pos e1, List.take_succ_cons, lcpN_eq r t q e2 (by simpa using hb) (by simpa using ha) (fun z hz => by simpa using hn z (by simpa using hz))]
/-- What the line j's path says of the lines before it. -/
def Par (cols : List (List Int)) (ds : List (List Nat)) (j : Nat) : Prop :=
  (ds.getD j [] = [j] ∧ ∀ i < j, ∀ k < 9, gC (cols.getD j []) k ≤ gC (cols.getD i []) k) ∨
  ∃ i, i < j ∧ ds.getD j [] = ds.getD i [] ++ [j] ∧ (∀ k < 9, gC (cols.getD i []) k < gC (cols.getD j []) k) ∧ ∀ i', i < i' → i' < j → ∀ k < 9, gC (cols.getD j []) k ≤ gC (cols.getD i' []) k
def Pair (cols : List (List Int)) (ds : List (List Nat)) (i j : Nat) : Prop :=
  ∃ l, (∀ k < 9, FLk cols i j l k) ∧ (ds.getD l []).dropLast = lcpN (ds.getD i []) (ds.getD j [])
def Win (cols : List (List Int)) (ds : List (List Nat)) (lad : List (List Int)) (i : Nat) : Prop :=
  ∃ l q, (∀ k < 9, FLk cols i (ds.length - 1) l k) ∧ (ds.getD l []).dropLast = (ds.getD i []).take q ∧ q ≤ (ds.getD i []).length ∧ q < lad.length ∧ lad.getD q [] = cols.getD l [] ∧ (lastD ds).take q = (ds.getD i []).take q ∧ ∃ x, (lastD ds)[q]? = some x ∧ i < x
structure Inv (cols : List (List Int)) (ds : List (List Nat)) (lad : List (List Int)) : Prop where
  lc : cols.length = ds.length
  pos : 0 < ds.length
  ll : lad.length = (lastD ds).length
  lpos : 0 < lad.length
  inc : ∀ a b, a < b → b < lad.length → ∀ k < 9, gC (lad.getD a []) k < gC (lad.getD b []) k
  lev : ∃ t : Nat → Nat, (∀ q < lad.length, t q < ds.length ∧ cols.getD (t q) [] = lad.getD q [] ∧ ds.getD (t q) [] = (lastD ds).take (q + 1)) ∧ t (lad.length - 1) = ds.length - 1 ∧
    ∀ q < lad.length, ∀ i < ds.length, (q = 0 ∨ t (q - 1) < i) → ∀ k < 9, gC (lad.getD q []) k ≤ gC (cols.getD i []) k
  dig : ∀ j < ds.length, ∀ d ∈ ds.getD j [], d ≤ j
  par : ∀ j < ds.length, Par cols ds j
  pair : ∀ i j, i < j → j < ds.length → Pair cols ds i j
  win : ∀ i, i + 1 < ds.length → Win cols ds lad i
theorem getD_app {α : Type} {l : List α} {x d : α} {i : Nat} (h : i < l.length) : (l ++ [x]).getD i d = l.getD i d := by
  simp [List.getD_eq_getElem?_getD, List.getElem?_append_left h]
theorem getD_new {α : Type} {l : List α} {x d : α} : (l ++ [x]).getD l.length d = x := by
  simp [List.getD_eq_getElem?_getD]
theorem lastD_app {α : Type} {l : List (List α)} {x : List α} : lastD (l ++ [x]) = x := by
  unfold lastD
  rw [List.length_append, List.length_singleton, Nat.add_sub_cancel, getD_new]
theorem getD_take {α : Type} {l : List α} {d : α} {p i : Nat} (h : i < p) : (l.take p).getD i d = l.getD i d := by
  simp [List.getD_eq_getElem?_getD, List.getElem?_take, h]
theorem Par.app {cols : List (List Int)} {ds : List (List Nat)} {j : Nat} {c : List Int} {d : List Nat} (h : Par cols ds j) (hc : j < cols.length) (hd : j < ds.length) : Par (cols ++ [c]) (ds ++ [d]) j := by
  have gc : ∀ i, i ≤ j → (cols ++ [c]).getD i [] = cols.getD i [] := fun i hi => getD_app (by walk_at "zz")
  have gd : ∀ i, i ≤ j → (ds ++ [d]).getD i [] = ds.getD i [] := fun i hi => getD_app (by walk_at "zz")
  rcases h with ⟨h1, h2⟩ | ⟨i, h0, h1, h2, h3⟩
  · refine .inl ⟨by rw [gd j (Nat.le_refl _)]; exact h1, fun i hi k hk => ?_⟩
    rw [gc j (Nat.le_refl _), gc i (by walk_at "zz")]; exact h2 i hi k hk
  · refine .inr ⟨i, h0, by rw [gd j (Nat.le_refl _), gd i (by walk_at "zz")]; exact h1, fun k hk => ?_, fun i' a b k hk => ?_⟩
    · rw [gc j (Nat.le_refl _), gc i (by walk_at "zz")]; exact h2 k hk
    · rw [gc j (Nat.le_refl _), gc i' (by walk_at "zz")]; exact h3 i' a b k hk
theorem FLk.app {cols : List (List Int)} {i j l k : Nat} {c : List Int} (h : FLk cols i j l k) (hj : j < cols.length) : FLk (cols ++ [c]) i j l k := by
  obtain ⟨a1, a2, a3, a4⟩ := h
  have gc : ∀ i, i ≤ j → (cols ++ [c]).getD i [] = cols.getD i [] := fun i hi => getD_app (by walk_at "zz")
  refine ⟨a1, a2, fun j' h1 h2 => ?_, fun j' h1 h2 => ?_⟩
  · rw [gc l a2, gc j' h2]; exact a3 j' h1 h2
  · rw [gc l a2, gc j' (by walk_at "zz")]; exact a4 j' h1 h2
theorem Pair.app {cols : List (List Int)} {ds : List (List Nat)} {i j : Nat} {c : List Int} {d : List Nat} (h : Pair cols ds i j) (hij : i < j) (hc : j < cols.length) (hd : j < ds.length) : Pair (cols ++ [c]) (ds ++ [d]) i j := by
  obtain ⟨l, h1, h2⟩ := h
  have hl := (h1 0 (by decide)).2.1
  exact ⟨l, fun k hk => (h1 k hk).app hc, by rw [getD_app (by walk_at "zz"), getD_app (by walk_at "zz"), getD_app (by walk_at "zz")]; exact h2⟩
theorem off_p45 : True := by
  w_top off
  trivial
theorem Inv.start : Inv [z9] [[0]] [z9] where
  lc := rfl
  pos := by decide
  ll := rfl
  lpos := by decide
  inc := fun a b h1 h2 => by simp at h2; omega
  lev := ⟨fun _ => 0, fun q hq => by
    have : q = 0 := by simp at hq; omega
    subst this; exact ⟨by decide, rfl, rfl⟩, rfl, fun q hq i hi _ k _ => by
    have e1 : q = 0 := by simp at hq; omega
    have e2 : i = 0 := by simp at hi; omega
    subst e1 e2; exact Int.le_refl _⟩
  dig := fun j hj d hd => by
    have e : j = 0 := by simp at hj; omega
    subst e
    have : d = 0 := by simpa using hd
    omega
  par := fun j hj => by
    have e : j = 0 := by simp at hj; omega
    subst e
    exact .inl ⟨rfl, fun i hi => absurd hi (Nat.not_lt_zero _)⟩
  pair := fun i j h1 h2 => by simp at h2; omega
  win := fun i h => by simp at h
theorem lastD_eq {α : Type} (l : List (List α)) : lastD l = l.getD (l.length - 1) [] := rfl
theorem Inv.step {cols : List (List Int)} {ds : List (List Nat)} {lad : List (List Int)} {c : List Int} {p : Nat} (I : Inv cols ds lad) (hp : p ≤ lad.length)
    (hc : (p = lad.length ∧ ∀ k < 9, gC (lastD lad) k < gC c k) ∨ lad[p]? = some c) : Inv (cols ++ [c]) (ds ++ [(lastD ds).take p ++ [ds.length]]) (lad.take p ++ [c]) := by
  have hlc := I.lc
  have hpos := I.pos
  have hll := I.ll
  have hlpos := I.lpos
  obtain ⟨t, ht1, ht3, ht2⟩ := I.lev
  -- the lower levels are less than c
  have below : ∀ q < p, ∀ k < 9, gC (lad.getD q []) k < gC c k := fun q hq k hk => by
    rcases hc with ⟨e, h⟩ | h
    · have hl := h k hk
      rcases Nat.eq_or_lt_of_le (Nat.le_sub_one_of_lt (Nat.lt_of_lt_of_eq hq e)) with e2 | e2
      · rw [lastD_eq, ← e2] at hl; exact hl
      · have := I.inc q (lad.length - 1) e2 (Nat.sub_lt hlpos Nat.one_pos) k hk
        rw [lastD_eq] at hl
        exact Int.lt_trans this hl
    · have e2 : lad.getD p [] = c := by rw [List.getD_eq_getElem?_getD, h]; rfl
      have hp2 : p < lad.length := (List.getElem?_eq_some_iff.mp h).1
      have := I.inc q p hq hp2 k hk
      rw [e2] at this; exact this
  -- all lines behind the parent's are not less than c
  have above : ∀ i < ds.length, (p = 0 ∨ t (p - 1) < i) → ∀ k < 9, gC c k ≤ gC (cols.getD i []) k := fun i hi h1 k hk => by
    rcases hc with ⟨e, h⟩ | h
    · exfalso
      rcases h1 with h1 | h1
      · exact absurd (e.symm.trans h1) (Nat.ne_of_gt hlpos)
      · rw [e, ht3] at h1
        exact Nat.not_lt.mpr (Nat.le_sub_one_of_lt hi) h1
    · have e2 : lad.getD p [] = c := by rw [List.getD_eq_getElem?_getD, h]; rfl
      have hp2 : p < lad.length := (List.getElem?_eq_some_iff.mp h).1
      have := ht2 p hp2 i hi h1 k hk
      rw [e2] at this; exact this
  have hm : ds.length = ds.length := rfl
  have hL : lastD (ds ++ [(lastD ds).take p ++ [ds.length]]) = (lastD ds).take p ++ [ds.length] := lastD_app
  have hTl : Unit → ((lastD ds).take p).length = p := fun _ => by rw [List.length_take, Nat.min_eq_left (hll ▸ hp)]
  have hlad : ∀ q < p, (lad.take p ++ [c]).getD q [] = lad.getD q [] := fun q hq => by
    rw [getD_app (by rw [List.length_take, Nat.min_eq_left hp]; exact hq), getD_take hq]
  have hladp : (lad.take p ++ [c]).getD p [] = c := by
    have : (lad.take p).length = p := by rw [List.length_take, Nat.min_eq_left hp]
    have := @getD_new _ (lad.take p) c ([] : List Int)
    rwa [‹(lad.take p).length = p›] at this
  have hcolm : (cols ++ [c]).getD ds.length [] = c := by rw [← hlc]; exact getD_new
  have hcoli : ∀ i < ds.length, (cols ++ [c]).getD i [] = cols.getD i [] := fun i hi => getD_app (Nat.lt_of_lt_of_eq hi hlc.symm)
  have hdsm : (ds ++ [(lastD ds).take p ++ [ds.length]]).getD ds.length [] = (lastD ds).take p ++ [ds.length] := getD_new
  have hdsi : ∀ i < ds.length, (ds ++ [(lastD ds).take p ++ [ds.length]]).getD i [] = ds.getD i [] := fun i hi => getD_app hi
  have hlen : Unit → (ds ++ [(lastD ds).take p ++ [ds.length]]).length = ds.length + 1 := fun _ => by simp
  have hladl : Unit → (lad.take p ++ [c]).length = p + 1 := fun _ => by rw [List.length_append, List.length_take, List.length_singleton, Nat.min_eq_left hp]
  have tk : ∀ q ≤ p, ((lastD ds).take p ++ [ds.length]).take q = (lastD ds).take q := fun q hq => by
    rw [List.take_append_of_le_length (Nat.le_trans hq (Nat.le_of_eq (hTl ()).symm)), List.take_take, Nat.min_eq_left hq]
  have atp : ((lastD ds).take p ++ [ds.length])[p]? = some ds.length := by
    rw [List.getElem?_append_right (Nat.le_of_eq (hTl ())), hTl (), Nat.sub_self]; rfl
  have atq : ∀ q < p, ((lastD ds).take p ++ [ds.length])[q]? = (lastD ds)[q]? := fun q hq => by
    rw [List.getElem?_append_left (Nat.lt_of_lt_of_eq hq (hTl ()).symm), List.getElem?_take_of_lt hq]
  have core : ∀ i, i + 1 < (ds ++ [(lastD ds).take p ++ [ds.length]]).length → Win (cols ++ [c]) (ds ++ [(lastD ds).take p ++ [ds.length]]) (lad.take p ++ [c]) i := by
    intro i hi
    rw [hlen ()] at hi
    unfold Win
    rw [hL, hladl (), hlen (), Nat.add_sub_cancel, hdsi i (Nat.lt_of_succ_lt_succ hi)]
    rcases Nat.eq_or_lt_of_le (Nat.le_of_lt_succ hi) with e | h1
    · have hDi : ds.getD i [] = lastD ds := by rw [lastD_eq, ← e, Nat.add_sub_cancel]
      rw [hDi]
      refine ⟨ds.length, p, fun k hk => by rw [← e]; exact FLk.first _ _ _, by rw [hdsm, List.dropLast_concat], hll ▸ hp, Nat.lt_succ_self p, by rw [hladp, hcolm], tk p (Nat.le_refl _), ds.length, atp, e ▸ Nat.lt_succ_self i⟩
    · obtain ⟨l, q, f1, f2, f3, f4, f5, f6, x, f7, f8⟩ := I.win i h1
      have hl := (f1 0 (by decide)).2.1
      have hl9 : l < ds.length := Nat.lt_of_le_of_lt hl (Nat.sub_lt hpos Nat.one_pos)
      have step : ∀ k < 9, FLk (cols ++ [c]) i ds.length (if gC c k < gC (cols.getD l []) k then ds.length else l) k := fun k hk => by
        have := ((f1 k hk).app (c := c) (Nat.lt_of_lt_of_eq (Nat.sub_lt hpos Nat.one_pos) hlc.symm)).next
        rw [Nat.sub_add_cancel hpos, hcolm, hcoli l hl9] at this
        exact this
      rcases Nat.lt_trichotomy p q with hpq | hpq | hpq
      · have less : ∀ k < 9, gC c k < gC (cols.getD l []) k := fun k hk => by
          rw [← f5]
          rcases hc with ⟨e, _⟩ | h
          · exact absurd (e ▸ hpq) (Nat.lt_asymm f4)
          · have e2 : lad.getD p [] = c := by rw [List.getD_eq_getElem?_getD, h]; rfl
            rw [← e2]; exact I.inc p q hpq f4 k hk
        have tkp : (lastD ds).take p = (ds.getD i []).take p := by
          have := congrArg (List.take p) f6
          rwa [List.take_take, List.take_take, Nat.min_eq_left (Nat.le_of_lt hpq)] at this
        refine ⟨ds.length, p, fun k hk => ?_, by rw [hdsm, List.dropLast_concat, tkp], Nat.le_trans (Nat.le_of_lt hpq) f3, Nat.lt_succ_self p, by rw [hladp, hcolm], by rw [tk p (Nat.le_refl _), tkp], ds.length, atp, Nat.lt_of_succ_lt h1⟩
        have := step k hk
        rwa [if_pos (less k hk)] at this
      · subst hpq
        have e2 : c = cols.getD l [] := by
          rcases hc with ⟨e, _⟩ | h
          · exact absurd e (Nat.ne_of_lt f4)
          · rw [← f5, List.getD_eq_getElem?_getD, h]; rfl
        refine ⟨l, p, fun k hk => ?_, by rw [hdsi l hl9]; exact f2, f3, Nat.lt_succ_self p, by rw [hladp, hcoli l hl9]; exact e2, by rw [tk p (Nat.le_refl _)]; exact f6, ds.length, atp, Nat.lt_of_succ_lt h1⟩
        have := step k hk
        rwa [if_neg (by rw [← e2]; exact Int.lt_irrefl _)] at this
      · refine ⟨l, q, fun k hk => ?_, by rw [hdsi l hl9]; exact f2, f3, Nat.lt_succ_of_lt hpq, by rw [hlad q hpq, hcoli l hl9]; exact f5, by rw [tk q (Nat.le_of_lt hpq)]; exact f6, x, by rw [atq q hpq]; exact f7, f8⟩
        have := step k hk
        have hb := below q hpq k hk
        rw [f5] at hb
        rwa [if_neg (Int.not_lt.mpr (Int.le_of_lt hb))] at this
  refine ⟨by simp [hlc], by simp, by rw [hL, hladl (), List.length_append, hTl (), List.length_singleton], by rw [hladl ()]; exact Nat.succ_pos p, ?_, ?_, ?_, ?_, ?_, core⟩
  · intro a b hab hb k hk
    rw [hladl ()] at hb
    rcases Nat.eq_or_lt_of_le (Nat.le_of_lt_succ hb) with e | h1
    · subst e
      rw [hladp, hlad a hab]; exact below a hab k hk
    · rw [hlad a (Nat.lt_trans hab h1), hlad b h1]; exact I.inc a b hab (Nat.lt_of_lt_of_le h1 hp) k hk
  · refine ⟨fun q => if q < p then t q else ds.length, fun q hq => ?_, ?_, fun q hq i hi h1 k hk => ?_⟩
    · rw [hladl ()] at hq
      dsimp only
      rcases Nat.eq_or_lt_of_le (Nat.le_of_lt_succ hq) with e | h1
      · subst e
        rw [if_neg (Nat.lt_irrefl _)]
        exact ⟨Nat.lt_of_lt_of_eq (Nat.lt_succ_self _) (hlen ()).symm, by rw [hladp, hcolm], by rw [hdsm, hL]; exact (List.take_of_length_le (by rw [List.length_append, hTl ()]; simp)).symm⟩
      · obtain ⟨a1, a2, a3⟩ := ht1 q (Nat.lt_of_lt_of_le h1 hp)
        rw [if_pos h1]
        exact ⟨Nat.lt_of_lt_of_eq (Nat.lt_succ_of_lt a1) (hlen ()).symm, by rw [hlad q h1, hcoli _ a1]; exact a2, by rw [hdsi _ a1, hL, tk (q + 1) h1]; exact a3⟩
    · dsimp only; rw [hladl (), hlen (), Nat.add_sub_cancel, if_neg (Nat.lt_irrefl _), Nat.add_sub_cancel]
    · dsimp only at h1
      rw [hladl ()] at hq
      rw [hlen ()] at hi
      rcases Nat.eq_or_lt_of_le (Nat.le_of_lt_succ hi) with e | h2
      · subst e
        rw [hcolm]
        rcases Nat.eq_or_lt_of_le (Nat.le_of_lt_succ hq) with e | h3
        · subst e; rw [hladp]; exact Int.le_refl _
        · rw [hlad q h3]; exact Int.le_of_lt (below q h3 k hk)
      · rw [hcoli i h2]
        rcases Nat.eq_or_lt_of_le (Nat.le_of_lt_succ hq) with e | h3
        · subst e
          rw [hladp]
          refine above i h2 ?_ k hk
          rcases h1 with h1 | h1
          · exact .inl h1
          · rcases Nat.eq_zero_or_pos q with e0 | e0
            · exact .inl e0
            · rw [if_pos (Nat.sub_lt e0 Nat.one_pos)] at h1; exact .inr h1
        · rw [hlad q h3]
          refine ht2 q (Nat.lt_of_lt_of_le h3 hp) i h2 ?_ k hk
          rcases h1 with h1 | h1
          · exact .inl h1
          · rcases Nat.eq_zero_or_pos q with e0 | e0
            · exact .inl e0
            · rw [if_pos (Nat.lt_of_le_of_lt (Nat.sub_le q 1) h3)] at h1; exact .inr h1
  · intro j hj d hd
    rw [hlen ()] at hj
    rcases Nat.eq_or_lt_of_le (Nat.le_of_lt_succ hj) with e | h1
    · subst e
      rw [hdsm] at hd
      rcases List.mem_append.mp hd with h | h
      · exact Nat.le_trans (I.dig (ds.length - 1) (Nat.sub_lt hpos Nat.one_pos) d (List.mem_of_mem_take h)) (Nat.sub_le _ 1)
      · rw [List.mem_singleton.mp h]; exact Nat.le_refl _
    · rw [hdsi j h1] at hd
      exact I.dig j h1 d hd
  · intro j hj
    rw [hlen ()] at hj
    rcases Nat.eq_or_lt_of_le (Nat.le_of_lt_succ hj) with e | h1
    · subst e
      rcases Nat.eq_zero_or_pos p with e0 | e0
      · subst e0
        refine .inl ⟨by rw [hdsm]; rfl, fun i hi k hk => ?_⟩
        rw [hcolm, hcoli i hi]; exact above i hi (.inl rfl) k hk
      · obtain ⟨a1, a2, a3⟩ := ht1 (p - 1) (Nat.lt_of_lt_of_le (Nat.sub_lt e0 Nat.one_pos) hp)
        refine .inr ⟨t (p - 1), a1, ?_, fun k hk => ?_, fun i' h2 h3 k hk => ?_⟩
        · rw [hdsm, hdsi _ a1, a3, Nat.sub_add_cancel e0]
        · rw [hcolm, hcoli _ a1, a2]; exact below (p - 1) (Nat.sub_lt e0 Nat.one_pos) k hk
        · rw [hcolm, hcoli i' h3]; exact above i' h3 (.inr h2) k hk
    · exact (I.par j h1).app (Nat.lt_of_lt_of_eq h1 hlc.symm) h1
  · intro i j hij hj
    rw [hlen ()] at hj
    rcases Nat.eq_or_lt_of_le (Nat.le_of_lt_succ hj) with e | h1
    · subst e
      have W := core i (by rw [hlen ()]; exact Nat.succ_lt_succ hij)
      unfold Win at W
      rw [hL, hladl (), hlen (), Nat.add_sub_cancel, hdsi i hij] at W
      obtain ⟨l, q, f1, f2, f3, f4, f5, f6, x, f7, f8⟩ := W
      refine ⟨l, f1, ?_⟩
      rw [f2, hdsi i hij, hdsm]
      refine (lcpN_eq _ _ q f6.symm ((List.getElem?_eq_some_iff.mp f7).1) f3 fun y hy hy2 => ?_).symm
      rw [f7] at hy2
      have h1 := I.dig i hij y (List.mem_of_getElem? hy)
      exact absurd f8 (Nat.not_lt.mpr (Option.some.inj hy2 ▸ h1))
    · exact (I.pair i j hij h1).app hij (Nat.lt_of_lt_of_eq h1 hlc.symm) h1
theorem Run.inv {cols : List (List Int)} {ds : List (List Nat)} {lad : List (List Int)} (h : Run cols ds lad) : Inv cols ds lad := by
  induction h with
  | start => exact Inv.start
  | step h hp hc ih => exact ih.step hp hc
theorem off_p46 : True := by
  w_top off
  trivial
theorem row_ext {a b : List Int} (ha : a.length = 9) (hb : b.length = 9) (h : ∀ k < 9, a.getD k 0 = b.getD k 0) : a = b :=
  list_getD_ext (by walk_at "zz") fun i hi => h i (by walk_at "zz")
theorem steps_getD (lad : List (List Int)) (k i : Nat) (hi : i < lad.length) : (lad.map (fun r => r.getD k 0)).getD i 0 = (lad.getD i []).getD k 0 := by
  simp [List.getD_eq_getElem?_getD, hi]
theorem idx_first {l : List Int} {x : Int} {p : Nat} (h : l[p]? = some x) (hf : ∀ q < p, l.getD q 0 ≠ x) : l.idxOf x = p := by
  have hp := (List.getElem?_eq_some_iff.mp h).1
  have hx := (List.getElem?_eq_some_iff.mp h).2
  rcases Nat.lt_trichotomy (l.idxOf x) p with q | q | q
  · exfalso
    have h1 := List.getElem_idxOf (show l.idxOf x < l.length by walk_at "zz")
    refine hf _ q ?_
    rw [List.getD_eq_getElem?_getD, List.getElem?_eq_getElem (show l.idxOf x < l.length by walk_at "zz"), h1]; rfl
  · exact q
  · exfalso
    have := List.not_of_lt_findIdx (p := fun y => y == x) (xs := l) (i := p) (by unfold List.idxOf at q; exact q)
    simp [hx] at this
structure Lad (lad : List (List Int)) : Prop where
  pos : 0 < lad.length
  nine : ∀ r ∈ lad, r.length = 9
  inc : ∀ a b, a < b → b < lad.length → ∀ k < 9, gC (lad.getD a []) k < gC (lad.getD b []) k
theorem place_push {lad : List (List Int)} {c : List Int} (h : 0 < lad.length) {k : Nat} (hc : gC (lastD lad) k < gC c k) : placeS lad c k = (lad.length : Nat) := by
  unfold placeS
  have e : (lad.map (fun r => r.getD k 0)).getD ((lad.map (fun r => r.getD k 0)).length - 1) 0 = gC (lastD lad) k := by
    rw [List.length_map, steps_getD _ _ _ (by walk_at "zz")]; rfl
  rw [if_pos (by rw [e]; exact hc), List.length_map]
theorem place_same {lad : List (List Int)} (H : Lad lad) {p : Nat} (hp : p < lad.length) {k : Nat} (hk : k < 9) : placeS lad (lad.getD p []) k = (p : Nat) := by
  unfold placeS
  have h1 := H.pos
  have e : (lad.map (fun r => r.getD k 0)).getD ((lad.map (fun r => r.getD k 0)).length - 1) 0 = gC (lad.getD (lad.length - 1) []) k := by
    rw [List.length_map, steps_getD _ _ _ (by walk_at "zz")]
  have hle : gC (lad.getD p []) k ≤ gC (lad.getD (lad.length - 1) []) k := by
    rcases Nat.eq_or_lt_of_le (show p ≤ lad.length - 1 by walk_at "zz") with q | q
    · rw [← q]; exact Int.le_refl _
    · exact Int.le_of_lt (H.inc p (lad.length - 1) q (by walk_at "zz") k hk)
  have hat : (lad.map (fun r => r.getD k 0))[p]? = some ((lad.getD p []).getD k 0) := by
    rw [List.getElem?_map, List.getElem?_eq_getElem hp]
    simp [List.getD_eq_getElem?_getD, hp]
  rw [if_neg (by rw [e]; exact Int.not_lt.mpr hle), if_pos (List.mem_of_getElem? hat)]
  congr 1
  refine idx_first hat fun q hq => ?_
  rw [steps_getD _ _ _ (by walk_at "zz")]
  have := H.inc q p hq hp k hk
  unfold gC at this
  omega
theorem place_none {lad : List (List Int)} (H : Lad lad) {c : List Int} (h9 : c.length = 9) (hl : ¬ ∀ k < 9, gC (lastD lad) k < gC c k) (he : ∀ p : Nat, lad[p]? ≠ some c) (hs : ∀ k < 9, placeS lad c k = placeS lad c 0) : placeS lad c 0 = -1 := by
  have h1 := H.pos
  have cases : ∀ k, (gC (lastD lad) k < gC c k ∧ placeS lad c k = (lad.length : Nat)) ∨ (∃ p : Nat, p < lad.length ∧ gC (lad.getD p []) k = gC c k ∧ placeS lad c k = p) ∨ placeS lad c k = -1 := fun k => by
    by_cases q : gC (lastD lad) k < gC c k
    · exact .inl ⟨q, place_push h1 q⟩
    · refine .inr ?_
      unfold placeS
      have e : (lad.map (fun r => r.getD k 0)).getD ((lad.map (fun r => r.getD k 0)).length - 1) 0 = gC (lastD lad) k := by
        rw [List.length_map, steps_getD _ _ _ (by walk_at "zz")]; rfl
      rw [if_neg (by rw [e]; exact q)]
      by_cases hm : c.getD k 0 ∈ lad.map (fun r => r.getD k 0)
      · rw [if_pos hm]
        have hlt : (lad.map (fun r => r.getD k 0)).idxOf (c.getD k 0) < (lad.map (fun r => r.getD k 0)).length := List.idxOf_lt_length_iff.mpr hm
        have hlt' : (lad.map (fun r => r.getD k 0)).idxOf (c.getD k 0) < lad.length := by rwa [List.length_map] at hlt
        refine .inl ⟨_, hlt', ?_, rfl⟩
        have := List.getElem_idxOf hlt
        have e2 := steps_getD lad k _ hlt'
        rw [List.getD_eq_getElem?_getD, List.getElem?_eq_getElem hlt, this] at e2
        exact e2.symm
      · rw [if_neg hm]; exact .inr rfl
  rcases cases 0 with ⟨_, h⟩ | ⟨p, hp, _, h⟩ | h
  · exfalso
    refine hl fun k hk => ?_
    have e := hs k hk
    rw [h] at e
    rcases cases k with ⟨q, _⟩ | ⟨p, hp, _, q⟩ | q
    · exact q
    · rw [e] at q; omega
    · rw [e] at q; omega
  · exfalso
    refine he p ?_
    rw [List.getElem?_eq_getElem hp]
    congr 1
    refine row_ext (H.nine _ (List.getElem_mem hp)) h9 fun k hk => ?_
    have e := hs k hk
    rw [h] at e
    have eg : lad.getD p [] = lad[p] := by simp [List.getD_eq_getElem?_getD, hp]
    rcases cases k with ⟨_, q⟩ | ⟨p', hp', q1, q⟩ | q
    · rw [e] at q; omega
    · rw [e] at q
      have : p = p' := by walk_at "zz"
      subst this
      rw [eg] at q1; exact q1
    · rw [e] at q; omega
  · exact h
theorem off_p47 : True := by
  w_top off
  trivial
abbrev cl (x : Str) : List Nat := x.cps.toList
theorem str_ext {a b : Str} (h : cl a = cl b) : a = b := Str.ext' (Array.toList_inj.mp h)
theorem sep_is : Str.ofString "/" = ⟨#[47]⟩ := by decide +kernel
theorem cl_sep : cl (Str.ofString "/") = [47] := by rw [sep_is]
theorem cl_app (a b : Str) : cl (a ++ b) = cl a ++ cl b := by
  show (a ++ b).cps.toList = _
  rw [Str.cps_append, Array.toList_append]
theorem cl_len (a : Str) : a.length = (cl a).length := by simp [Str.length]
def joinL : List (List Nat) → List Nat
  | [] => []
  | [a] => a
  | a :: b :: r => a ++ 47 :: joinL (b :: r)
theorem cl_join : ∀ l : List Str, cl (Str.join (Str.ofString "/") l) = joinL (l.map cl)
  | [] => rfl
  | [a] => rfl
  | a :: b :: r => by
    show cl (a ++ Str.ofString "/" ++ Str.join (Str.ofString "/") (b :: r)) = _
    rw [cl_app, cl_app, cl_sep, cl_join (b :: r)]
    simp [joinL]
def splitL : List Nat → List (List Nat)
  | [] => [[]]
  | c :: r => if c = 47 then [] :: splitL r else match splitL r with
    | [] => [[c]]
    | a :: t => (c :: a) :: t
theorem splitL_free : ∀ a : List Nat, 47 ∉ a → splitL a = [a]
  | [], _ => rfl
  | c :: r, h => by
    have h1 : c ≠ 47 := fun e => h (by rw [e]; exact List.mem_cons_self)
    have h2 : 47 ∉ r := fun e => h (List.mem_cons_of_mem _ e)
    rw [splitL, if_neg h1, splitL_free r h2]
theorem splitL_app : ∀ (a r : List Nat), 47 ∉ a → splitL (a ++ 47 :: r) = a :: splitL r
  | [], r, _ => by rw [List.nil_append, splitL, if_pos rfl]
  | c :: a, r, h => by
    have h1 : c ≠ 47 := fun e => h (by rw [e]; exact List.mem_cons_self)
    have h2 : 47 ∉ a := fun e => h (List.mem_cons_of_mem _ e)
    rw [List.cons_append, splitL, if_neg h1, splitL_app a r h2]
theorem split_join : ∀ l : List (List Nat), l ≠ [] → (∀ a ∈ l, 47 ∉ a) → splitL (joinL l) = l
  | [], h, _ => absurd rfl h
  | [a], _, h => splitL_free a (h a List.mem_cons_self)
  | a :: b :: r, _, h => by
    rw [joinL, splitL_app a _ (h a List.mem_cons_self), split_join (b :: r) (by simp) fun q hq => h q (List.mem_cons_of_mem _ hq)]
theorem split_ne (x y : Str) : Txt.split x y ≠ [] := by
  unfold Txt.split
  split
  · simp
  · split
    · simp
    · rw [StrLaws.partsBetween_eq]
      intro h
      obtain ⟨p, r, e⟩ := StrLaws.partsFrom_ne x y.length 0 _
      exact absurd (e.symm.trans h) (by simp)
theorem map_cl_inj : ∀ {a b : List Str}, a.map cl = b.map cl → a = b
  | [], [], _ => rfl
  | [], _ :: _, h => by simp at h
  | _ :: _, [], h => by simp at h
  | x :: a, y :: b, h => by
    obtain ⟨h1, h2⟩ := List.cons.inj h
    rw [str_ext h1, map_cl_inj h2]
theorem txt_split {l : List Str} (hn : l ≠ []) (hf : ∀ a ∈ l, 47 ∉ cl a) : Txt.split (Str.join (Str.ofString "/") l) (Str.ofString "/") = l := by
  have h1 := StrLaws.join_split (Str.join (Str.ofString "/") l) (Str.ofString "/")
  have h2 := StrLaws.split_free (Str.join (Str.ofString "/") l) 47
  rw [← sep_is] at h2
  have h3 := congrArg (fun z => splitL (cl z)) h1
  simp only [cl_join] at h3
  rw [split_join _ (by simpa using split_ne _ _) (by
    intro a ha
    obtain ⟨b, hb, rfl⟩ := List.mem_map.mp ha
    exact h2 b hb), split_join _ (by simpa using hn) (by
    intro a ha
    obtain ⟨b, hb, rfl⟩ := List.mem_map.mp ha
    exact hf b hb)] at h3
  exact map_cl_inj h3
def dig (d : Nat) : Str := ⟨#[48 + d]⟩
def pth (ds : List Nat) : Str := Str.ofString "/" ++ Str.join (Str.ofString "/") (ds.map dig)
theorem cl_dig (d : Nat) : cl (dig d) = [48 + d] := rfl
theorem dig_free (d : Nat) : 47 ∉ cl (dig d) := by rw [cl_dig]; simp; omega
theorem dig_inj {a b : Nat} (h : dig a = dig b) : a = b := by
  have := congrArg cl h
  rw [cl_dig, cl_dig] at this
  have := (List.cons.inj this).1
  omega
theorem pth_join {ds : List Nat} (h : ds ≠ []) : pth ds = Str.join (Str.ofString "/") (Str.empty :: ds.map dig) := by
  cases ds with
  | nil => exact absurd rfl h
  | cons d r => exact str_ext (by rw [pth, cl_app, cl_sep, cl_join, cl_join]; rfl)
theorem pth_split {ds : List Nat} (h : ds ≠ []) : Txt.split (pth ds) (Str.ofString "/") = Str.empty :: ds.map dig := by
  rw [pth_join h]
  refine txt_split (by simp) fun a ha => ?_
  rcases List.mem_cons.mp ha with rfl | ha
  · exact fun h => nomatch h
  · obtain ⟨d, _, rfl⟩ := List.mem_map.mp ha
    exact dig_free d
theorem keep_dig (d : Nat) : keepS (dig d) = true := by
  have e : Str.ofString "." = ⟨#[46]⟩ := by decide +kernel
  unfold keepS
  rw [decide_eq_true (show (dig d).length ≠ 0 by rw [cl_len, cl_dig]; simp), Bool.true_and, bne_iff_ne, e]
  intro h
  have := congrArg cl h
  rw [cl_dig] at this
  have := (List.cons.inj this).1
  omega
theorem pth_keep {ds : List Nat} (h : ds ≠ []) : (Txt.split (pth ds) (Str.ofString "/")).filter keepS = ds.map dig := by
  rw [pth_split h, List.filter_cons, if_neg (show ¬ (keepS Str.empty = true) by decide), List.filter_eq_self.mpr]
  intro a ha
  obtain ⟨d, _, rfl⟩ := List.mem_map.mp ha
  exact keep_dig d
theorem lcp_dig : ∀ a b : List Nat, lcpS (a.map dig) (b.map dig) = (lcpN a b).map dig
  | [], _ => by unfold lcpS lcpN; rfl
  | _ :: _, [] => rfl
  | x :: a, y :: b => by
    rw [List.map_cons, List.map_cons]
    unfold lcpS lcpN
    by_cases h : x = y
    · subst h; rw [if_pos rfl, if_pos rfl, List.map_cons, lcp_dig a b]
    · rw [if_neg (fun e => h (dig_inj e)), if_neg h]; rfl
theorem common_is {a b : List Nat} (ha : a ≠ []) (hb : b ≠ []) : Str.ofString "/" ++ Str.join (Str.ofString "/") (lcpS ((Txt.split (pth a) (Str.ofString "/")).filter keepS) ((Txt.split (pth b) (Str.ofString "/")).filter keepS)) = pth (lcpN a b) := by
  rw [pth_keep ha, pth_keep hb, lcp_dig]; rfl
theorem off_p48 : True := by
  w_top off
  trivial
def fl (ds : List Nat) : List Nat := ds.flatMap (fun d => [47, 48 + d])
theorem joinL_digs : ∀ (d : Nat) (r : List Nat), 47 :: joinL ((d :: r).map (fun d => cl (dig d))) = fl (d :: r)
  | d, [] => rfl
  | d, e :: r => by
    have ih := joinL_digs e r
    show 47 :: (cl (dig d) ++ 47 :: joinL ((e :: r).map (fun d => cl (dig d)))) = _
    rw [ih]; rfl
theorem cl_pth {ds : List Nat} (h : ds ≠ []) : cl (pth ds) = fl ds := by
  cases ds with
  | nil => exact absurd rfl h
  | cons d r =>
    rw [pth, cl_app, cl_sep, cl_join, List.map_map]
    exact joinL_digs d r
theorem cl_pth0 : cl (pth []) = [47] := by rw [pth, cl_app, cl_sep, cl_join]; rfl
theorem fl_app (a b : List Nat) : fl (a ++ b) = fl a ++ fl b := by simp [fl]
theorem fl_len (a : List Nat) : (fl a).length = 2 * a.length := by
  induction a with
  | nil => rfl
  | cons x a ih => show (fl a).length + 1 + 1 = _; rw [ih, List.length_cons]; omega
theorem pth_len (ds : List Nat) : (pth ds).length ≤ 2 * ds.length + 1 := by
  rw [cl_len]
  by_cases h : ds = []
  · subst h; rw [cl_pth0]; decide
  · rw [cl_pth h, fl_len]; omega
theorem at_sep (x : Str) (i : Nat) : StrLaws.At x (Str.ofString "/") x.length i ↔ (cl x)[i]? = some 47 := by
  rw [sep_is]; exact StrLaws.subAt_one x 47 i
theorem rfind_pth (es : List Nat) (d : Nat) : Txt.rfind (pth (es ++ [d])) (Str.ofString "/") = ((fl es).length : Nat) := by
  have hx : cl (pth (es ++ [d])) = fl es ++ [47, 48 + d] := by rw [cl_pth (by simp), fl_app]; rfl
  have hat : (cl (pth (es ++ [d])))[(fl es).length]? = some 47 := by rw [hx]; simp
  unfold Txt.rfind
  rcases StrLaws.last_spec (pth (es ++ [d])) (Str.ofString "/") with ⟨h1, h2⟩ | ⟨i, h1, h2, h3⟩
  · exact absurd ((at_sep _ _).mpr hat) (h2 _)
  · rw [h1]
    have h4 := (at_sep _ _).mp h2
    have h5 : (fl es).length ≤ i := by
      rcases Nat.lt_or_ge i (fl es).length with q | q
      · exact absurd ((at_sep _ _).mpr hat) (h3 _ q)
      · exact q
    have h6 : i = (fl es).length := by
      rcases Nat.eq_or_lt_of_le h5 with q | q
      · exact q.symm
      · exfalso
        rw [hx, List.getElem?_append_right h5] at h4
        have : i - (fl es).length = 1 ∨ 2 ≤ i - (fl es).length := by walk_at "zz"
        rcases this with e | e
        · rw [e] at h4
          have := Option.some.inj h4
          omega
        · rw [List.getElem?_eq_none (by simpa using e)] at h4; cases h4
    rw [h6]
theorem slice_to_cl (x : Str) (j : Nat) (h : j ≤ (cl x).length) : cl (Txt.slice x none (some (j : Int))) = (cl x).take j := by
  have := StrLaws.sliceText_to (x := x) (j := (j : Int)) ⟨by walk_at "zz", by simpa using h⟩
  show cl (StrLaws.sliceText x none (some (j : Int))) = _
  rw [this]; simp
theorem slice_from_cl (x : Str) (j : Nat) (h : j ≤ (cl x).length) : cl (Txt.slice x (some (j : Int)) none) = (cl x).drop j := by
  have := StrLaws.sliceText_from (x := x) (i := (j : Int)) ⟨by walk_at "zz", by simpa using h⟩
  show cl (StrLaws.sliceText x (some (j : Int)) none) = _
  rw [this]
  simp only [Int.toNat_natCast]
  rw [List.take_of_length_le]
  simp
theorem slice_mid_cl (x : Str) (i j : Nat) (h : i ≤ j ∧ j ≤ (cl x).length) : cl (Txt.slice x (some (i : Int)) (some (j : Int))) = ((cl x).drop i).take (j - i) := by
  have := StrLaws.sliceText_plain (x := x) (i := (i : Int)) (j := (j : Int)) ⟨by walk_at "zz", by walk_at "zz", by simpa using h.2⟩
  show cl (StrLaws.sliceText x (some (i : Int)) (some (j : Int))) = _
  rw [this]
  simp only [Int.toNat_natCast]
  rw [show ((j : Int) - (i : Int)).toNat = j - i by walk_at "zz"]
theorem fold_all {P : Nat → Prop} : ∀ (l : List (Array Nat)) (a : Array Nat), (∀ c ∈ a.toList, P c) → (∀ b ∈ l, ∀ c ∈ b.toList, P c) → ∀ c ∈ (l.foldl (· ++ ·) a).toList, P c
  | [], a, h, _, c, hc => h c hc
  | b :: l, a, h, h2, c, hc => fold_all l (a ++ b) (fun c hc => by
      rw [Array.toList_append] at hc
      rcases List.mem_append.mp hc with q | q
      · exact h c q
      · exact h2 b List.mem_cons_self c q) (fun b hb => h2 b (List.mem_cons_of_mem _ hb)) c hc
theorem mul_all (n : Int) : ∀ c ∈ cl (Txt.mul (Str.ofString "/") n), c = 47 := by
  intro c hc
  unfold Txt.mul at hc
  split at hc
  · exact nomatch hc
  · split at hc
    · rw [cl_sep] at hc; simpa using hc
    · refine fold_all (P := fun c => c = 47) _ #[] (fun c h => nomatch h) (fun b hb c hc => ?_) c hc
      rw [List.eq_of_mem_replicate hb] at hc
      have : c ∈ cl (Str.ofString "/") := hc
      rw [cl_sep] at this; simpa using this
theorem rstrip_one (x : Str) (l : List Nat) (h : cl x = l ++ [47]) (hl : ∀ c, l.getLast? = some c → c ≠ 47) : cl (Txt.rstripChars x (Str.ofString "/")) = l := by
  unfold Txt.rstripChars
  rw [PyProof.Rows.stripBy_eq]
  show (Builtin.Str.strSub x _ _).cps.toList = l
  rw [StrLaws.strSub_toList]
  have e0 : stripLo (Str.ofString "/").cps.contains false x = 0 := rfl
  rw [e0]
  have hc : ∀ c : Nat, (Str.ofString "/").cps.contains c = decide (c = 47) := fun c => by
    rw [sep_is]; by_cases e : c = 47
    · subst e; simp
    · rw [decide_eq_false e]; simp [e]
  have hi : stripHi (Str.ofString "/").cps.contains true x 0 = l.length := by
    unfold stripHi
    rw [if_pos rfl, List.drop_zero, cl_len, show x.cps.toList = l ++ [47] from h, List.reverse_append]
    show (cl x).length - (List.takeWhile _ (47 :: l.reverse)).length = _
    rw [List.takeWhile_cons, if_pos (by rw [hc]; rfl)]
    have : List.takeWhile (Str.ofString "/").cps.contains l.reverse = [] := by
      cases hr : l.reverse with
      | nil => rfl
      | cons c r =>
        have hl' : l.getLast? = some c := by rw [← List.head?_reverse, hr]; rfl
        rw [List.takeWhile_cons, if_neg (by rw [hc, decide_eq_false (hl c hl')]; decide)]
    rw [this, h]; simp
  rw [hi, List.drop_zero, Nat.sub_zero, show x.cps.toList = l ++ [47] from h, List.take_left' rfl]
theorem dir_pth {ds : List Nat} (h : ds ≠ []) : dirS (pth ds) = pth ds.dropLast := by
  obtain ⟨es, d, rfl⟩ : ∃ es d, ds = es ++ [d] := ⟨ds.dropLast, ds.getLast h, (List.dropLast_concat_getLast h).symm⟩
  rw [List.dropLast_concat]
  have hx : cl (pth (es ++ [d])) = fl es ++ [47, 48 + d] := by rw [cl_pth (by simp), fl_app]; rfl
  have hh : cl (Txt.slice (pth (es ++ [d])) none (some (Txt.rfind (pth (es ++ [d])) (Str.ofString "/") + 1))) = fl es ++ [47] := by
    rw [rfind_pth]
    have := slice_to_cl (pth (es ++ [d])) ((fl es).length + 1) (by rw [hx]; simp)
    rw [show (((fl es).length : Nat) : Int) + 1 = (((fl es).length + 1 : Nat) : Int) by push_cast; rfl, this, hx]
    have e : fl es ++ [47, 48 + d] = (fl es ++ [47]) ++ [48 + d] := by simp
    rw [e, List.take_left' (by simp)]
  unfold dirS
  dsimp only
  generalize Txt.slice (pth (es ++ [d])) none (some (Txt.rfind (pth (es ++ [d])) (Str.ofString "/") + 1)) = head at hh
  by_cases he : es = []
  · subst he
    have hd : head = Str.ofString "/" := str_ext (by rw [hh, cl_sep]; rfl)
    rw [hd, if_neg]
    · exact str_ext (by rw [cl_sep, cl_pth0])
    · rintro ⟨_, q⟩
      exact q (by decide +kernel)
  · rw [if_pos]
    · refine str_ext ?_
      rw [rstrip_one head (fl es) hh, cl_pth he]
      intro c hc
      obtain ⟨fs, e, rfl⟩ : ∃ fs e, es = fs ++ [e] := ⟨es.dropLast, es.getLast he, (List.dropLast_concat_getLast he).symm⟩
      rw [fl_app] at hc
      have : c = 48 + e := by
        have e2 : fl fs ++ fl [e] = (fl fs ++ [47]) ++ [48 + e] := by simp [fl]
        rw [e2, List.getLast?_concat] at hc
        exact (Option.some.inj hc).symm
      omega
    · refine ⟨by rw [cl_len, hh]; simp, fun q => ?_⟩
      cases es with
      | nil => exact he rfl
      | cons e r =>
        have hm : 48 + e ∈ cl head := by rw [hh]; simp [fl]
        rw [q] at hm
        have := mul_all _ _ hm
        omega
theorem off_p49 : True := by
  w_top off
  trivial
theorem joinL_flat : ∀ (l : List (List Nat)), l ≠ [] → 47 :: joinL l = l.flatMap (fun c => 47 :: c)
  | [], h => absurd rfl h
  | [a], _ => by simp [joinL]
  | a :: b :: r, _ => by
    have ih := joinL_flat (b :: r) (by simp)
    rw [joinL, List.flatMap_cons, ← ih]; rfl
theorem starts_iff (x : Str) : Txt.startswith x (Str.ofString "/") = true ↔ (cl x)[0]? = some 47 := by
  rw [← at_sep, StrLaws.At]
  unfold Txt.startswith
  rw [Bool.and_eq_true, decide_eq_true_eq]
theorem ends_iff (x : Str) : Txt.endswith x (Str.ofString "/") = true ↔ (cl x)[x.length - 1]? = some 47 := by
  rw [← at_sep, StrLaws.At]
  unfold Txt.endswith
  have e : (Str.ofString "/").length = 1 := by rw [cl_len, cl_sep]; rfl
  rw [Bool.and_eq_true, decide_eq_true_eq, e]
  constructor
  · rintro ⟨h1, h2⟩; exact ⟨by walk_at "zz", h2⟩
  · rintro ⟨h1, h2⟩; exact ⟨by walk_at "zz", h2⟩
theorem fold_rep (a : Array Nat) : ∀ (n : Nat) (b : Array Nat), ((List.replicate n a).foldl (· ++ ·) b).toList = b.toList ++ (List.replicate n a.toList).flatten
  | 0, b => by simp
  | n + 1, b => by
    rw [List.replicate_succ, List.foldl_cons, fold_rep a n, List.replicate_succ, List.flatten_cons, Array.toList_append, List.append_assoc]
theorem dots_is : cl (Str.ofString "../") = [46, 46, 47] := by decide +kernel
theorem mul_dots (k : Int) : cl (Txt.mul (Str.ofString "../") k) = (List.replicate k.toNat [46, 46, 47]).flatten := by
  unfold Txt.mul
  split
  · rename_i h
    rw [show k.toNat = 0 by walk_at "zz"]; rfl
  · split
    · rename_i h1 h2
      have hk : k = 1 := by
        rcases (Bool.or_eq_true _ _).mp h2 with q | q
        · simpa using q
        · have : (Str.ofString "../").length = 3 := by decide +kernel
          rw [this] at q; exact absurd q (by decide)
      subst hk
      rw [dots_is]; rfl
    · show Array.toList ((List.replicate k.toNat (Str.ofString "../").cps).foldl (· ++ ·) #[]) = _
      rw [fold_rep]
      show [] ++ (List.replicate k.toNat (cl (Str.ofString "../"))).flatten = _
      rw [dots_is, List.nil_append]
theorem rot_dots : ∀ u : Nat, 47 :: (List.replicate u [46, 46, 47]).flatten = (List.replicate u [47, 46, 46]).flatten ++ [47]
  | 0 => rfl
  | u + 1 => by
    rw [List.replicate_succ, List.flatten_cons, List.replicate_succ, List.flatten_cons, List.append_assoc, ← rot_dots u]; rfl
theorem up_is : Str.ofString ".." = ⟨#[46, 46]⟩ := by decide +kernel
theorem cl_up : cl (Str.ofString "..") = [46, 46] := by rw [up_is]
def comps (ds : List Nat) (u m : Nat) : List Str := ds.map dig ++ (List.replicate u (Str.ofString "..") ++ [dig m])
theorem comps_ne (ds : List Nat) (u m : Nat) : comps ds u m ≠ [] := by simp [comps]
theorem comps_free (ds : List Nat) (u m : Nat) : ∀ a ∈ comps ds u m, 47 ∉ cl a := by
  intro a ha
  rcases List.mem_append.mp ha with h | h
  · obtain ⟨d, _, rfl⟩ := List.mem_map.mp h
    exact dig_free d
  · rcases List.mem_append.mp h with h | h
    · rw [List.eq_of_mem_replicate h, cl_up]; decide
    · rw [List.mem_singleton.mp h]; exact dig_free m
theorem comps_flat (ds : List Nat) (u m : Nat) : 47 :: joinL ((comps ds u m).map cl) = fl ds ++ ((List.replicate u [47, 46, 46]).flatten ++ [47, 48 + m]) := by
  rw [joinL_flat _ (by simpa using comps_ne ds u m), comps, List.map_append, List.map_append, List.flatMap_append, List.flatMap_append]
  congr 1
  · rw [List.map_map, List.flatMap_map]; rfl
  · congr 1
    induction u with
    | zero => rfl
    | succ u ih => rw [List.replicate_succ, List.map_cons, List.flatMap_cons, ih, List.replicate_succ, List.flatten_cons, cl_up]
theorem joined {ds : List Nat} (h : ds ≠ []) (u m : Nat) (ups : Str) (hu : cl ups = (List.replicate u [46, 46, 47]).flatten) : cl (joinS (joinS (pth ds) ups) (dig m)) = 47 :: joinL ((comps ds u m).map cl) := by
  have hp := cl_pth h
  have hl : (pth ds).length ≠ 0 := by rw [cl_len, hp, fl_len]; cases ds with
    | nil => exact absurd rfl h
    | cons d r => simp
  have n1 : ¬ (Txt.startswith ups (Str.ofString "/") = true ∨ (pth ds).length = 0) := by
    rintro (q | q)
    · rw [starts_iff, hu] at q
      cases u with
      | zero => simp at q
      | succ u => rw [List.replicate_succ, List.flatten_cons] at q; simp at q
    · exact hl q
  have n2 : ¬ (Txt.endswith (pth ds) (Str.ofString "/") = true) := by
    intro q
    rw [ends_iff, cl_len, hp] at q
    obtain ⟨es, d, rfl⟩ : ∃ es d, ds = es ++ [d] := ⟨ds.dropLast, ds.getLast h, (List.dropLast_concat_getLast h).symm⟩
    rw [fl_app] at q
    have e2 : fl es ++ fl [d] = (fl es ++ [47]) ++ [48 + d] := by simp [fl]
    rw [e2, List.length_append, List.length_singleton, Nat.add_sub_cancel, List.getElem?_concat_length] at q
    have := Option.some.inj q
    omega
  have e1 : joinS (pth ds) ups = pth ds ++ (Str.ofString "/" ++ ups) := by
    rw [joinS, if_neg n1, if_neg n2]
  have c1 : cl (joinS (pth ds) ups) = (fl ds ++ (List.replicate u [47, 46, 46]).flatten) ++ [47] := by
    rw [e1, cl_app, cl_app, cl_sep, hp, hu, List.singleton_append, rot_dots, List.append_assoc]
  have n3 : ¬ (Txt.startswith (dig m) (Str.ofString "/") = true ∨ (joinS (pth ds) ups).length = 0) := by
    rintro (q | q)
    · rw [starts_iff, cl_dig] at q
      have := Option.some.inj q
      omega
    · rw [cl_len, c1] at q; simp at q
  have y1 : Txt.endswith (joinS (pth ds) ups) (Str.ofString "/") = true := by
    rw [ends_iff, cl_len, c1, List.length_append, List.length_singleton, Nat.add_sub_cancel, List.getElem?_concat_length]
  rw [joinS, if_neg n3, if_pos y1, cl_app, c1, cl_dig, comps_flat]
  simp
theorem norm_digs : ∀ (l es : List Nat), (l.map dig).foldl normStep (es.map dig) = (es ++ l).map dig
  | [], es => by simp
  | d :: l, es => by
    have e : normStep (es.map dig) (dig d) = (es ++ [d]).map dig := by
      have h1 : ¬ ((dig d).length = 0 ∨ dig d = Str.ofString ".") := by
        rintro (q | q)
        · rw [cl_len, cl_dig] at q; simp at q
        · have e : Str.ofString "." = ⟨#[46]⟩ := by decide +kernel
          rw [e] at q
          have := (List.cons.inj (congrArg cl q)).1
          omega
      have h2 : dig d ≠ Str.ofString ".." := by
        intro q
        rw [up_is] at q
        have := congrArg (fun z => (cl z).length) q
        simp [cl_dig] at this
      rw [normStep, if_neg h1, if_pos (.inl h2), List.map_append]; rfl
    rw [List.map_cons, List.foldl_cons, e, norm_digs l (es ++ [d]), List.append_assoc]; rfl
theorem norm_up (es : List Nat) : normStep (es.map dig) (Str.ofString "..") = es.dropLast.map dig := by
  have h1 : ¬ ((Str.ofString "..").length = 0 ∨ Str.ofString ".." = Str.ofString ".") := by
    rw [cl_len, cl_up]
    rintro (q | q)
    · simp at q
    · have := congrArg cl q
      rw [cl_up, show cl (Str.ofString ".") = [46] by decide +kernel] at this
      simp at this
  have h2 : ¬ (Str.ofString ".." ≠ Str.ofString ".." ∨ (es.map dig).getLast? = some (Str.ofString "..")) := by
    rintro (q | q)
    · exact q rfl
    · have := List.mem_of_getLast? q
      obtain ⟨d, _, e⟩ := List.mem_map.mp this
      rw [up_is] at e
      have := congrArg (fun z => (cl z).length) e
      simp [cl_dig] at this
  rw [normStep, if_neg h1, if_neg h2, List.map_dropLast]
theorem norm_ups : ∀ (u : Nat) (es : List Nat), (List.replicate u (Str.ofString "..")).foldl normStep (es.map dig) = (es.take (es.length - u)).map dig
  | 0, es => by simp
  | u + 1, es => by
    rw [List.replicate_succ, List.foldl_cons, norm_up, norm_ups u, List.dropLast_eq_take, List.length_take, List.take_take, Nat.min_eq_left (Nat.sub_le es.length 1), Nat.min_eq_left (Nat.sub_le _ u), Nat.sub_sub, Nat.add_comm 1 u]
/-- What normpath(join(path, '../' * u, str(m))) is, and what its contract asks. -/
theorem norm_is {ds : List Nat} (h : ds ≠ []) (hds : ds.length ≤ 20) (u m : Nat) (hu' : u ≤ 20) (ups : Str) (hu : cl ups = (List.replicate u [46, 46, 47]).flatten) :
    (joinS (joinS (pth ds) ups) (dig m)).length ≤ 900 ∧ (joinS (joinS (pth ds) ups) (dig m)).length ≠ 0 ∧ Txt.slice (joinS (joinS (pth ds) ups) (dig m)) none (some 1) = Str.ofString "/" ∧ Txt.slice (joinS (joinS (pth ds) ups) (dig m)) (some 1) (some 2) ≠ Str.ofString "/" ∧
    (Txt.split (Txt.slice (joinS (joinS (pth ds) ups) (dig m)) (some 1) none) (Str.ofString "/")).length ≤ 900 ∧
    Str.ofString "/" ++ Str.join (Str.ofString "/") ((Txt.split (Txt.slice (joinS (joinS (pth ds) ups) (dig m)) (some 1) none) (Str.ofString "/")).foldl normStep []) = pth (ds.take (ds.length - u) ++ [m]) := by
  have hx := joined h u m ups hu
  generalize joinS (joinS (pth ds) ups) (dig m) = x at hx
  have hfl := comps_flat ds u m
  rw [← hx] at hfl
  have hlen : (cl x).length = 2 * ds.length + (3 * u + 2) := by
    rw [hfl, List.length_append, List.length_append, fl_len, List.length_flatten, List.map_replicate, List.sum_replicate_nat]
    simp; omega
  obtain ⟨d, r, rfl⟩ : ∃ d r, ds = d :: r := by cases ds with
    | nil => exact absurd rfl h
    | cons d r => exact ⟨d, r, rfl⟩
  have hhead : cl x = 47 :: (48 + d) :: (cl x).drop 2 := by rw [hfl]; rfl
  have hsplit : Txt.split (Txt.slice x (some 1) none) (Str.ofString "/") = comps (d :: r) u m := by
    have e : Txt.slice x (some 1) none = Str.join (Str.ofString "/") (comps (d :: r) u m) := by
      refine str_ext ?_
      have := slice_from_cl x 1 (by walk_at "zz")
      rw [show ((1 : Nat) : Int) = 1 by rfl] at this
      rw [this, hx, cl_join]; rfl
    rw [e]
    exact txt_split (comps_ne _ _ _) (comps_free _ _ _)
  refine ⟨by rw [cl_len, hlen]; omega, by rw [cl_len, hlen]; omega, ?_, ?_, ?_, ?_⟩
  · refine str_ext ?_
    have := slice_to_cl x 1 (by walk_at "zz")
    rw [show ((1 : Nat) : Int) = 1 by rfl] at this
    rw [this, hhead, cl_sep]; rfl
  · intro q
    have := slice_mid_cl x 1 2 ⟨by walk_at "zz", by walk_at "zz"⟩
    rw [show ((1 : Nat) : Int) = 1 by rfl, show ((2 : Nat) : Int) = 2 by rfl, q, hhead, cl_sep] at this
    have := (List.cons.inj this).1
    omega
  · rw [hsplit, comps]; simp only [List.length_append, List.length_map, List.length_replicate, List.length_singleton]; omega
  · rw [hsplit, comps, List.foldl_append, List.foldl_append]
    have e0 := norm_digs (d :: r) []
    rw [List.map_nil, List.nil_append] at e0
    rw [e0, norm_ups]
    have e1 := norm_digs [m] ((d :: r).take ((d :: r).length - u))
    rw [List.map_singleton] at e1
    rw [e1]; rfl
theorem off_p31 : True := by
  w_top off
  trivial
section
variable {prog : Program} {w : World} {A : Around} {E : Value → Shared → Prop} {s : Shared} {env : Env} {h₀ : Heap} {x : Str} {body : List Stmt} {Q : Flow → Shared → Prop}
/-- A loop over a list of the ledger, with any state that may name the iterator. -/
theorem list_invJ {ax : Addr} {vs : List Value} {k : Nat} {m₀ : Str → Option Value} {news₀ : List (Addr × Obj)} (J : Addr → Nat → (Str → Option Value) → List (Addr × Obj) → Prop)
    (hl : ∀ I i m nw, J I i m nw → (ax, W.listOf vs.toArray k) ∈ nw) (hh : A.handled = none) (F : Fr h₀ env.locals s.heap m₀) (N : News h₀ env.locals s.heap news₀) (hm : (ax, W.listOf vs.toArray k) ∈ news₀) (start : ∀ I : Addr, (∀ p ∈ news₀, @LT.lt Nat _ p.1 I) → J I 0 m₀ news₀)
    (turn : ∀ I i v m nw (it : Obj) h tk, vs[i]? = some v → J I i m nw → it.cls = .type "list_iterator" → Fr h₀ env.locals h (fun y => if y = x then some v else m y) → News h₀ env.locals h ((I, it) :: nw) →
      wpAny (model prog w) A (execs body env) (UnrPost h₀ env.locals { s with heap := h, toks := tk } I it (J I (i + 1)) Q) E { s with heap := h, toks := tk })
    (done : ∀ I m nw h tk, J I vs.length m nw → Fr h₀ env.locals h m → News h₀ env.locals h nw → Q .next { s with heap := h, toks := tk }) :
    wpAny (model prog w) A (pyIter (.ref ax)) (fun it s₂ => LoopAtV prog w A h₀ env x body Q E it s₂) E s := by
  refine iter_listUnr hh F N hm rfl rfl fun I hI => ?_
  refine listRest_inv (J I) (fun i v m news it h tk hv hj hc F' N' => wpAny_mono (turn I i v m news it h tk hv hj hc F' N') (fun f s₂ p => unrPost_mono p fun m' n' r => ⟨hl _ _ _ _ r, r⟩) fun _ _ e => e) (fun m news h tk hj F' N' => done I m news h tk hj F' N') vs 0 _ _ (List.drop_zero) (Nat.zero_le _) (start I hI)
end
def rowOf (l : Str) : List Int := (List.range 9).map (fun k => lvl (scanOf l).1 (scanOf l).2.1 (scanOf l).2.2.2 (k + 1))
theorem rowOf_len (l : Str) : (rowOf l).length = 9 := by simp [rowOf]
theorem rowOf_get (l : Str) {k : Nat} (hk : k < 9) : (rowOf l).getD k 0 = lvl (scanOf l).1 (scanOf l).2.1 (scanOf l).2.2.2 (k + 1) := by
  simp [rowOf, List.getD_eq_getElem?_getD, hk]
/-- Objects of class Whitespace in the ledger, one a lead. -/
inductive WsRows (w : World) (news : List (Addr × Obj)) : List Value → List Str → Prop
  | nil : WsRows w news [] []
  | cons {x : Addr} {l : Str} {vs : List Value} {ls : List Str} (hx : WsAt w news x (scanOf l).1 (scanOf l).2.1 (scanOf l).2.2.1 (scanOf l).2.2.2) (t : WsRows w news vs ls) : WsRows w news (.ref x :: vs) (l :: ls)
theorem WsRows.length {w : World} {news : List (Addr × Obj)} {vs : List Value} {ls : List Str} (h : WsRows w news vs ls) : vs.length = ls.length := by
  induction h with
  | nil => rfl
  | cons _ _ ih => simp [ih]
theorem WsRows.mono {w : World} {news news' : List (Addr × Obj)} {vs : List Value} {ls : List Str} (h : WsRows w news vs ls) (hs : ∀ p ∈ news, p ∈ news') : WsRows w news' vs ls := by
  induction h with
  | nil => exact .nil
  | cons hx _ ih => exact .cons (hx.mono hs) ih
theorem WsRows.get {w : World} {news : List (Addr × Obj)} {vs : List Value} {ls : List Str} (h : WsRows w news vs ls) {i : Nat} {l : Str} (hl : ls[i]? = some l) : ∃ x, vs[i]? = some (.ref x) ∧ WsAt w news x (scanOf l).1 (scanOf l).2.1 (scanOf l).2.2.1 (scanOf l).2.2.2 := by
  induction h generalizing i with
  | nil => simp at hl
  | cons hx _ ih =>
    cases i with
    | zero => simp at hl; subst hl; exact ⟨_, by simp, hx⟩
    | succ i => simp at hl; obtain ⟨x, h1, h2⟩ := ih hl; exact ⟨x, by simpa using h1, h2⟩
theorem WsRows.take {w : World} {news : List (Addr × Obj)} {vs : List Value} {ls : List Str} (h : WsRows w news vs ls) : ∀ n, WsRows w news (vs.take n) (ls.take n) := by
  induction h with
  | nil => intro n; simp only [List.take_nil]; exact .nil
  | cons hx _ ih =>
    intro n
    cases n with
    | zero => exact .nil
    | succ n => exact .cons hx (ih n)
theorem WsRows.snoc {w : World} {news : List (Addr × Obj)} {vs : List Value} {ls : List Str} (h : WsRows w news vs ls) {x : Addr} {l : Str} (hx : WsAt w news x (scanOf l).1 (scanOf l).2.1 (scanOf l).2.2.1 (scanOf l).2.2.2) : WsRows w news (vs ++ [.ref x]) (ls ++ [l]) := by
  induction h with
  | nil => exact .cons hx .nil
  | cons hx' _ ih => exact .cons hx' ih
theorem RowsAt.take {news : List (Addr × Obj)} {vs : List Value} {rs : List (List Int)} (h : RowsAt news vs rs) : ∀ n, RowsAt news (vs.take n) (rs.take n) := by
  induction h with
  | nil => intro n; simp only [List.take_nil]; exact .nil
  | cons hm hi _ ih =>
    intro n
    cases n with
    | zero => exact .nil
    | succ n => exact .cons hm hi (ih n)
theorem RowsAt.snoc {news : List (Addr × Obj)} {vs : List Value} {rs : List (List Int)} (h : RowsAt news vs rs) {a : Addr} {us : List Value} {k : Nat} {r : List Int} (hm : (a, W.listOf us.toArray k) ∈ news) (hi : IntsAre us r) : RowsAt news (vs ++ [.ref a]) (rs ++ [r]) := by
  induction h with
  | nil => exact .cons hm hi .nil
  | cons hm' hi' _ ih => exact .cons hm' hi' ih
/-- What stands between two turns of the law's first loop. -/
structure LS where
  keep : List (Addr × Obj)
  pv : List Value
  pk : Nat
  cv : List Value
  ck : Nat
  o1 : Obj
  o2 : Obj
  o3 : Obj
  o4 : Obj
  o5 : Obj
  o6 : Obj
  la : Addr
  sa : Addr
  da : Addr
  lv : List Value
  sv : List Value
  dv : List Value
  lk : Nat
  sk : Nat
  dk : Nat
  leads : List Str
  ds : List (List Nat)
  cols : List (List Int)
abbrev ledOf (L pa ca : Nat) (keep : List (Addr × Obj)) (pv : List Value) (pk : Nat) (cv : List Value) (ck : Nat) (o1 o2 o3 o4 o5 o6 : Obj) : List (Addr × Obj) :=
  (ca, W.listOf cv.toArray ck) :: (pa, W.listOf pv.toArray pk) :: (L + 1 + 1 + 1 + 1 + 1 + 1, o6) :: (L + 1 + 1 + 1 + 1 + 1, o5) :: (L + 1 + 1 + 1 + 1, o4) :: (L + 1 + 1 + 1, o3) :: (L + 1 + 1, o2) :: (L + 1, o1) :: keep
def LS.led (c : LS) (L pa ca : Nat) : List (Addr × Obj) := ledOf L pa ca c.keep c.pv c.pk c.cv c.ck c.o1 c.o2 c.o3 c.o4 c.o5 c.o6
structure Offs (L pa ca : Nat) (keep : List (Addr × Obj)) : Prop where
  f1 : ∀ p ∈ keep, p.1 ≠ L + 1
  f2 : ∀ p ∈ keep, p.1 ≠ L + 1 + 1
  f3 : ∀ p ∈ keep, p.1 ≠ L + 1 + 1 + 1
  f4 : ∀ p ∈ keep, p.1 ≠ L + 1 + 1 + 1 + 1
  f5 : ∀ p ∈ keep, p.1 ≠ L + 1 + 1 + 1 + 1 + 1
  f6 : ∀ p ∈ keep, p.1 ≠ L + 1 + 1 + 1 + 1 + 1 + 1
  fp : ∀ p ∈ keep, p.1 ≠ pa
  fc : ∀ p ∈ keep, p.1 ≠ ca
structure LInv (w : World) (L pa ca D lst : Nat) (pcs : Array Value) (nv : List Value) (nk : Nat) (i : Nat) (c : LS) : Prop where
  hla : (c.la, W.listOf c.lv.toArray c.lk) ∈ c.keep
  hsa : (c.sa, W.listOf c.sv.toArray c.sk) ∈ c.keep
  hda : (c.da, W.listOf c.dv.toArray c.dk) ∈ c.keep
  hD : (D, tupO pcs) ∈ c.keep
  hn : (lst, W.listOf nv.toArray nk) ∈ c.keep
  sl : StrsAre c.lv c.leads
  ss : WsRows w c.keep c.sv c.leads
  sd : RowsAt c.keep c.dv (c.leads.map rowOf)
  sp : StrsAre c.pv (c.ds.map pth)
  sc : RowsAt c.keep c.cv c.cols
  run : Run c.cols c.ds (c.leads.map rowOf)
  lead : i ≤ 7 → ∀ l ∈ c.leads, LeadB (i + 1) i (cl l)
  leadL : ∀ l ∈ c.leads, LeadB 8 8 (cl l)
  len : c.ds.length ≤ i + 1
  ln : ∀ l ∈ c.leads, l.length ≤ 3 * i
  c9 : ∀ r ∈ c.cols, r.length = 9
  d1 : c.o1.data = .cell (some (.ref c.da))
  d2 : c.o2.data = .cell (some (.ref ca))
  d3 : ∃ v, c.o3.data = .cell v
  d4 : ∃ v, c.o4.data = .cell v
  d5 : ∃ v, c.o5.data = .cell v
  d6 : ∃ v, c.o6.data = .cell v
  offs : Offs L pa ca c.keep
  lt1 : @LT.lt Nat _ (L + 1 + 1 + 1 + 1 + 1 + 1) pa
  lt2 : @LT.lt Nat _ pa ca
theorem Run.lad_le {cols : List (List Int)} {ds : List (List Nat)} {lad : List (List Int)} (h : Run cols ds lad) : lad.length ≤ ds.length := by
  induction h with
  | start => decide
  | step h hp hc ih => simp only [List.length_append, List.length_take, List.length_singleton]; omega
theorem off_p32 : True := by
  w_top off
  trivial
def JL1 (w : World) (L pa ca D lst : Nat) (pcs : Array Value) (nv : List Value) (nk : Nat) (I : Addr) (i : Nat) (m : Str → Option Value) (nw : List (Addr × Obj)) : Prop :=
  ∃ c : LS, nw = c.led L pa ca ∧ LInv w L pa ca D lst pcs nv nk i c ∧ (∀ p ∈ nw, p.1 ≠ I) ∧ m (Str.ofString "leads") = some (.ref c.la) ∧ m (Str.ofString "stack") = some (.ref c.sa) ∧ m (Str.ofString "pieces") = some (.ref D) ∧ m (Str.ofString "paths") = some (.ref pa)
theorem lead0 : (Str.ofString "") = Str.empty := by decide +kernel
theorem scan0 : scanOf (Str.ofString "") = ([], 0, 0, 0) := by decide +kernel
theorem row0 : rowOf (Str.ofString "") = z9 := by
  unfold rowOf; rw [scan0]; decide +kernel
theorem path0 : pth [0] = Str.ofString "/0" := by decide +kernel
section
variable {prog : Program} {w : World} {A : Around} {E : Value → Shared → Prop} {s : Shared} {env : Env} {h₀ : Heap} {x : Str} {body : List Stmt} {Q : Flow → Shared → Prop}
theorem law_loop {L : Addr} {m1 : Str → Option Value} {lst lx l7 ca cr cx pa da dr dx sa la D x4 : Nat} {ox o7 ocx odx o1 o2 o3 o4 o5 o6 : Obj} {nv crv drv : List Value} {tp tl0 : Tok} {pcs : Array Value} {tl : List (Addr × Obj)}
    (hL9 : env.locals = L) (hh : A.handled = none)
    (F : Fr h₀ L s.heap (fun y => if y = Str.ofString "paths" then some (.ref pa) else if y = Str.ofString "stack" then some (.ref sa) else if y = Str.ofString "leads" then some (.ref la) else if y = Str.ofString "pieces" then some (.ref D) else m1 y))
    (N : News h₀ L s.heap ((lst, W.listOf nv.toArray 0) :: (lx, ox) :: (l7, o7) :: (ca, W.listOf #[.ref cr] 0) :: (cr, W.listOf crv.toArray 0) :: (cx, ocx) :: (pa, W.listOf #[.str (Str.ofString "/0") tp] 0) :: (da, W.listOf #[.ref dr] 0) :: (dr, W.listOf drv.toArray 0) :: (dx, odx) :: (sa, W.listOf #[.ref x4] 0) :: (la, W.listOf #[.str (Str.ofString "") tl0] 0) :: (D, tupO pcs) :: (L + 1 + 1 + 1 + 1 + 1 + 1, o6) :: (L + 1 + 1 + 1 + 1 + 1, o5) :: (L + 1 + 1 + 1 + 1, o4) :: (L + 1 + 1 + 1, o3) :: (L + 1 + 1, o2) :: (L + 1, o1) :: tl))
    (hi1 : IntsAre crv z9) (hi2 : IntsAre drv z9) (hw : WsAt w tl x4 [] 0 0 0)
    (d1 : o1.data = .cell (some (.ref da))) (d2 : o2.data = .cell (some (.ref ca))) (d3 : o3.data = .cell none) (d4 : o4.data = .cell none) (d5 : o5.data = .cell none) (d6 : o6.data = .cell none)
    (offs : Offs L pa ca tl) (c1 : @LT.lt Nat _ (L + 1 + 1 + 1 + 1 + 1 + 1) D) (c2 : @LT.lt Nat _ D la) (c3 : @LT.lt Nat _ la sa) (c4 : @LT.lt Nat _ sa dr) (c5 : @LT.lt Nat _ dr da) (c6 : @LT.lt Nat _ da pa) (c7 : @LT.lt Nat _ pa cr) (c8 : @LT.lt Nat _ cr ca) (c9 : @LT.lt Nat _ ca lst)
    (turn : ∀ (I : Addr) (i : Nat) (v : Value) (m : Str → Option Value) (it : Obj) (h : Heap) (tk : _) (c : LS), nv[i]? = some v → LInv w L pa ca D lst pcs nv 0 i c → (∀ p ∈ c.led L pa ca, p.1 ≠ I) → it.cls = .type "list_iterator" →
      Fr h₀ L h (fun y => if y = x then some v else if y = Str.ofString "leads" then some (.ref c.la) else if y = Str.ofString "stack" then some (.ref c.sa) else if y = Str.ofString "pieces" then some (.ref D) else if y = Str.ofString "paths" then some (.ref pa) else m y) →
      News h₀ L h ((I, it) :: ledOf L pa ca c.keep c.pv c.pk c.cv c.ck c.o1 c.o2 c.o3 c.o4 c.o5 c.o6) →
      wpAny (model prog w) A (execs body env) (UnrPost h₀ L { s with heap := h, toks := tk } I it (JL1 w L pa ca D lst pcs nv 0 I (i + 1)) Q) E { s with heap := h, toks := tk })
    (done : ∀ (m : Str → Option Value) (h : Heap) (tk : _) (c : LS), LInv w L pa ca D lst pcs nv 0 nv.length c → Fr h₀ L h (fun y => if y = Str.ofString "paths" then some (.ref pa) else m y) → News h₀ L h (ledOf L pa ca c.keep c.pv c.pk c.cv c.ck c.o1 c.o2 c.o3 c.o4 c.o5 c.o6) → Q .next { s with heap := h, toks := tk }) :
    wpAny (model prog w) A (pyIter (.ref lst)) (fun it s₂ => LoopAtV prog w A h₀ env x body Q E it s₂) E s := by
  subst hL9
  let c₀ : LS := { keep := (lst, W.listOf nv.toArray 0) :: (cr, W.listOf crv.toArray 0) :: (da, W.listOf #[.ref dr] 0) :: (dr, W.listOf drv.toArray 0) :: (sa, W.listOf #[.ref x4] 0) :: (la, W.listOf #[.str (Str.ofString "") tl0] 0) :: (D, tupO pcs) :: tl,
                   pv := [.str (Str.ofString "/0") tp], pk := 0, cv := [.ref cr], ck := 0, o1 := o1, o2 := o2, o3 := o3, o4 := o4, o5 := o5, o6 := o6, la := la, sa := sa, da := da,
                   lv := [.str (Str.ofString "") tl0], sv := [.ref x4], dv := [.ref dr], lk := 0, sk := 0, dk := 0, leads := [Str.ofString ""], ds := [[0]], cols := [z9] }
  have htl : ∀ p ∈ tl, p ∈ c₀.keep := fun p hp => by
    iterate 7 refine List.mem_cons_of_mem _ ?_
    exact hp
  have m1' : (lst, W.listOf nv.toArray 0) ∈ c₀.keep := List.mem_cons_self ..
  have m2' : (cr, W.listOf crv.toArray 0) ∈ c₀.keep := List.mem_cons_of_mem _ (List.mem_cons_self ..)
  have m3' : (da, W.listOf #[.ref dr] 0) ∈ c₀.keep := List.mem_cons_of_mem _ (List.mem_cons_of_mem _ (List.mem_cons_self ..))
  have m4' : (dr, W.listOf drv.toArray 0) ∈ c₀.keep := List.mem_cons_of_mem _ (List.mem_cons_of_mem _ (List.mem_cons_of_mem _ (List.mem_cons_self ..)))
  have m5' : (sa, W.listOf #[.ref x4] 0) ∈ c₀.keep := List.mem_cons_of_mem _ (List.mem_cons_of_mem _ (List.mem_cons_of_mem _ (List.mem_cons_of_mem _ (List.mem_cons_self ..))))
  have m6' : (la, W.listOf #[.str (Str.ofString "") tl0] 0) ∈ c₀.keep := List.mem_cons_of_mem _ (List.mem_cons_of_mem _ (List.mem_cons_of_mem _ (List.mem_cons_of_mem _ (List.mem_cons_of_mem _ (List.mem_cons_self ..)))))
  have m7' : (D, tupO pcs) ∈ c₀.keep := List.mem_cons_of_mem _ (List.mem_cons_of_mem _ (List.mem_cons_of_mem _ (List.mem_cons_of_mem _ (List.mem_cons_of_mem _ (List.mem_cons_of_mem _ (List.mem_cons_self ..))))))
  have hoff : ∀ a : Nat, (∀ p ∈ tl, p.1 ≠ a) → @Ne Nat lst a → @Ne Nat cr a → @Ne Nat da a → @Ne Nat dr a → @Ne Nat sa a → @Ne Nat la a → @Ne Nat D a → ∀ p ∈ c₀.keep, p.1 ≠ a := fun a h0 h1 h2 h3 h4 h5 h6 h7 =>
    List.forall_mem_cons.mpr ⟨h1, List.forall_mem_cons.mpr ⟨h2, List.forall_mem_cons.mpr ⟨h3, List.forall_mem_cons.mpr ⟨h4, List.forall_mem_cons.mpr ⟨h5, List.forall_mem_cons.mpr ⟨h6, List.forall_mem_cons.mpr ⟨h7, h0⟩⟩⟩⟩⟩⟩⟩
  have g2 : @LT.lt Nat _ (env.locals + 1 + 1 + 1 + 1 + 1 + 1) la := Nat.lt_trans c1 c2
  have g3 : @LT.lt Nat _ (env.locals + 1 + 1 + 1 + 1 + 1 + 1) sa := Nat.lt_trans g2 c3
  have g4 : @LT.lt Nat _ (env.locals + 1 + 1 + 1 + 1 + 1 + 1) dr := Nat.lt_trans g3 c4
  have g5 : @LT.lt Nat _ (env.locals + 1 + 1 + 1 + 1 + 1 + 1) da := Nat.lt_trans g4 c5
  have g6 : @LT.lt Nat _ (env.locals + 1 + 1 + 1 + 1 + 1 + 1) pa := Nat.lt_trans g5 c6
  have g7 : @LT.lt Nat _ (env.locals + 1 + 1 + 1 + 1 + 1 + 1) cr := Nat.lt_trans g6 c7
  have p5 : @LT.lt Nat _ dr pa := Nat.lt_trans c5 c6
  have p4 : @LT.lt Nat _ sa pa := Nat.lt_trans c4 p5
  have p3 : @LT.lt Nat _ la pa := Nat.lt_trans c3 p4
  have p2 : @LT.lt Nat _ D pa := Nat.lt_trans c2 p3
  have hpc : @LT.lt Nat _ pa ca := Nat.lt_trans c7 c8
  have hrow : ∀ a : Nat, @LE.le Nat _ a (env.locals + 1 + 1 + 1 + 1 + 1 + 1) → (∀ p ∈ tl, p.1 ≠ a) → ∀ p ∈ c₀.keep, p.1 ≠ a := fun a ha q =>
    have f : ∀ z : Nat, @LT.lt Nat _ (env.locals + 1 + 1 + 1 + 1 + 1 + 1) z → @Ne Nat z a := fun _ g => Nat.ne_of_gt (Nat.lt_of_le_of_lt ha g)
    hoff a q (f _ (Nat.lt_trans g7 (Nat.lt_trans c8 c9))) (f _ g7) (f _ g5) (f _ g4) (f _ g3) (f _ g2) (f _ c1)
  have hO : Offs env.locals pa ca c₀.keep :=
    have k5 := Nat.le_refl (Nat.succ (env.locals + 1 + 1 + 1 + 1 + 1))
    have k4 := Nat.le_of_succ_le k5
    have k3 := Nat.le_of_succ_le k4
    have k2 := Nat.le_of_succ_le k3
    have k1 := Nat.le_of_succ_le k2
    ⟨hrow _ (Nat.le_of_succ_le k1) offs.f1, hrow _ k1 offs.f2, hrow _ k2 offs.f3, hrow _ k3 offs.f4, hrow _ k4 offs.f5, hrow _ k5 offs.f6,
      hoff _ offs.fp (Nat.ne_of_gt (Nat.lt_trans hpc c9)) (Nat.ne_of_gt c7) (Nat.ne_of_lt c6) (Nat.ne_of_lt p5) (Nat.ne_of_lt p4) (Nat.ne_of_lt p3) (Nat.ne_of_lt p2),
      hoff _ offs.fc (Nat.ne_of_gt c9) (Nat.ne_of_lt c8) (Nat.ne_of_lt (Nat.lt_trans c6 hpc)) (Nat.ne_of_lt (Nat.lt_trans p5 hpc)) (Nat.ne_of_lt (Nat.lt_trans p4 hpc)) (Nat.ne_of_lt (Nat.lt_trans p3 hpc)) (Nat.ne_of_lt (Nat.lt_trans p2 hpc))⟩
  have hI : LInv w env.locals pa ca D lst pcs nv 0 0 c₀ := by
    refine ⟨m6', m5', m3', m7', m1', StrsAre.cons _ _ StrsAre.nil, ?_, ?_, ?_, ?_, ?_, ?_, ?_, Nat.le_refl _, ?_, ?_, d1, d2, ⟨_, d3⟩, ⟨_, d4⟩, ⟨_, d5⟩, ⟨_, d6⟩, hO, ?_, ?_⟩
    · refine WsRows.cons ?_ WsRows.nil
      rw [scan0]; exact hw.mono htl
    · show RowsAt _ [.ref dr] [rowOf (Str.ofString "")]
      rw [row0]; exact RowsAt.cons m4' hi2 RowsAt.nil
    · show StrsAre [.str (Str.ofString "/0") tp] [pth [0]]
      rw [path0]; exact StrsAre.cons _ _ StrsAre.nil
    · exact RowsAt.cons m2' hi1 RowsAt.nil
    · show Run [z9] [[0]] [rowOf (Str.ofString "")]
      rw [row0]; exact Run.start
    · intro _ l hl
      rw [List.mem_singleton.mp hl]; exact lead_nil
    · intro l hl
      rw [List.mem_singleton.mp hl]; exact lead_weak lead_nil (by decide) (by decide)
    · intro l hl
      rw [List.mem_singleton.mp hl]; exact Nat.le_refl _
    · intro l hl
      rw [List.mem_singleton.mp hl]; rfl
    · exact g6
    · exact hpc
  have hL : News h₀ env.locals s.heap (c₀.led env.locals pa ca) := cb_drop N (by
    dsimp only [LS.led, ledOf, c₀]
    repeat' (first | with_reducible exact List.mem_cons_self .. | refine List.forall_mem_cons.mpr ⟨?_, ?_⟩ | refine List.mem_cons_of_mem _ ?_ | (intro p hp; repeat (first | exact hp | refine List.mem_cons_of_mem _ ?_))))
  have hlt : ∀ I : Addr, (∀ p ∈ c₀.led env.locals pa ca, @LT.lt Nat _ p.1 I) → JL1 w env.locals pa ca D lst pcs nv 0 I 0 (fun y => if y = Str.ofString "paths" then some (.ref pa) else if y = Str.ofString "stack" then some (.ref sa) else if y = Str.ofString "leads" then some (.ref la) else if y = Str.ofString "pieces" then some (.ref D) else m1 y) (c₀.led env.locals pa ca) := fun I hI' =>
    ⟨c₀, rfl, hI, fun p hp => Nat.ne_of_lt (hI' p hp), rfl, rfl, rfl, rfl⟩
  refine list_invJ (k := 0) (vs := nv) (JL1 w env.locals pa ca D lst pcs nv 0) (fun I i m nw hj => ?_) hh F hL ?_ hlt ?_ ?_
  · obtain ⟨c, rfl, hc, _⟩ := hj
    simp only [LS.led, ledOf, List.mem_cons]
    iterate 8 refine .inr ?_
    exact hc.hn
  · simp only [LS.led, ledOf, List.mem_cons]
    iterate 8 refine .inr ?_
    exact m1'
  · intro I i v m nw it h tk hv hj hc F' N'
    obtain ⟨c, rfl, hI', off, e1, e2, e3, e4⟩ := hj
    refine turn I i v m it h tk c hv hI' off hc ?_ N'
    refine fr_congr F' fun y => ?_
    by_cases h0 : y = x
    · simp [h0]
    · simp only [if_neg h0]
      by_cases h1 : y = Str.ofString "leads"
      · rw [if_pos h1, h1, e1]
      · rw [if_neg h1]
        by_cases h2 : y = Str.ofString "stack"
        · rw [if_pos h2, h2, e2]
        · rw [if_neg h2]
          by_cases h3 : y = Str.ofString "pieces"
          · rw [if_pos h3, h3, e3]
          · rw [if_neg h3]
            by_cases h4 : y = Str.ofString "paths"
            · rw [if_pos h4, h4, e4]
            · rw [if_neg h4]
  · intro I m nw h tk hj F' N'
    obtain ⟨c, rfl, hI', off, e1, e2, e3, e4⟩ := hj
    exact done m h tk c hI' (fr_get F' e4) N'
end
theorem mem_mid {α : Type} (pre tl keep : List α) : ∀ p ∈ pre ++ (tl ++ keep), p ∈ tl ++ (pre ++ keep) := fun p hp =>
  (List.mem_append.mp hp).elim (fun h => List.mem_append_right _ (List.mem_append_left _ h)) fun h => (List.mem_append.mp h).elim (fun h => List.mem_append_left _ h) fun h => List.mem_append_right _ (List.mem_append_right _ h)
theorem regroup {h₀ : Heap} {L L' : Addr} {h : Heap} {I pa ca : Nat} {it : Obj} {keep tl : List (Addr × Obj)} {pv cv : List Value} {pk ck : Nat} {o1 o2 o3 o4 o5 o6 : Obj} (N : News h₀ L' h (tl ++ ((I, it) :: ledOf L pa ca keep pv pk cv ck o1 o2 o3 o4 o5 o6))) :
    ∃ keep2 : List (Addr × Obj), (∀ p ∈ keep, p ∈ keep2) ∧ (∀ p ∈ tl, p ∈ keep2) ∧ (∀ a, (∀ p ∈ keep, p.1 ≠ a) → (∀ p ∈ tl, p.1 ≠ a) → ∀ p ∈ keep2, p.1 ≠ a) ∧ News h₀ L' h ((I, it) :: ledOf L pa ca keep2 pv pk cv ck o1 o2 o3 o4 o5 o6) := by
  refine ⟨tl ++ keep, fun p hp => List.mem_append_right _ hp, fun p hp => List.mem_append_left _ hp, fun a h1 h2 p hp => (List.mem_append.mp hp).elim (h2 p) (h1 p), cb_drop N (mem_mid [(I, it), (ca, W.listOf cv.toArray ck), (pa, W.listOf pv.toArray pk), (L + 1 + 1 + 1 + 1 + 1 + 1, o6), (L + 1 + 1 + 1 + 1 + 1, o5), (L + 1 + 1 + 1 + 1, o4), (L + 1 + 1 + 1, o3), (L + 1 + 1, o2), (L + 1, o1)] tl keep)⟩
theorem piece_at (t0 t1 t2 t3 t4 t5 : Tok) (j : Nat) (h : j < 6) : ∃ pc tp, [Value.str (Str.ofString "") t0, Value.str (Str.ofString "\t") t1, Value.str (Str.ofString " \t") t2, Value.str (Str.ofString "  \t") t3, Value.str (Str.ofString " ") t4, Value.str (Str.ofString "\t\t") t5][j]? = some (.str pc tp) ∧ cl pc = pieceL j ∧ pc.length ≤ 3 := by
  have := lt6 h
  rcases this with rfl | rfl | rfl | rfl | rfl | rfl
  · exact ⟨_, _, rfl, by decide +kernel, by decide +kernel⟩
  · exact ⟨_, _, rfl, by decide +kernel, by decide +kernel⟩
  · exact ⟨_, _, rfl, by decide +kernel, by decide +kernel⟩
  · exact ⟨_, _, rfl, by decide +kernel, by decide +kernel⟩
  · exact ⟨_, _, rfl, by decide +kernel, by decide +kernel⟩
  · exact ⟨_, _, rfl, by decide +kernel, by decide +kernel⟩
theorem wpAny_join {prog : Program} {w : World} {A : Around} {E : Value → Shared → Prop} {s : Shared} {t : Sem Value} {Q : Value → Shared → Prop} (P : Value → Prop) (h : wpAny (model prog w) A t (fun y s₂ => ∃ tk, s₂ = { s with toks := tk } ∧ P y) E s) (h2 : ∀ y tk, P y → Q y { s with toks := tk }) : wpAny (model prog w) A t Q E s :=
  wpAny_mono h (fun y s₂ p => by
    obtain ⟨tk, rfl, hp⟩ := p
    exact h2 y tk hp) fun _ _ e => e
def PlaceEnd (h₀ : Heap) (L : Addr) (m : Str → Option Value) (s : Shared) (pre : List (Addr × Obj)) (rest : List (Addr × Obj)) (P : Int → Prop) (f : Flow) (s₂ : Shared) : Prop :=
  f = .next ∧ ∃ h tk pl t c5 u5, s₂ = { s with heap := h, toks := tk } ∧ Fr h₀ L h (fun y => if y = Str.ofString "place" then some (.int pl t) else m y) ∧ News h₀ L h (pre ++ (L + 1 + 1 + 1 + 1 + 1, c5) :: rest) ∧ Obj.data c5 = .cell u5 ∧ P pl
theorem place_join {prog : Program} {w : World} {A : Around} {E : Value → Shared → Prop} {s : Shared} {h₀ : Heap} {L : Addr} {m : Str → Option Value} {v0 : Option Value} {A1 A2 A3 A4 A5 A6 : Addr × Obj} {c5 : Obj} {rest : List (Addr × Obj)} {t : Sem Flow} {Q : Flow → Shared → Prop} (P : Int → Prop)
    (_F : Fr h₀ L s.heap (fun y => if y = Str.ofString "place" then v0 else m y)) (_N : News h₀ L s.heap (A1 :: A2 :: A3 :: A4 :: A5 :: A6 :: (L + 1 + 1 + 1 + 1 + 1, c5) :: rest))
    (h : wpAny (model prog w) A t (PlaceEnd h₀ L m s [A1, A2, A3, A4, A5, A6] rest P) E s)
    (h2 : ∀ pl t c5 u5 h tk, Obj.data c5 = .cell u5 → P pl → Fr h₀ L h (fun y => if y = Str.ofString "place" then some (.int pl t) else m y) → News h₀ L h (A1 :: A2 :: A3 :: A4 :: A5 :: A6 :: (L + 1 + 1 + 1 + 1 + 1, c5) :: rest) → Q .next { s with heap := h, toks := tk }) : wpAny (model prog w) A t Q E s :=
  wpAny_mono h (fun f s₂ p => by
    obtain ⟨rfl, h, tk, pl, t, c5, u5, rfl, F, N, d, hp⟩ := p
    exact h2 pl t c5 u5 h tk d hp F N) fun _ _ e => e
/-- What the law's place must be. -/
def PlaceOk (lad : List (List Int)) (c : List Int) (pl : Int) : Prop :=
  (pl = (lad.length : Nat) ∧ ∀ k < 9, gC (lastD lad) k < gC c k) ∨ (¬ (∀ k < 9, gC (lastD lad) k < gC c k) ∧ ((pl = -1 ∧ ∀ p : Nat, lad[p]? ≠ some c) ∨ ∃ p : Nat, pl = p ∧ lad[p]? = some c))
theorem ws_of {l : Str} (h : LeadB 8 8 (cl l)) : WsOk (scanOf l).1 (scanOf l).2.1 (scanOf l).2.2.1 (scanOf l).2.2.2 := by
  obtain ⟨ns, b, n, nt, -, e, w⟩ := scan_lead h (Nat.le_refl _) (Nat.le_refl _) [] (fun c => rfl)
  have e' : scanOf l = (ns, b, n, nt) := e
  rw [e']; exact w
theorem tail_x (c : List Int × Int × Int × Int) : scanF (cl (Str.ofString "x \t")) c = c := by
  have e : cl (Str.ofString "x \t") = [120, 32, 9] := by decide +kernel
  rw [e]; rfl
theorem less_row {l l' : Str} (h : LeadB 8 8 (cl l)) (h' : LeadB 8 8 (cl l')) : lessB (scanOf l).1 (scanOf l).2.1 (scanOf l).2.2.1 (scanOf l).2.2.2 (scanOf l').1 (scanOf l').2.1 (scanOf l').2.2.1 (scanOf l').2.2.2 = true ↔ ∀ k < 9, gC (rowOf l) k < gC (rowOf l') k := by
  rw [ws_less_iff (ws_of h) (ws_of h')]
  refine forall_congr' fun k => forall_congr' fun hk => ?_
  rw [gC, gC, rowOf_get l hk, rowOf_get l' hk]
theorem lastD_map {leads : List Str} (h : leads.length - 1 < leads.length) : lastD (leads.map rowOf) = rowOf leads[leads.length - 1] := by
  unfold lastD
  rw [List.length_map, List.getD_eq_getElem?_getD, List.getElem?_map, List.getElem?_eq_getElem h]; rfl
def JP (h₀ : Heap) (L : Addr) (m : Str → Option Value) (pre rest : List (Addr × Obj)) (Pr : Nat → Int → Prop) (i : Nat) (m' : Str → Option Value) (nw : List (Addr × Obj)) : Prop :=
  ∃ c5 u5 pl t, nw = pre ++ (L + 1 + 1 + 1 + 1 + 1, c5) :: rest ∧ Obj.data c5 = .cell u5 ∧ Pr i pl ∧ ∀ y, m' y = if y = Str.ofString "place" then some (.int pl t) else m y
theorem place_loop {prog : Program} {w : World} {A : Around} {E : Value → Shared → Prop} {s : Shared} {env : Env} {h₀ : Heap} {body : List Stmt} {Q : Flow → Shared → Prop} {x : Str} {px : Pos} {L r : Addr} {t u v t0 : Tok} {b : Int} {m : Str → Option Value} {A1 A2 A3 A4 A5 A6 : Addr × Obj} {c5 : Obj} {u5 : Option Value} {rest : List (Addr × Obj)} (N0 : Nat) (Pr : Nat → Int → Prop)
    (hL : env.locals = L) (hh : A.handled = none) (hr : IsRange s.heap r 0 b 1 t u v) (hb : b = N0) (hs : N0 ≤ 900)
    (F : Fr h₀ L s.heap (fun y => if y = Str.ofString "place" then some (.int (-1) t0) else m y)) (N : News h₀ L s.heap (A1 :: A2 :: A3 :: A4 :: A5 :: A6 :: (L + 1 + 1 + 1 + 1 + 1, c5) :: rest)) (hd : c5.data = .cell u5) (h0 : Pr 0 (-1))
    (turn : ∀ (I : Addr) (i : Nat) (t : Tok) (it : Obj) (h : Heap) (tk : _) (c5' : Obj) (u5' : Option Value) (pl : Int) (t5 : Tok), (∀ p ∈ A1 :: A2 :: A3 :: A4 :: A5 :: A6 :: (L + 1 + 1 + 1 + 1 + 1, c5) :: rest, @LT.lt Nat _ p.1 I) → i < N0 → c5'.data = .cell u5' → Pr i pl →
      Fr h₀ L h (fun y => if y = Str.ofString "place" then some (.int pl t5) else m y) → News h₀ L h ((I, it) :: A1 :: A2 :: A3 :: A4 :: A5 :: A6 :: (L + 1 + 1 + 1 + 1 + 1, c5') :: rest) →
      wpAny (model prog w) A (assign (.Name x px) env (.int (i : Int) t)) (fun _ s₂ => wpAny (model prog w) A (execs body env) (UnrPost h₀ L { s with heap := h, toks := tk } I it (JP h₀ L m [A1, A2, A3, A4, A5, A6] rest Pr (i + 1)) Q) E s₂) E { s with heap := h, toks := tk })
    (done : ∀ h tk c5' u5' pl t5, Obj.data c5' = .cell u5' → Pr N0 pl → Fr h₀ L h (fun y => if y = Str.ofString "place" then some (.int pl t5) else m y) → News h₀ L h (A1 :: A2 :: A3 :: A4 :: A5 :: A6 :: (L + 1 + 1 + 1 + 1 + 1, c5') :: rest) → Q .next { s with heap := h, toks := tk }) :
    wpAny (model prog w) A (pyIter (.ref r)) (fun it s₂ => TurnsAt prog w A h₀ env (.Name x px) body Q E it s₂) E s := by
  subst hL
  subst hb
  refine range_turns N0 (JP h₀ env.locals m [A1, A2, A3, A4, A5, A6] rest Pr) hh hr (by omega) (by omega) (by omega) (by omega) (by omega) F N (fun _ _ => ⟨_, _, _, _, rfl, hd, h0, fun _ => rfl⟩) (fun I i t m' nw it h tk hI hi hj _ F' N' => ?_) (fun m' nw h tk hj F' N' => ?_)
  · obtain ⟨c5', u5', pl, t5, rfl, hd', hp, hm⟩ := hj
    rw [Int.zero_add]
    exact turn I i t it h tk c5' u5' pl t5 hI hi hd' hp (fr_congr F' hm) N'
  · obtain ⟨c5', u5', pl, t5, rfl, hd', hp, hm⟩ := hj
    exact done h tk c5' u5' pl t5 hd' hp (fr_congr F' hm) N'
theorem fr_dup {h₀ : Heap} {L : Addr} {h : Heap} {x : Str} {a b : Option Value} {m : Str → Option Value} (F : Fr h₀ L h (fun y => if y = x then a else if y = x then b else m y)) : Fr h₀ L h (fun y => if y = x then a else m y) :=
  fr_congr F fun y => by
    by_cases e : y = x
    · rw [if_pos e, if_pos e]
    · rw [if_neg e, if_neg e, if_neg e]
theorem off_p33 : True := by
  w_top off
  trivial
theorem lead_new {zs : List Int} {i j : Nat} {n : Int} {b ld : List Nat} (hi : i ≤ 7) (hnn : (zs.take 7 ++ [2])[i]? = some n) (hj : (n.fdiv 2).fmod 6 = (j : Int)) (hj1 : j < 6) (hb : LeadB (i + 1) i b)
    (hld : (ld = b ++ pieceL j ∧ n.fmod 2 = 0) ∨ (ld = pieceL j ++ b ∧ ¬ n.fmod 2 = 0)) : (i + 1 ≤ 7 → LeadB (i + 1 + 1) (i + 1) ld) ∧ LeadB 8 8 ld := by
  rcases Nat.lt_or_ge i 7 with h7 | h7
  · have h : LeadB (i + 2) (i + 1) ld := by
      rcases hld with ⟨e, _⟩ | ⟨e, _⟩
      · rw [e]; exact lead_app hb hj1
      · rw [e]; exact lead_pre hb hj1
    exact ⟨fun _ => h, lead_weak h (by walk_at "zz") (by walk_at "zz")⟩
  · have e7 : i = 7 := by walk_at "zz"
    subst e7
    have hl : (zs.take 7).length = 7 := by
      have h1 := (List.getElem?_eq_some_iff.mp hnn).1
      rw [List.length_append, List.length_singleton] at h1
      have h2 : (zs.take 7).length ≤ 7 := List.length_take_le ..
      omega
    have hn : n = 2 := by
      rw [List.getElem?_append_right (by walk_at "zz"), hl] at hnn
      exact (Option.some.inj hnn).symm
    subst hn
    have ej : j = 1 := by
      have : ((2 : Int).fdiv 2).fmod 6 = 1 := by decide
      omega
    subst ej
    refine ⟨fun h => absurd h (by walk_at "zz"), ?_⟩
    rcases hld with ⟨e, _⟩ | ⟨_, q⟩
    · rw [e]; exact lead_weak (lead_tab hb) (by walk_at "zz") (by walk_at "zz")
    · exact absurd (by decide) q
theorem told_val {lad : List (List Int)} {c : List Int} {pl : Int} (H : Lad lad) (h9 : c.length = 9) (hp : PlaceOk lad c pl) :
    ((∀ k < 9, placeS lad c k = placeS lad c 0) ∧ pl = placeS lad c 0) ∨ (¬ (∀ k < 9, placeS lad c k = placeS lad c 0) ∧ pl = -1) := by
  rcases hp with ⟨e, hl⟩ | ⟨hl, ⟨e, he⟩ | ⟨p, e, he⟩⟩
  · refine .inl ⟨fun k hk => ?_, ?_⟩
    · rw [place_push H.pos (hl k hk), place_push H.pos (hl 0 (by decide))]
    · rw [place_push H.pos (hl 0 (by decide)), e]
  · by_cases q : ∀ k < 9, placeS lad c k = placeS lad c 0
    · exact .inl ⟨q, by rw [place_none H h9 hl he q, e]⟩
    · exact .inr ⟨q, e⟩
  · have hlt := (List.getElem?_eq_some_iff.mp he).1
    have ec : c = lad.getD p [] := by rw [List.getD_eq_getElem?_getD, he]; rfl
    subst ec
    refine .inl ⟨fun k hk => ?_, ?_⟩
    · rw [place_same H hlt hk, place_same H hlt (by decide)]
    · rw [place_same H hlt (by decide), e]
theorem place_step {lad : List (List Int)} {c : List Int} {pl : Int} (hp : PlaceOk lad c pl) (h0 : 0 ≤ pl) : ∃ p : Nat, pl = p ∧ p ≤ lad.length ∧ ((p = lad.length ∧ ∀ k < 9, gC (lastD lad) k < gC c k) ∨ lad[p]? = some c) := by
  rcases hp with ⟨e, hl⟩ | ⟨_, ⟨e, _⟩ | ⟨p, e, he⟩⟩
  · exact ⟨_, e, Nat.le_refl _, .inl ⟨rfl, hl⟩⟩
  · omega
  · exact ⟨p, e, Nat.le_of_lt (List.getElem?_eq_some_iff.mp he).1, .inr he⟩
theorem lad_of {cols : List (List Int)} {ds : List (List Nat)} {leads : List Str} (I : Inv cols ds (leads.map rowOf)) : Lad (leads.map rowOf) :=
  ⟨I.lpos, fun r hr => by
    obtain ⟨l, -, rfl⟩ := List.mem_map.mp hr
    exact rowOf_len l, I.inc⟩
theorem eq_row {l l' : Str} (h : LeadB 8 8 (cl l)) (h' : LeadB 8 8 (cl l')) : ((scanOf l).1 = (scanOf l').1 ∧ (scanOf l).2.1 = (scanOf l').2.1) ↔ rowOf l = rowOf l' := by
  have w := ws_of h
  have w' := ws_of h'
  constructor
  · rintro ⟨e1, e2⟩
    have e3 : (scanOf l).2.2.2 = (scanOf l').2.2.2 := by rw [w.sum, w'.sum, e1]
    rw [rowOf, rowOf, e1, e2, e3]
  · intro q
    refine ws_eq w w' fun k hk => ?_
    rw [← rowOf_get l hk, ← rowOf_get l' hk, q]
/-- The place that the loop has found behind i turns. -/
def PlPr (lad : List (List Int)) (c : List Int) (i : Nat) (pl : Int) : Prop := (pl = -1 ∧ ∀ p < i, lad[p]? ≠ some c) ∨ ∃ p : Nat, p < i ∧ pl = (p : Nat) ∧ lad[p]? = some c
theorem plpr_zero (lad : List (List Int)) (c : List Int) : PlPr lad c 0 (-1) := .inl ⟨rfl, fun _ h => absurd h (Nat.not_lt_zero _)⟩
theorem plpr_hit {lad : List (List Int)} {c : List Int} {i : Nat} (h : lad[i]? = some c) : PlPr lad c (i + 1) (i : Nat) := .inr ⟨i, Nat.lt_succ_self i, rfl, h⟩
theorem plpr_miss {lad : List (List Int)} {c : List Int} {i : Nat} {pl : Int} (h : lad[i]? ≠ some c) (hp : PlPr lad c i pl) : PlPr lad c (i + 1) pl := by
  rcases hp with ⟨e, q⟩ | ⟨p, hp, e, q⟩
  · refine .inl ⟨e, fun p hp => ?_⟩
    rcases Nat.lt_or_ge p i with h1 | h1
    · exact q p h1
    · rw [show p = i by walk_at "zz"]; exact h
  · exact .inr ⟨p, by walk_at "zz", e, q⟩
theorem plpr_end {lad : List (List Int)} {c : List Int} {pl : Int} {n : Nat} (hn : n = lad.length) (hl : ¬ (∀ k < 9, gC (lastD lad) k < gC c k)) (hp : PlPr lad c n pl) : PlaceOk lad c pl := by
  refine .inr ⟨hl, ?_⟩
  rcases hp with ⟨e, q⟩ | ⟨p, _, e, q⟩
  · refine .inl ⟨e, fun p hp => ?_⟩
    exact q p (by rw [hn]; exact (List.getElem?_eq_some_iff.mp hp).1) hp
  · exact .inr ⟨p, e, q⟩
theorem place_fin {h₀ h' : Heap} {L : Addr} {s₁ : Shared} {tk : Nat} {I : Addr} {it : Obj} {m : Str → Option Value} {A1 A2 A3 A4 A5 A6 : Addr × Obj} {c5 c50 : Obj} {u5 : Option Value} {rest : List (Addr × Obj)} {Pr : Nat → Int → Prop} {i : Nat} {pl : Int} {t : Tok}
    (hI : ∀ p ∈ A1 :: A2 :: A3 :: A4 :: A5 :: A6 :: (L + 1 + 1 + 1 + 1 + 1, c50) :: rest, @LT.lt Nat _ p.1 I)
    (F : Fr h₀ L h' (fun y => if y = Str.ofString "place" then some (.int pl t) else m y)) (N : News h₀ L h' ((I, it) :: A1 :: A2 :: A3 :: A4 :: A5 :: A6 :: (L + 1 + 1 + 1 + 1 + 1, c5) :: rest)) (hd : c5.data = .cell u5) (hp : Pr i pl) :
    UnrEnd h₀ L s₁ I it (JP h₀ L m [A1, A2, A3, A4, A5, A6] rest Pr i) { s₁ with heap := h', toks := tk } := by
  refine ⟨h', tk, _, _, rfl, F, N, fun p hp => ?_, _, _, _, _, rfl, hd, hp, fun _ => rfl⟩
  have hall : ∀ p ∈ A1 :: A2 :: A3 :: A4 :: A5 :: A6 :: (L + 1 + 1 + 1 + 1 + 1, c5) :: rest, @LT.lt Nat _ p.1 I := by
    simp only [List.forall_mem_cons] at hI ⊢
    exact hI
  exact Nat.ne_of_lt (hall p hp)
/-- The join of an expression that may lay objects which nobody keeps. -/
def JoinEnd (h₀ : Heap) (L : Addr) (m : Str → Option Value) (nw : List (Addr × Obj)) (s : Shared) (P : Value → Prop) (y : Value) (s₂ : Shared) : Prop :=
  ∃ h tk, s₂ = { s with heap := h, toks := tk } ∧ Fr h₀ L h m ∧ News h₀ L h nw ∧ P y
theorem wpAny_joinH {prog : Program} {w : World} {A : Around} {E : Value → Shared → Prop} {s : Shared} {h₀ : Heap} {L : Addr} {m : Str → Option Value} {nw : List (Addr × Obj)} {t : Sem Value} {Q : Value → Shared → Prop} (P : Value → Prop) (_F : Fr h₀ L s.heap m) (_N : News h₀ L s.heap nw)
    (h : wpAny (model prog w) A t (JoinEnd h₀ L m nw s P) E s)
    (h2 : ∀ y h tk, P y → Fr h₀ L h m → News h₀ L h nw → Q y { s with heap := h, toks := tk }) : wpAny (model prog w) A t Q E s :=
  wpAny_mono h (fun y s₂ p => by
    obtain ⟨h, tk, rfl, F, N, hp⟩ := p
    exact h2 y h tk hp F N) fun _ _ e => e
theorem wpAny_joinE {prog : Program} {w : World} {A : Around} {E : Value → Shared → Prop} {s : Shared} {h₀ : Heap} {L : Addr} {m : Str → Option Value} {nw : List (Addr × Obj)} {t : Sem Value} {Q : Value → Shared → Prop} (g : Tok → Value) (_F : Fr h₀ L s.heap m) (_N : News h₀ L s.heap nw)
    (h : wpAny (model prog w) A t (JoinEnd h₀ L m nw s (fun y => ∃ t, y = g t)) E s)
    (h2 : ∀ t h tk, Fr h₀ L h m → News h₀ L h nw → Q (g t) { s with heap := h, toks := tk }) : wpAny (model prog w) A t Q E s :=
  wpAny_joinH (fun y => ∃ t, y = g t) _F _N h fun y h tk p F N => by
    obtain ⟨t, rfl⟩ := p
    exact h2 t h tk F N
theorem join_fin {h₀ h' : Heap} {L : Addr} {m : Str → Option Value} {nw all : List (Addr × Obj)} {s : Shared} {P : Value → Prop} {y : Value} {tk : Nat} (F : Fr h₀ L h' m) (N : News h₀ L h' all) (sub : ∀ p ∈ nw, p ∈ all) (hp : P y) : JoinEnd h₀ L m nw s P y { s with heap := h', toks := tk } :=
  ⟨h', tk, rfl, F, cb_drop N sub, hp⟩
theorem told_all {f : Nat → Int} : (List.range 9).map f = (List.replicate (Int.toNat 9) [((List.range 9).map f).getD (Int.toNat 0) 0]).flatten ↔ ∀ k < 9, f k = f 0 := by
  rw [all9]
  show [f 0, f 1, f 2, f 3, f 4, f 5, f 6, f 7, f 8] = [f 0, f 0, f 0, f 0, f 0, f 0, f 0, f 0, f 0] ↔ _
  simp only [List.cons.injEq, and_true]
theorem turn_fin {w : World} {h₀ h' : Heap} {L pa ca D lst : Nat} {pcs : Array Value} {nv : List Value} {nk : Nat} {I : Addr} {it : Obj} {i : Nat} {all : List (Addr × Obj)} {m' : Str → Option Value} {s₁ : Shared} {tk : Nat} (c : LS)
    (F : Fr h₀ L h' m') (N : News h₀ L h' all) (sub : ∀ p ∈ (I, it) :: c.led L pa ca, p ∈ all) (hI : LInv w L pa ca D lst pcs nv nk i c) (off : ∀ p ∈ c.led L pa ca, p.1 ≠ I)
    (e1 : m' (Str.ofString "leads") = some (.ref c.la)) (e2 : m' (Str.ofString "stack") = some (.ref c.sa)) (e3 : m' (Str.ofString "pieces") = some (.ref D)) (e4 : m' (Str.ofString "paths") = some (.ref pa)) :
    UnrEnd h₀ L s₁ I it (JL1 w L pa ca D lst pcs nv nk I i) { s₁ with heap := h', toks := tk } :=
  ⟨h', tk, m', c.led L pa ca, rfl, F, cb_drop N sub, off, c, rfl, hI, off, e1, e2, e3, e4⟩
theorem nm_leads1 : (Str.ofString "leads" = Str.ofString "place") = False := eq_false (by decide +kernel)
theorem nm_leads2 : (Str.ofString "leads" = Str.ofString "told") = False := eq_false (by decide +kernel)
theorem nm_leads3 : (Str.ofString "leads" = Str.ofString "lead") = False := eq_false (by decide +kernel)
theorem nm_leads4 : (Str.ofString "leads" = Str.ofString "piece") = False := eq_false (by decide +kernel)
theorem nm_leads5 : (Str.ofString "leads" = Str.ofString "base") = False := eq_false (by decide +kernel)
theorem nm_leads6 : (Str.ofString "leads" = Str.ofString "n") = False := eq_false (by decide +kernel)
theorem nm_leads7 : (Str.ofString "leads" = Str.ofString "stack") = False := eq_false (by decide +kernel)
theorem nm_leads8 : (Str.ofString "leads" = Str.ofString "ladder") = False := eq_false (by decide +kernel)
theorem nm_stack1 : (Str.ofString "stack" = Str.ofString "place") = False := eq_false (by decide +kernel)
theorem nm_stack2 : (Str.ofString "stack" = Str.ofString "told") = False := eq_false (by decide +kernel)
theorem nm_stack3 : (Str.ofString "stack" = Str.ofString "lead") = False := eq_false (by decide +kernel)
theorem nm_stack4 : (Str.ofString "stack" = Str.ofString "piece") = False := eq_false (by decide +kernel)
theorem nm_stack5 : (Str.ofString "stack" = Str.ofString "base") = False := eq_false (by decide +kernel)
theorem nm_stack6 : (Str.ofString "stack" = Str.ofString "n") = False := eq_false (by decide +kernel)
theorem nm_stack7 : (Str.ofString "stack" = Str.ofString "leads") = False := eq_false (by decide +kernel)
theorem nm_pieces1 : (Str.ofString "pieces" = Str.ofString "place") = False := eq_false (by decide +kernel)
theorem nm_pieces2 : (Str.ofString "pieces" = Str.ofString "told") = False := eq_false (by decide +kernel)
theorem nm_pieces3 : (Str.ofString "pieces" = Str.ofString "lead") = False := eq_false (by decide +kernel)
theorem nm_pieces4 : (Str.ofString "pieces" = Str.ofString "piece") = False := eq_false (by decide +kernel)
theorem nm_pieces5 : (Str.ofString "pieces" = Str.ofString "base") = False := eq_false (by decide +kernel)
theorem nm_pieces6 : (Str.ofString "pieces" = Str.ofString "n") = False := eq_false (by decide +kernel)
theorem nm_pieces7 : (Str.ofString "pieces" = Str.ofString "leads") = False := eq_false (by decide +kernel)
theorem nm_pieces8 : (Str.ofString "pieces" = Str.ofString "stack") = False := eq_false (by decide +kernel)
theorem nm_paths1 : (Str.ofString "paths" = Str.ofString "place") = False := eq_false (by decide +kernel)
theorem nm_paths2 : (Str.ofString "paths" = Str.ofString "told") = False := eq_false (by decide +kernel)
theorem nm_paths3 : (Str.ofString "paths" = Str.ofString "lead") = False := eq_false (by decide +kernel)
theorem nm_paths4 : (Str.ofString "paths" = Str.ofString "piece") = False := eq_false (by decide +kernel)
theorem nm_paths5 : (Str.ofString "paths" = Str.ofString "base") = False := eq_false (by decide +kernel)
theorem nm_paths6 : (Str.ofString "paths" = Str.ofString "n") = False := eq_false (by decide +kernel)
theorem nm_paths7 : (Str.ofString "paths" = Str.ofString "leads") = False := eq_false (by decide +kernel)
theorem nm_paths8 : (Str.ofString "paths" = Str.ofString "stack") = False := eq_false (by decide +kernel)
theorem nm_paths9 : (Str.ofString "paths" = Str.ofString "pieces") = False := eq_false (by decide +kernel)
theorem dig_is {n : Nat} (h : n < 10) : Str.ofString (toString ((n : Nat) : Int)) = dig n := by
  rcases Nat.lt_succ_iff_lt_or_eq.mp h with h | rfl
  · rcases lt9 h with rfl | rfl | rfl | rfl | rfl | rfl | rfl | rfl | rfl <;> decide +kernel
  · decide +kernel
theorem dots_len {ups : Str} {u : Nat} (h : cl ups = (List.replicate u [46, 46, 47]).flatten) : ups.length = 3 * u := by
  rw [cl_len, h, List.length_flatten, List.map_replicate, List.sum_replicate_nat]
  simp; omega
theorem add_lst {prog : Program} {w : World} {A : Around} {E : Value → Shared → Prop} {s : Shared} {h₀ : Heap} {L a b : Addr} {m : Str → Option Value} {news : List (Addr × Obj)} {vs ws : List Value} {n k : Nat} {Q : Value → Shared → Prop} (F : Fr h₀ L s.heap m) (N : News h₀ L s.heap news)
    (ha : (a, W.listOf vs.toArray n) ∈ news) (hb : (b, W.listOf ws.toArray k) ∈ news) (hz : vs.length + ws.length ≤ 10000)
    (h : ∀ D h', Fr h₀ L h' m → News h₀ L h' ((D, W.listOf (vs ++ ws).toArray 0) :: news) → (∀ p ∈ news, p.1 < D) → Q (.ref D) { s with heap := h' }) : wpAny (model prog w) A (binaryOp .Add (.ref a) (.ref b)) Q E s :=
  kmk_add_lit F N (News.isList N ha) (News.isList N hb) rfl h (by rw [sizeLine_eq]; simp only [List.toList_toArray]; omega)
theorem turns7 {zs : List Int} {i : Nat} {n : Int} (h : (zs.take 7 ++ [2])[i]? = some n) : i ≤ 7 := by
  have h1 := (List.getElem?_eq_some_iff.mp h).1
  rw [List.length_append, List.length_singleton] at h1
  have h2 : (zs.take 7).length ≤ 7 := List.length_take_le ..
  omega
theorem tk_le {α : Type} {vs : List α} {n : Nat} {y : α} (h : vs.length ≤ 900) : (List.take n vs).length + [y].length ≤ 10000 := by
  rw [List.length_take, List.length_singleton]; omega
theorem sub_idx {n r : Nat} (h : (r : Int) < n) : n - 1 - r < n := by walk_at "zz"
theorem neg1 (r : Nat) : -1 - (r : Int) < 0 := by walk_at "zz"
theorem neg2 {n r : Nat} (h : (r : Int) < n) : -(n : Int) ≤ -1 - (r : Int) := by walk_at "zz"
theorem neg3 {n r : Nat} (h : (r : Int) < n) : (-1 - (r : Int) + (n : Int)).toNat = n - 1 - r := by walk_at "zz"
theorem le_3i {n i : Nat} (h : n ≤ 3 * i + 3) (hi : i ≤ 7) : n + 3 ≤ 900 := by walk_at "zz"
theorem cast1 (i : Nat) : 1 + (i : Int) = ((i + 1 : Nat) : Int) := by walk_at "zz"
theorem cast0 (i : Nat) : 0 + (i : Int) = ((i : Nat) : Int) := by walk_at "zz"
theorem le_1000 {i : Nat} (h : i < 9) : i + 1 ≤ 1000 := by walk_at "zz"
theorem ws_le {ns : List Int} {b n nt : Int} (h : WsOk ns b n nt) : ns.length ≤ 900 ∧ (0 ≤ b ∧ b ≤ 900) := by
  have h1 := h.len
  have h2 := h.b0
  have h3 := h.b8
  omega
theorem off_p34 : True := by
  w_top off
  trivial
/-- The lines ahead of j whose column at k is smaller. -/
def lows (cols : List (List Int)) (j k n : Nat) : List Nat := (List.range n).filter (fun i => decide (gC (cols.getD i []) k < gC (cols.getD j []) k))
theorem lows_succ (cols : List (List Int)) (j k n : Nat) : lows cols j k (n + 1) = lows cols j k n ++ if gC (cols.getD n []) k < gC (cols.getD j []) k then [n] else [] := by
  rw [lows, lows, List.range_succ, List.filter_append]
  congr 1
  rw [List.filter_cons, List.filter_nil]
  simp only [decide_eq_true_eq]
theorem lows_last {cols : List (List Int)} {i j k : Nat} (hij : i < j) (h1 : gC (cols.getD i []) k < gC (cols.getD j []) k) (h2 : ∀ i', i < i' → i' < j → gC (cols.getD j []) k ≤ gC (cols.getD i' []) k) : (lows cols j k j).getLast? = some i := by
  have key : ∀ d, i + 1 + d ≤ j → (lows cols j k (i + 1 + d)).getLast? = some i := by
    intro d
    induction d with
    | zero =>
      intro _
      rw [Nat.add_zero, lows_succ, if_pos h1]
      simp
    | succ d ih =>
      intro hd
      have := h2 (i + 1 + d) (by walk_at "zz") (by walk_at "zz")
      rw [← Nat.add_assoc, lows_succ, if_neg (by walk_at "zz"), List.append_nil]
      exact ih (by walk_at "zz")
  have := key (j - (i + 1)) (by walk_at "zz")
  rwa [show i + 1 + (j - (i + 1)) = j by walk_at "zz"] at this
theorem lows_nil {cols : List (List Int)} {j k : Nat} (h : ∀ i < j, gC (cols.getD j []) k ≤ gC (cols.getD i []) k) : lows cols j k j = [] := by
  have key : ∀ n, n ≤ j → lows cols j k n = [] := by
    intro n
    induction n with
    | zero => intro _; rfl
    | succ n ih =>
      intro hn
      have := h n (by walk_at "zz")
      rw [lows_succ, if_neg (by walk_at "zz"), List.append_nil]
      exact ih (by walk_at "zz")
  exact key j (Nat.le_refl _)
theorem par_ne {cols : List (List Int)} {ds : List (List Nat)} {j : Nat} (h : Par cols ds j) : ds.getD j [] ≠ [] := by
  rcases h with ⟨e, _⟩ | ⟨i, _, e, _⟩ <;> rw [e] <;> simp
theorem pth_nil : pth [] = Str.ofString "/" := str_ext (by rw [cl_pth0, cl_sep])
theorem par_lows {cols : List (List Int)} {ds : List (List Nat)} {j k : Nat} (h : Par cols ds j) (hk : k < 9) :
    (lows cols j k j = [] ∧ dirS (pth (ds.getD j [])) = Str.ofString "/") ∨ ∃ i, i < j ∧ (lows cols j k j).getLast? = some i ∧ dirS (pth (ds.getD j [])) = pth (ds.getD i []) := by
  have hne := par_ne h
  rcases h with ⟨e, hl⟩ | ⟨i, hij, e, h1, h2⟩
  · refine .inl ⟨lows_nil fun i hi => hl i hi k hk, ?_⟩
    rw [dir_pth hne, e]
    exact pth_nil
  · refine .inr ⟨i, hij, lows_last hij (h1 k hk) (fun i' a b => h2 i' a b k hk), ?_⟩
    rw [dir_pth hne, e, List.dropLast_concat]
/-- What commonpath gives of two paths. -/
def comS (x y : Str) : Str := Str.ofString "/" ++ Str.join (Str.ofString "/") (lcpS ((Txt.split x (Str.ofString "/")).filter keepS) ((Txt.split y (Str.ofString "/")).filter keepS))
theorem pair_low {cols : List (List Int)} {ds : List (List Nat)} {lad : List (List Int)} (I : Inv cols ds lad) {i j l k : Nat} (hij : i < j) (hj : j < ds.length) (hk : k < 9) (hf : FLk cols i j l k) :
    dirS (pth (ds.getD l [])) = comS (pth (ds.getD i [])) (pth (ds.getD j [])) := by
  obtain ⟨l', h1, h2⟩ := I.pair i j hij hj
  have e := FLk.unique hf (h1 k hk)
  subst e
  rw [comS, common_is (par_ne (I.par i (by walk_at "zz"))) (par_ne (I.par j hj)), dir_pth (par_ne (I.par l (by have := hf.2.1; omega))), h2]
theorem pth_starts {ds : List Nat} (h : ds ≠ []) : Txt.startswith (pth ds) (Str.ofString "/") = true := by
  rw [starts_iff, cl_pth h]
  cases ds with
  | nil => exact absurd rfl h
  | cons d r => rfl
theorem pth_split_len {ds : List Nat} (h : ds ≠ []) : (Txt.split (pth ds) (Str.ofString "/")).length = ds.length + 1 := by
  rw [pth_split h]; simp
theorem pth_split_one {ds : List Nat} (h : ds ≠ []) : ∀ a ∈ Txt.split (pth ds) (Str.ofString "/"), a.length ≤ 900 := by
  intro a ha
  rw [pth_split h] at ha
  rcases List.mem_cons.mp ha with rfl | ha
  · decide
  · obtain ⟨d, -, rfl⟩ := List.mem_map.mp ha
    rw [cl_len, cl_dig, List.length_singleton]; decide
theorem off_p35 : True := by
  w_top off
  trivial
/-- An address that is none of the cells', the two lists' or the iterator's. -/
def FreshA (L pa ca I a : Nat) : Prop := @Ne Nat a (L + 1) ∧ @Ne Nat a (L + 1 + 1) ∧ @Ne Nat a (L + 1 + 1 + 1) ∧ @Ne Nat a (L + 1 + 1 + 1 + 1) ∧ @Ne Nat a (L + 1 + 1 + 1 + 1 + 1) ∧ @Ne Nat a (L + 1 + 1 + 1 + 1 + 1 + 1) ∧ @Ne Nat a pa ∧ @Ne Nat a ca ∧ @Ne Nat a I
theorem fresh_lt {L pa ca I a : Nat} {keep : List (Addr × Obj)} (h : @LT.lt Nat _ I a ∧ @LT.lt Nat _ ca a ∧ @LT.lt Nat _ pa a ∧ @LT.lt Nat _ (L + 1 + 1 + 1 + 1 + 1 + 1) a ∧ @LT.lt Nat _ (L + 1 + 1 + 1 + 1 + 1) a ∧ @LT.lt Nat _ (L + 1 + 1 + 1 + 1) a ∧ @LT.lt Nat _ (L + 1 + 1 + 1) a ∧ @LT.lt Nat _ (L + 1 + 1) a ∧ @LT.lt Nat _ (L + 1) a ∧ AllLt a keep) : FreshA L pa ca I a :=
  ⟨Nat.ne_of_gt h.2.2.2.2.2.2.2.2.1, Nat.ne_of_gt h.2.2.2.2.2.2.2.1, Nat.ne_of_gt h.2.2.2.2.2.2.1, Nat.ne_of_gt h.2.2.2.2.2.1, Nat.ne_of_gt h.2.2.2.2.1, Nat.ne_of_gt h.2.2.2.1, Nat.ne_of_gt h.2.2.1, Nat.ne_of_gt h.2.1, Nat.ne_of_gt h.1⟩
theorem fresh_ne {L pa ca I a : Nat} {keep : List (Addr × Obj)} (h : @Ne Nat I a ∧ @Ne Nat ca a ∧ @Ne Nat pa a ∧ @Ne Nat (L + 1 + 1 + 1 + 1 + 1 + 1) a ∧ @Ne Nat (L + 1 + 1 + 1 + 1 + 1) a ∧ @Ne Nat (L + 1 + 1 + 1 + 1) a ∧ @Ne Nat (L + 1 + 1 + 1) a ∧ @Ne Nat (L + 1 + 1) a ∧ @Ne Nat (L + 1) a ∧ LCg.Off1 a keep) : FreshA L pa ca I a :=
  ⟨h.2.2.2.2.2.2.2.2.1.symm, h.2.2.2.2.2.2.2.1.symm, h.2.2.2.2.2.2.1.symm, h.2.2.2.2.2.1.symm, h.2.2.2.2.1.symm, h.2.2.2.1.symm, h.2.2.1.symm, h.2.1.symm, h.1.symm⟩
theorem Offs.cons {L pa ca I a : Nat} {o : Obj} {keep : List (Addr × Obj)} (h : Offs L pa ca keep) (f : FreshA L pa ca I a) : Offs L pa ca ((a, o) :: keep) := by
  obtain ⟨a1, a2, a3, a4, a5, a6, a7, a8, -⟩ := f
  exact ⟨List.forall_mem_cons.mpr ⟨a1, h.f1⟩, List.forall_mem_cons.mpr ⟨a2, h.f2⟩, List.forall_mem_cons.mpr ⟨a3, h.f3⟩, List.forall_mem_cons.mpr ⟨a4, h.f4⟩, List.forall_mem_cons.mpr ⟨a5, h.f5⟩, List.forall_mem_cons.mpr ⟨a6, h.f6⟩, List.forall_mem_cons.mpr ⟨a7, h.fp⟩, List.forall_mem_cons.mpr ⟨a8, h.fc⟩⟩
theorem off_led {L pa ca I : Nat} {keep : List (Addr × Obj)} {pv cv : List Value} {pk ck : Nat} {o1 o2 o3 o4 o5 o6 : Obj} (i1 : @Ne Nat I (L + 1)) (i2 : @Ne Nat I (L + 1 + 1)) (i3 : @Ne Nat I (L + 1 + 1 + 1)) (i4 : @Ne Nat I (L + 1 + 1 + 1 + 1)) (i5 : @Ne Nat I (L + 1 + 1 + 1 + 1 + 1)) (i6 : @Ne Nat I (L + 1 + 1 + 1 + 1 + 1 + 1)) (ip : @Ne Nat I pa) (ic : @Ne Nat I ca) (h : ∀ p ∈ keep, p.1 ≠ I) :
    ∀ p ∈ ledOf L pa ca keep pv pk cv ck o1 o2 o3 o4 o5 o6, p.1 ≠ I := by
  simp only [ledOf, List.forall_mem_cons]
  exact ⟨Ne.symm ic, Ne.symm ip, Ne.symm i6, Ne.symm i5, Ne.symm i4, Ne.symm i3, Ne.symm i2, Ne.symm i1, h⟩
section
variable {w : World} {h₀ h' : Heap} {L pa ca D lst : Nat} {pcs : Array Value} {nv : List Value} {I : Addr} {it : Obj} {i : Nat} {m' : Str → Option Value} {s₁ : Shared} {tk : Nat} {c : LS}
theorem turn_same {X1 X2 : Addr × Obj} {o3 o4 o5 : Obj} {v3 v4 v5 : Option Value} (hI : LInv w L pa ca D lst pcs nv 0 i c) (F : Fr h₀ L h' m') (N : News h₀ L h' (X1 :: X2 :: (I, it) :: ledOf L pa ca c.keep c.pv c.pk c.cv c.ck c.o1 c.o2 o3 o4 o5 c.o6))
    (d3 : o3.data = .cell v3) (d4 : o4.data = .cell v4) (d5 : o5.data = .cell v5)
    (i1 : @Ne Nat I (L + 1)) (i2 : @Ne Nat I (L + 1 + 1)) (i3 : @Ne Nat I (L + 1 + 1 + 1)) (i4 : @Ne Nat I (L + 1 + 1 + 1 + 1)) (i5 : @Ne Nat I (L + 1 + 1 + 1 + 1 + 1)) (i6 : @Ne Nat I (L + 1 + 1 + 1 + 1 + 1 + 1)) (ip : @Ne Nat I pa) (ic : @Ne Nat I ca) (hk : ∀ p ∈ c.keep, p.1 ≠ I)
    (e1 : m' (Str.ofString "leads") = some (.ref c.la)) (e2 : m' (Str.ofString "stack") = some (.ref c.sa)) (e3 : m' (Str.ofString "pieces") = some (.ref D)) (e4 : m' (Str.ofString "paths") = some (.ref pa)) :
    UnrEnd h₀ L s₁ I it (JL1 w L pa ca D lst pcs nv 0 I (i + 1)) { s₁ with heap := h', toks := tk } := by
  refine turn_fin { c with o3 := o3, o4 := o4, o5 := o5 } F N (fun p hp => List.mem_cons_of_mem _ (List.mem_cons_of_mem _ hp)) ?_ (off_led i1 i2 i3 i4 i5 i6 ip ic hk) e1 e2 e3 e4
  have q := hI
  exact ⟨q.hla, q.hsa, q.hda, q.hD, q.hn, q.sl, q.ss, q.sd, q.sp, q.sc, q.run, fun h l hl => lead_weak (q.lead (by omega) l hl) (by omega) (by omega), q.leadL, Nat.le_succ_of_le q.len, fun l hl => Nat.le_trans (q.ln l hl) (by omega), q.c9, q.d1, q.d2, ⟨_, d3⟩, ⟨_, d4⟩, ⟨_, d5⟩, q.d6, q.offs, q.lt1, q.lt2⟩
theorem turn_push {X1 X2 X3 X4 X5 X6 X7 : Addr × Obj} {o1 o3 o4 o5 : Obj} {v3 v4 v5 : Option Value} {dn sn ln cr x9 : Addr} {yc : List Value} {ld : Str} {tld t34 : Tok} {p : Nat} (hI : LInv w L pa ca D lst pcs nv 0 i c) (F : Fr h₀ L h' m')
    (N : News h₀ L h' ((dn, W.listOf (List.take ((p : Nat) : Int).toNat c.dv ++ [Value.ref cr]).toArray 0) :: X1 :: X2 :: (sn, W.listOf (List.take ((p : Nat) : Int).toNat c.sv ++ [Value.ref x9]).toArray 0) :: X3 :: X4 :: (ln, W.listOf (List.take ((p : Nat) : Int).toNat c.lv ++ [Value.str ld tld]).toArray 0) :: X5 :: X6 :: X7 :: (cr, LCg.lst yc) :: (I, it) ::
      ledOf L pa ca c.keep (c.pv ++ [Value.str (pth (List.take p (lastD c.ds) ++ [c.ds.length])) t34]) (c.pk + 1) (c.cv ++ [Value.ref cr]) (c.ck + 1) o1 c.o2 o3 o4 o5 c.o6))
    (d1 : o1.data = .cell (some (.ref dn))) (d3 : o3.data = .cell v3) (d4 : o4.data = .cell v4) (d5 : o5.data = .cell v5)
    (hle : p ≤ c.leads.length) (hpc : (p = (c.leads.map rowOf).length ∧ ∀ k < 9, gC (lastD (c.leads.map rowOf)) k < gC (rowOf ld) k) ∨ (c.leads.map rowOf)[p]? = some (rowOf ld))
    (hlw : i + 1 ≤ 7 → LeadB (i + 1 + 1) (i + 1) (cl ld)) (hl9 : LeadB 8 8 (cl ld)) (hll : ld.length ≤ 3 * i + 3) (hws : WsAt w c.keep x9 (scanOf ld).1 (scanOf ld).2.1 (scanOf ld).2.2.1 (scanOf ld).2.2.2) (hyc : IntsAre yc (rowOf ld))
    (fd : FreshA L pa ca I dn) (fs : FreshA L pa ca I sn) (fl : FreshA L pa ca I ln) (fc : FreshA L pa ca I cr)
    (i1 : @Ne Nat I (L + 1)) (i2 : @Ne Nat I (L + 1 + 1)) (i3 : @Ne Nat I (L + 1 + 1 + 1)) (i4 : @Ne Nat I (L + 1 + 1 + 1 + 1)) (i5 : @Ne Nat I (L + 1 + 1 + 1 + 1 + 1)) (i6 : @Ne Nat I (L + 1 + 1 + 1 + 1 + 1 + 1)) (ip : @Ne Nat I pa) (ic : @Ne Nat I ca) (hk : ∀ p ∈ c.keep, p.1 ≠ I)
    (e1 : m' (Str.ofString "leads") = some (.ref ln)) (e2 : m' (Str.ofString "stack") = some (.ref sn)) (e3 : m' (Str.ofString "pieces") = some (.ref D)) (e4 : m' (Str.ofString "paths") = some (.ref pa)) :
    UnrEnd h₀ L s₁ I it (JL1 w L pa ca D lst pcs nv 0 I (i + 1)) { s₁ with heap := h', toks := tk } := by
  have ep : ((p : Nat) : Int).toNat = p := by omega
  rw [ep] at N
  have q := hI
  let kp : List (Addr × Obj) := (dn, W.listOf (List.take p c.dv ++ [Value.ref cr]).toArray 0) :: (sn, W.listOf (List.take p c.sv ++ [Value.ref x9]).toArray 0) :: (ln, W.listOf (List.take p c.lv ++ [Value.str ld tld]).toArray 0) :: (cr, LCg.lst yc) :: c.keep
  have sub : ∀ p ∈ c.keep, p ∈ kp := fun p hp => List.mem_cons_of_mem _ (List.mem_cons_of_mem _ (List.mem_cons_of_mem _ (List.mem_cons_of_mem _ hp)))
  have hcr : (cr, LCg.lst yc) ∈ kp := List.mem_cons_of_mem _ (List.mem_cons_of_mem _ (List.mem_cons_of_mem _ (List.mem_cons_self ..)))
  refine turn_fin { c with keep := kp, pv := c.pv ++ [Value.str (pth (List.take p (lastD c.ds) ++ [c.ds.length])) t34], pk := c.pk + 1, cv := c.cv ++ [Value.ref cr], ck := c.ck + 1, o1 := o1, o3 := o3, o4 := o4, o5 := o5, la := ln, sa := sn, da := dn, lv := List.take p c.lv ++ [Value.str ld tld], sv := List.take p c.sv ++ [Value.ref x9], dv := List.take p c.dv ++ [Value.ref cr], lk := 0, sk := 0, dk := 0, leads := c.leads.take p ++ [ld], ds := c.ds ++ [List.take p (lastD c.ds) ++ [c.ds.length]], cols := c.cols ++ [rowOf ld] } F N ?_ ?_ (off_led i1 i2 i3 i4 i5 i6 ip ic ?_) e1 e2 e3 e4
  · dsimp only [LS.led, ledOf, kp]
    repeat' (first | with_reducible exact List.mem_cons_self .. | refine List.forall_mem_cons.mpr ⟨?_, ?_⟩ | refine List.mem_cons_of_mem _ ?_ | (intro p hp; repeat (first | exact hp | refine List.mem_cons_of_mem _ ?_)))
  · refine ⟨List.mem_cons_of_mem _ (List.mem_cons_of_mem _ (List.mem_cons_self ..)), List.mem_cons_of_mem _ (List.mem_cons_self ..), List.mem_cons_self .., sub _ q.hD, sub _ q.hn, (q.sl.take' p).append' (StrsAre.cons _ _ StrsAre.nil), ((q.ss.take p).mono sub).snoc (hws.mono sub), ?_, ?_, (q.sc.mono sub).snoc hcr hyc, ?_, ?_, ?_, ?_, ?_, ?_, d1, q.d2, ⟨_, d3⟩, ⟨_, d4⟩, ⟨_, d5⟩, q.d6, ?_, q.lt1, q.lt2⟩
    · dsimp only
      rw [List.map_append, List.map_take]
      exact ((q.sd.take p).mono sub).snoc hcr hyc
    · dsimp only
      rw [List.map_append]
      exact q.sp.append' (StrsAre.cons _ _ StrsAre.nil)
    · dsimp only
      rw [List.map_append, List.map_take]
      exact Run.step q.run (by rw [List.length_map]; exact hle) hpc
    · intro h l hl
      rcases List.mem_append.mp hl with hl | hl
      · exact lead_weak (q.lead (by omega) l (List.mem_of_mem_take hl)) (by omega) (by omega)
      · rw [List.mem_singleton.mp hl]; exact hlw h
    · intro l hl
      rcases List.mem_append.mp hl with hl | hl
      · exact q.leadL l (List.mem_of_mem_take hl)
      · rw [List.mem_singleton.mp hl]; exact hl9
    · have := q.len
      dsimp only
      rw [List.length_append, List.length_singleton]; omega
    · intro l hl
      rcases List.mem_append.mp hl with hl | hl
      · exact Nat.le_trans (q.ln l (List.mem_of_mem_take hl)) (by omega)
      · rw [List.mem_singleton.mp hl]; omega
    · intro r hr
      rcases List.mem_append.mp hr with hr | hr
      · exact q.c9 r hr
      · rw [List.mem_singleton.mp hr]; exact rowOf_len ld
    · exact (((q.offs.cons fc).cons fl).cons fs).cons fd
  · have n1 := fd.2.2.2.2.2.2.2.2
    have n2 := fs.2.2.2.2.2.2.2.2
    have n3 := fl.2.2.2.2.2.2.2.2
    have n4 := fc.2.2.2.2.2.2.2.2
    exact List.forall_mem_cons.mpr ⟨n1, List.forall_mem_cons.mpr ⟨n2, List.forall_mem_cons.mpr ⟨n3, List.forall_mem_cons.mpr ⟨n4, hk⟩⟩⟩⟩
end
theorem off_p36 : True := by
  w_top off
  trivial
theorem ups_bd {v l p : Nat} (h1 : v = l) (h8 : l ≤ 8) : ((v : Int) - p).toNat ≤ 8 :=
  Int.toNat_le.mpr (Int.le_trans (Int.sub_le_self _ (Int.natCast_nonneg p)) (Int.ofNat_le.mpr (h1 ▸ h8)))
theorem ups_back {v l p D : Nat} (h1 : v = l) (hp : p ≤ l) (h : l = D) : D - ((v : Int) - p).toNat = p := by
  subst h1 h
  rw [← Int.ofNat_sub hp, Int.toNat_natCast, Nat.sub_sub_self hp]
theorem sz3 {x y i : Nat} (hi : i ≤ 7) (h1 : x ≤ 3 * i) (h2 : y ≤ 3) : x + y ≤ sizeLine ∧ y + x ≤ sizeLine := by rw [sizeLine_eq]; omega
theorem sz27 {x i : Nat} (hi : i ≤ 7) (h : x ≤ 3 * i + 3) : x + (Str.ofString "x \t").length ≤ sizeLine := by rw [sizeLine_eq, show (Str.ofString "x \t").length = 3 by decide +kernel]; omega
theorem pth900 {x d : Nat} (h : x ≤ 2 * d + 1) (h9 : d ≤ 9) : x ≤ 900 := by omega
theorem ds_len {cols : List (List Int)} {ds : List (List Nat)} {lad : List (List Int)} (I : Inv cols ds lad) : ∀ j, j < ds.length → (ds.getD j []).length ≤ j + 1 := by
  intro j
  induction j using Nat.strongRecOn with
  | ind j ih =>
    intro hj
    rcases I.par j hj with ⟨e, _⟩ | ⟨i, hi, e, _⟩
    · rw [e]; simp
    · have := ih i hi (by omega)
      rw [e, List.length_append, List.length_singleton]; omega
theorem ds_mem_len {cols : List (List Int)} {ds : List (List Nat)} {lad : List (List Int)} (I : Inv cols ds lad) (h9 : ds.length ≤ 9) {j : Nat} {d : List Nat} (h : ds[j]? = some d) : d.length ≤ 9 := by
  have hj := (List.getElem?_eq_some_iff.mp h).1
  have := ds_len I j hj
  rw [List.getD_eq_getElem?_getD, h] at this
  have : d.length ≤ j + 1 := this
  omega
theorem getD_of {α : Type} {l : List α} {i : Nat} {d x : α} (h : l[i]? = some x) : l.getD i d = x := by
  rw [List.getD_eq_getElem?_getD, h]; rfl
def homeS (ds : List (List Nat)) : List Str := ds.map (fun d => dirS (pth d))
theorem home_at {ds : List (List Nat)} {j : Nat} (h : j < ds.length) : (homeS ds)[j]? = some (dirS (pth (ds.getD j []))) := by
  rw [homeS, List.getElem?_map, List.getElem?_eq_getElem h, List.getD_eq_getElem?_getD, List.getElem?_eq_getElem h]; rfl
theorem path_at {ds : List (List Nat)} {j : Nat} (h : j < ds.length) : (ds.map pth)[j]? = some (pth (ds.getD j [])) := by
  rw [List.getElem?_map, List.getElem?_eq_getElem h, List.getD_eq_getElem?_getD, List.getElem?_eq_getElem h]; rfl
/-- The columns' row of a line that lies. -/
theorem RowsAt.row {news : List (Addr × Obj)} {vs : List Value} {rs : List (List Int)} (h : RowsAt news vs rs) {i : Nat} (hi : i < rs.length) : ∃ a us k, vs[i]? = some (.ref a) ∧ (a, W.listOf us.toArray k) ∈ news ∧ IntsAre us (rs.getD i []) := by
  have hl := h.length
  obtain ⟨a, us, k, r, e, hr, hm, hi'⟩ := h.get (List.getElem?_eq_getElem (show i < vs.length by omega))
  refine ⟨a, us, k, ?_, hm, ?_⟩
  · rw [List.getElem?_eq_getElem (show i < vs.length by omega), e]
  · rw [getD_of hr]; exact hi'
theorem dir_len (x : Str) (hx : ∃ ds : List Nat, ds ≠ [] ∧ ds.length ≤ 9 ∧ x = pth ds) : (dirS x).length ≤ 900 := by
  obtain ⟨ds, h, h9, rfl⟩ := hx
  rw [dir_pth h]
  have := pth_len ds.dropLast
  rw [List.length_dropLast] at this
  omega
theorem i30 {n : Nat} (h : n ≤ 900) : (n : Int) < 2 ^ 30 := Int.lt_of_le_of_lt (Int.ofNat_le.mpr h) (by decide)
theorem max_len (n : Nat) : (n : Int) = max 0 ((n : Int) - 0) := by rw [Int.sub_zero, Int.max_eq_right (Int.natCast_nonneg n)]
theorem jr {i n : Nat} (h : i < n) (hn : n ≤ 900) : (0 : Int) ≤ (i : Int) + 1 ∧ (i : Int) + 1 < 2 ^ 30 ∧ ((n - (i + 1) : Nat) : Int) = max 0 ((n : Int) - ((i : Int) + 1)) :=
  ⟨Int.natCast_nonneg (i + 1), Int.lt_of_le_of_lt (Int.ofNat_le.mpr (Nat.le_trans h hn) : ((i + 1 : Nat) : Int) ≤ 900) (by decide), by
    rw [Int.ofNat_sub h]; exact (Int.max_eq_right (Int.sub_nonneg_of_le (Int.ofNat_le.mpr h))).symm⟩
theorem small_n {n : Nat} (h : n ≤ 900) : Builtin.Range.small 0 (n : Int) 1 = true := small_one (by decide) (by decide) (by omega) (by omega)
theorem idx_add {i n k : Nat} (h : k < n - (i + 1)) : i + 1 + k < n := by omega
theorem cast3 (a b : Nat) : (a : Int) + 1 + (b : Int) = ((a + 1 + b : Nat) : Int) := by omega
theorem lt_add1 (a b : Nat) : a < a + 1 + b := by omega
theorem off_p37 : True := by
  w_top off
  trivial
section
variable {σ : Type}
/-- Between two turns: the ledger is a state's, some names are known. -/
def JN (ps : List (Str × Value)) (Led : σ → List (Addr × Obj)) (P : Nat → σ → Prop) (i : Nat) (m : Str → Option Value) (nw : List (Addr × Obj)) : Prop := ∃ c, nw = Led c ∧ P i c ∧ ∀ p ∈ ps, m p.1 = some p.2
theorem kst_fr {h₀ : Heap} {L : Addr} {h : Heap} {m : Str → Option Value} {ps : List (Str × Value)} (F : Fr h₀ L h m) (hk : ∀ p ∈ ps, m p.1 = some p.2) : Fr h₀ L h (kstB m ps) :=
  fr_congr F fun _ => (kstB_eq hk fun _ => rfl).symm
theorem jn_fin {h₀ h' : Heap} {L : Addr} {s₁ : Shared} {tk : Nat} {I : Addr} {it : Obj} {ps : List (Str × Value)} {Led : σ → List (Addr × Obj)} {P : Nat → σ → Prop} {i : Nat} {m' : Str → Option Value} {all : List (Addr × Obj)} (F : Fr h₀ L h' m') (N : News h₀ L h' all) (c : σ) (hk : ∀ p ∈ ps, m' p.1 = some p.2) (sub : ∀ p ∈ (I, it) :: Led c, p ∈ all) (off : ∀ p ∈ Led c, p.1 ≠ I) (hp : P i c) :
    UnrEnd h₀ L s₁ I it (JN ps Led P i) { s₁ with heap := h', toks := tk } :=
  ⟨h', tk, m', Led c, rfl, F, cb_drop N sub, off, c, rfl, hp, hk⟩
theorem jn_turns {prog : Program} {w : World} {A : Around} {E : Value → Shared → Prop} {s : Shared} {env : Env} {h₀ : Heap} {x : Str} {px : Pos} {body : List Stmt} {Q : Flow → Shared → Prop} {L r : Addr} {a b : Int} {t u v : Tok} {m₀ : Str → Option Value} (ps : List (Str × Value)) (Led : σ → List (Addr × Obj)) (P : Nat → σ → Prop) (c₀ : σ) (n : Nat)
    (hL : env.locals = L) (hh : A.handled = none) (hr : IsRange s.heap r a b 1 t u v) (hlo : 0 ≤ a) (hhi : b < 2 ^ 30) (hblo : 0 ≤ b) (hlo2 : a < 2 ^ 30) (hn : (n : Int) = max 0 (b - a)) (F : Fr h₀ L s.heap m₀) (hk : ∀ p ∈ ps, m₀ p.1 = some p.2) (N : News h₀ L s.heap (Led c₀)) (hp : P 0 c₀)
    (turn : ∀ (I : Addr) i t c m (it : Obj) h tk, (∀ p ∈ Led c₀, @LT.lt Nat _ p.1 I) → i < n → P i c → Fr h₀ L h (kstB m ps) → News h₀ L h ((I, it) :: Led c) →
      wpAny (model prog w) A (assign (.Name x px) env (.int (a + (i : Int)) t)) (fun _ s₂ => wpAny (model prog w) A (execs body env) (UnrPost h₀ L { s with heap := h, toks := tk } I it (JN ps Led P (i + 1)) Q) E s₂) E { s with heap := h, toks := tk })
    (done : ∀ c m h tk, P n c → Fr h₀ L h (kstB m ps) → News h₀ L h (Led c) → Q .next { s with heap := h, toks := tk }) :
    wpAny (model prog w) A (pyIter (.ref r)) (fun it s₂ => TurnsAt prog w A h₀ env (.Name x px) body Q E it s₂) E s := by
  subst hL
  refine range_turns n (JN ps Led P) hh hr hlo hhi hblo hlo2 hn F N (fun _ _ => ⟨c₀, rfl, hp, hk⟩) (fun I i t m nw it h tk hI hi hj _ F' N' => ?_) (fun m nw h tk hj F' N' => ?_)
  · obtain ⟨c, rfl, hc, hm⟩ := hj
    exact turn I i t c m it h tk hI hi hc (kst_fr F' hm) N'
  · obtain ⟨c, rfl, hc, hm⟩ := hj
    exact done c m h tk hc (kst_fr F' hm) N'
end
/-- The two cells that the last loops write. -/
structure C2 where
  o5 : Obj
  o6 : Obj
  u5 : Option Value
  u6 : Option Value
abbrev ledC (L : Nat) (rest : List (Addr × Obj)) (c : C2) : List (Addr × Obj) := (L + 1 + 1 + 1 + 1 + 1 + 1, c.o6) :: (L + 1 + 1 + 1 + 1 + 1, c.o5) :: rest
def okC (c : C2) : Prop := c.o5.data = .cell c.u5 ∧ c.o6.data = .cell c.u6
theorem offC {L I : Nat} {rest : List (Addr × Obj)} {c c' : C2} (h : ∀ p ∈ ledC L rest c, @LT.lt Nat _ p.1 I) : ∀ p ∈ ledC L rest c', p.1 ≠ I := by
  simp only [ledC, List.forall_mem_cons] at h ⊢
  exact ⟨Nat.ne_of_lt h.1, Nat.ne_of_lt h.2.1, fun p hp => Nat.ne_of_lt (h.2.2 p hp)⟩
/-- The cells and the list of the lowest. -/
structure C3 where
  o5 : Obj
  o6 : Obj
  u5 : Option Value
  u6 : Option Value
  ls : List Value
  n : Nat
  zs : List Int
abbrev ledL (L lo : Nat) (rest : List (Addr × Obj)) (c : C3) : List (Addr × Obj) := (lo, W.listOf c.ls.toArray c.n) :: (L + 1 + 1 + 1 + 1 + 1 + 1, c.o6) :: (L + 1 + 1 + 1 + 1 + 1, c.o5) :: rest
def okL (c : C3) : Prop := c.o5.data = .cell c.u5 ∧ c.o6.data = .cell c.u6 ∧ IntsAre c.ls c.zs ∧ c.zs.length = 9
theorem offL {L lo I : Nat} {rest : List (Addr × Obj)} {c c' : C3} (h : ∀ p ∈ ledL L lo rest c, @LT.lt Nat _ p.1 I) : ∀ p ∈ ledL L lo rest c', p.1 ≠ I := by
  simp only [ledL, List.forall_mem_cons] at h ⊢
  exact ⟨Nat.ne_of_lt h.1, Nat.ne_of_lt h.2.1, Nat.ne_of_lt h.2.2.1, fun p hp => Nat.ne_of_lt (h.2.2.2 p hp)⟩
/-- The lowest behind line i, ahead of the turn of the line i + 1 + t. -/
def LowAt (cols : List (List Int)) (i t l k : Nat) : Prop := (t = 0 ∧ l = i + 1) ∨ (0 < t ∧ FLk cols i (i + t) l k)
theorem LowAt.le {cols : List (List Int)} {i t l k : Nat} (h : LowAt cols i t l k) : i < l ∧ l ≤ i + 1 + t := by
  rcases h with ⟨rfl, rfl⟩ | ⟨_, h⟩
  · omega
  · have h1 := h.1
    have h2 := h.2.1
    omega
theorem LowAt.step {cols : List (List Int)} {i t l k : Nat} (h : LowAt cols i t l k) : FLk cols i (i + 1 + t) (if gC (cols.getD (i + 1 + t) []) k < gC (cols.getD l []) k then i + 1 + t else l) k := by
  rcases h with ⟨rfl, rfl⟩ | ⟨_, h⟩
  · rw [Nat.add_zero, if_neg (Int.lt_irrefl _)]
    exact FLk.first cols i k
  · have := h.next
    rwa [show i + t + 1 = i + 1 + t by walk_at "zz"] at this
/-- The list of the lowest within the turn of line i + 1 + t, ahead of tab place k. -/
def LowsAt (cols : List (List Int)) (i t k : Nat) (zs : List Int) : Prop := ∀ k' < 9, ∃ l : Nat, zs.getD k' 0 = l ∧ if k' < k then FLk cols i (i + 1 + t) l k' else LowAt cols i t l k'
theorem LowsAt.done {cols : List (List Int)} {i t : Nat} {zs : List Int} (h : LowsAt cols i t 9 zs) : LowsAt cols i (t + 1) 0 zs := by
  intro k hk
  obtain ⟨l, e, q⟩ := h k hk
  rw [if_pos hk] at q
  refine ⟨l, e, ?_⟩
  rw [if_neg (Nat.not_lt_zero _)]
  refine .inr ⟨by walk_at "zz", ?_⟩
  rwa [show i + (t + 1) = i + 1 + t by walk_at "zz"]
theorem LowsAt.keep {cols : List (List Int)} {i t k : Nat} {zs : List Int} (h : LowsAt cols i t k zs) {l : Nat} (hl : zs.getD k 0 = l) (hf : FLk cols i (i + 1 + t) l k) : LowsAt cols i t (k + 1) zs := by
  intro k' hk'
  obtain ⟨l', e, q⟩ := h k' hk'
  rcases Nat.lt_trichotomy k' k with h1 | h1 | h1
  · refine ⟨l', e, ?_⟩
    rw [if_pos h1] at q
    rw [if_pos (by walk_at "zz")]; exact q
  · subst h1
    refine ⟨l, hl, ?_⟩
    rw [if_pos (by walk_at "zz")]; exact hf
  · refine ⟨l', e, ?_⟩
    rw [if_neg (by walk_at "zz")] at q ⊢
    exact q
theorem LowsAt.put {cols : List (List Int)} {i t k : Nat} {zs : List Int} (h : LowsAt cols i t k zs) (h9 : zs.length = 9) (hk : k < 9) {l : Nat} (hf : FLk cols i (i + 1 + t) l k) : LowsAt cols i t (k + 1) (zs.set k (l : Int)) := by
  intro k' hk'
  obtain ⟨l', e, q⟩ := h k' hk'
  rcases Nat.lt_trichotomy k' k with h1 | h1 | h1
  · refine ⟨l', ?_, ?_⟩
    · rw [getD_set _ _ _ _ (by walk_at "zz"), if_neg (by walk_at "zz")]; exact e
    · rw [if_pos h1] at q
      rw [if_pos (by walk_at "zz")]; exact q
  · subst h1
    refine ⟨l, ?_, ?_⟩
    · rw [getD_set _ _ _ _ (by walk_at "zz"), if_pos rfl]
    · rw [if_pos (by walk_at "zz")]; exact hf
  · refine ⟨l', ?_, ?_⟩
    · rw [getD_set _ _ _ _ (by walk_at "zz"), if_neg (by walk_at "zz")]; exact e
    · rw [if_neg (by walk_at "zz")] at q ⊢
      exact q
theorem rep9 {x : Int} : ∀ k, k < 9 → (List.replicate (Int.toNat 9) [x]).flatten.getD k 0 = x := by
  intro k hk
  have := lt9 hk
  rcases this with rfl | rfl | rfl | rfl | rfl | rfl | rfl | rfl | rfl <;> rfl
theorem low_start (cols : List (List Int)) (i : Nat) : LowsAt cols i 0 0 (List.replicate (Int.toNat 9) [((i : Nat) : Int) + 1]).flatten := by
  intro k hk
  refine ⟨i + 1, ?_, ?_⟩
  · rw [rep9 k hk]; omega
  · rw [if_neg (Nat.not_lt_zero _)]
    exact .inl ⟨rfl, rfl⟩
theorem regroup2 {h₀ : Heap} {L L' : Addr} {h : Heap} {ho ca pa : Nat} {oh oc op c1 c2 c3 c4 c5 c6 : Obj} {keep : List (Addr × Obj)} (N : News h₀ L' h ((ho, oh) :: (ca, oc) :: (pa, op) :: (L + 1 + 1 + 1 + 1 + 1 + 1, c6) :: (L + 1 + 1 + 1 + 1 + 1, c5) :: (L + 1 + 1 + 1 + 1, c4) :: (L + 1 + 1 + 1, c3) :: (L + 1 + 1, c2) :: (L + 1, c1) :: keep))
    (q5 : ∀ p ∈ keep, p.1 ≠ L + 1 + 1 + 1 + 1 + 1) (q6 : ∀ p ∈ keep, p.1 ≠ L + 1 + 1 + 1 + 1 + 1 + 1) (h5 : @Ne Nat ho (L + 1 + 1 + 1 + 1 + 1)) (h6 : @Ne Nat ho (L + 1 + 1 + 1 + 1 + 1 + 1)) (lt1 : @LT.lt Nat _ (L + 1 + 1 + 1 + 1 + 1 + 1) pa) (lt2 : @LT.lt Nat _ pa ca) :
    ∃ rest : List (Addr × Obj), (∀ p ∈ keep, p ∈ rest) ∧ (ho, oh) ∈ rest ∧ (ca, oc) ∈ rest ∧ (pa, op) ∈ rest ∧ (L + 1 + 1, c2) ∈ rest ∧ (∀ p ∈ rest, p.1 ≠ L + 1 + 1 + 1 + 1 + 1) ∧ (∀ p ∈ rest, p.1 ≠ L + 1 + 1 + 1 + 1 + 1 + 1) ∧ News h₀ L' h ((L + 1 + 1 + 1 + 1 + 1 + 1, c6) :: (L + 1 + 1 + 1 + 1 + 1, c5) :: rest) := by
  refine ⟨(ho, oh) :: (ca, oc) :: (pa, op) :: (L + 1 + 1 + 1 + 1, c4) :: (L + 1 + 1 + 1, c3) :: (L + 1 + 1, c2) :: (L + 1, c1) :: keep, ?_, ?_, ?_, ?_, ?_, ?_, ?_, cb_drop N fun p hp => ?_⟩
  · intro p hp
    iterate 7 refine List.mem_cons_of_mem _ ?_
    exact hp
  · exact List.mem_cons_self ..
  · exact List.mem_cons_of_mem _ (List.mem_cons_self ..)
  · exact List.mem_cons_of_mem _ (List.mem_cons_of_mem _ (List.mem_cons_self ..))
  · iterate 5 refine List.mem_cons_of_mem _ ?_
    exact List.mem_cons_self ..
  · have a5 := Nat.lt_of_succ_lt lt1
    have n4 := Nat.ne_of_lt (Nat.lt_succ_self (L + 1 + 1 + 1 + 1))
    refine List.forall_mem_cons.mpr ⟨h5, List.forall_mem_cons.mpr ⟨Nat.ne_of_gt (Nat.lt_trans a5 lt2), List.forall_mem_cons.mpr ⟨Nat.ne_of_gt a5, List.forall_mem_cons.mpr ⟨n4, List.forall_mem_cons.mpr ⟨Nat.ne_of_lt (Nat.lt_add_of_pos_right (n := L + 1 + 1 + 1) (k := 2) (by decide)), List.forall_mem_cons.mpr ⟨Nat.ne_of_lt (Nat.lt_add_of_pos_right (n := L + 1 + 1) (k := 3) (by decide)), List.forall_mem_cons.mpr ⟨Nat.ne_of_lt (Nat.lt_add_of_pos_right (n := L + 1) (k := 4) (by decide)), q5⟩⟩⟩⟩⟩⟩⟩
  · refine List.forall_mem_cons.mpr ⟨h6, List.forall_mem_cons.mpr ⟨Nat.ne_of_gt (Nat.lt_trans lt1 lt2), List.forall_mem_cons.mpr ⟨Nat.ne_of_gt lt1, List.forall_mem_cons.mpr ⟨Nat.ne_of_lt (Nat.lt_add_of_pos_right (n := L + 1 + 1 + 1 + 1) (k := 2) (by decide)), List.forall_mem_cons.mpr ⟨Nat.ne_of_lt (Nat.lt_add_of_pos_right (n := L + 1 + 1 + 1) (k := 3) (by decide)), List.forall_mem_cons.mpr ⟨Nat.ne_of_lt (Nat.lt_add_of_pos_right (n := L + 1 + 1) (k := 4) (by decide)), List.forall_mem_cons.mpr ⟨Nat.ne_of_lt (Nat.lt_add_of_pos_right (n := L + 1) (k := 5) (by decide)), q6⟩⟩⟩⟩⟩⟩⟩
  · exact mem_mid [(L + 1 + 1 + 1 + 1 + 1 + 1, c6), (L + 1 + 1 + 1 + 1 + 1, c5)] [(ho, oh), (ca, oc), (pa, op)] _ p hp
section
variable {prog : Program} {w : World} {A : Around} {E : Value → Shared → Prop} {s : Shared} {env : Env} {h₀ : Heap} {x : Str} {px : Pos} {body : List Stmt} {Q : Flow → Shared → Prop} {L r : Addr} {a b : Int} {t u v : Tok} {m₀ : Str → Option Value} {σ : Type} {n1 n2 n3 n4 n5 : Str} {v1 v2 v3 v4 v5 : Value}
theorem jn2 (Led : σ → List (Addr × Obj)) (P : Nat → σ → Prop) (c₀ : σ) (n : Nat)
    (hL : env.locals = L) (hh : A.handled = none) (hr : IsRange s.heap r a b 1 t u v) (hlo : 0 ≤ a) (hhi : b < 2 ^ 30) (hblo : 0 ≤ b) (hlo2 : a < 2 ^ 30) (hn : (n : Int) = max 0 (b - a)) (F : Fr h₀ L s.heap (fun z => if z = n1 then some v1 else if z = n2 then some v2 else m₀ z))
    (hk : n2 ≠ n1) (N : News h₀ L s.heap (Led c₀)) (hp : P 0 c₀)
    (turn : ∀ (I : Addr) i t c (m : Str → Option Value) (it : Obj) h tk, (∀ p ∈ Led c₀, @LT.lt Nat _ p.1 I) → i < n → P i c → Fr h₀ L h (fun z => if z = n1 then some v1 else if z = n2 then some v2 else m z) → News h₀ L h ((I, it) :: Led c) →
      wpAny (model prog w) A (assign (.Name x px) env (.int (a + (i : Int)) t)) (fun _ s₂ => wpAny (model prog w) A (execs body env) (UnrPost h₀ L { s with heap := h, toks := tk } I it (JN [(n1, v1), (n2, v2)] Led P (i + 1)) Q) E s₂) E { s with heap := h, toks := tk })
    (done : ∀ c (m : Str → Option Value) h tk, P n c → Fr h₀ L h (fun z => if z = n1 then some v1 else if z = n2 then some v2 else m z) → News h₀ L h (Led c) → Q .next { s with heap := h, toks := tk }) :
    wpAny (model prog w) A (pyIter (.ref r)) (fun it s₂ => TurnsAt prog w A h₀ env (.Name x px) body Q E it s₂) E s :=
  jn_turns [(n1, v1), (n2, v2)] Led P c₀ n hL hh hr hlo hhi hblo hlo2 hn F (all2 (if_pos rfl) ((if_neg hk).trans (if_pos rfl))) N hp (fun I i t c m it h tk hI hi hc F' N' => turn I i t c m it h tk hI hi hc F' N') (fun c m h tk hc F' N' => done c m h tk hc F' N')
theorem jn4 (Led : σ → List (Addr × Obj)) (P : Nat → σ → Prop) (c₀ : σ) (n : Nat)
    (hL : env.locals = L) (hh : A.handled = none) (hr : IsRange s.heap r a b 1 t u v) (hlo : 0 ≤ a) (hhi : b < 2 ^ 30) (hblo : 0 ≤ b) (hlo2 : a < 2 ^ 30) (hn : (n : Int) = max 0 (b - a)) (F : Fr h₀ L s.heap (fun z => if z = n1 then some v1 else if z = n2 then some v2 else if z = n3 then some v3 else if z = n4 then some v4 else m₀ z))
    (hk2 : n2 ≠ n1) (hk3 : n3 ≠ n1 ∧ n3 ≠ n2) (hk4 : n4 ≠ n1 ∧ n4 ≠ n2 ∧ n4 ≠ n3) (N : News h₀ L s.heap (Led c₀)) (hp : P 0 c₀)
    (turn : ∀ (I : Addr) i t c (m : Str → Option Value) (it : Obj) h tk, (∀ p ∈ Led c₀, @LT.lt Nat _ p.1 I) → i < n → P i c → Fr h₀ L h (fun z => if z = n1 then some v1 else if z = n2 then some v2 else if z = n3 then some v3 else if z = n4 then some v4 else m z) → News h₀ L h ((I, it) :: Led c) →
      wpAny (model prog w) A (assign (.Name x px) env (.int (a + (i : Int)) t)) (fun _ s₂ => wpAny (model prog w) A (execs body env) (UnrPost h₀ L { s with heap := h, toks := tk } I it (JN [(n1, v1), (n2, v2), (n3, v3), (n4, v4)] Led P (i + 1)) Q) E s₂) E { s with heap := h, toks := tk })
    (done : ∀ c (m : Str → Option Value) h tk, P n c → Fr h₀ L h (fun z => if z = n1 then some v1 else if z = n2 then some v2 else if z = n3 then some v3 else if z = n4 then some v4 else m z) → News h₀ L h (Led c) → Q .next { s with heap := h, toks := tk }) :
    wpAny (model prog w) A (pyIter (.ref r)) (fun it s₂ => TurnsAt prog w A h₀ env (.Name x px) body Q E it s₂) E s :=
  jn_turns [(n1, v1), (n2, v2), (n3, v3), (n4, v4)] Led P c₀ n hL hh hr hlo hhi hblo hlo2 hn F (all4 (if_pos rfl) ((if_neg hk2).trans (if_pos rfl)) ((if_neg hk3.1).trans ((if_neg hk3.2).trans (if_pos rfl))) ((if_neg hk4.1).trans ((if_neg hk4.2.1).trans ((if_neg hk4.2.2).trans (if_pos rfl))))) N hp (fun I i t c m it h tk hI hi hc F' N' => turn I i t c m it h tk hI hi hc F' N') (fun c m h tk hc F' N' => done c m h tk hc F' N')
theorem all5 {α : Type} {P : α → Prop} {a b c d e : α} (h : P a) (h' : P b) (h'' : P c) (h3 : P d) (h4 : P e) : ∀ p ∈ [a, b, c, d, e], P p := List.forall_mem_cons.mpr ⟨h, all4 h' h'' h3 h4⟩
theorem jn5 (Led : σ → List (Addr × Obj)) (P : Nat → σ → Prop) (c₀ : σ) (n : Nat)
    (hL : env.locals = L) (hh : A.handled = none) (hr : IsRange s.heap r a b 1 t u v) (hlo : 0 ≤ a) (hhi : b < 2 ^ 30) (hblo : 0 ≤ b) (hlo2 : a < 2 ^ 30) (hn : (n : Int) = max 0 (b - a)) (F : Fr h₀ L s.heap (fun z => if z = n1 then some v1 else if z = n2 then some v2 else if z = n3 then some v3 else if z = n4 then some v4 else if z = n5 then some v5 else m₀ z))
    (hk2 : n2 ≠ n1) (hk3 : n3 ≠ n1 ∧ n3 ≠ n2) (hk4 : n4 ≠ n1 ∧ n4 ≠ n2 ∧ n4 ≠ n3) (hk5 : n5 ≠ n1 ∧ n5 ≠ n2 ∧ n5 ≠ n3 ∧ n5 ≠ n4) (N : News h₀ L s.heap (Led c₀)) (hp : P 0 c₀)
    (turn : ∀ (I : Addr) i t c (m : Str → Option Value) (it : Obj) h tk, (∀ p ∈ Led c₀, @LT.lt Nat _ p.1 I) → i < n → P i c → Fr h₀ L h (fun z => if z = n1 then some v1 else if z = n2 then some v2 else if z = n3 then some v3 else if z = n4 then some v4 else if z = n5 then some v5 else m z) → News h₀ L h ((I, it) :: Led c) →
      wpAny (model prog w) A (assign (.Name x px) env (.int (a + (i : Int)) t)) (fun _ s₂ => wpAny (model prog w) A (execs body env) (UnrPost h₀ L { s with heap := h, toks := tk } I it (JN [(n1, v1), (n2, v2), (n3, v3), (n4, v4), (n5, v5)] Led P (i + 1)) Q) E s₂) E { s with heap := h, toks := tk })
    (done : ∀ c (m : Str → Option Value) h tk, P n c → Fr h₀ L h (fun z => if z = n1 then some v1 else if z = n2 then some v2 else if z = n3 then some v3 else if z = n4 then some v4 else if z = n5 then some v5 else m z) → News h₀ L h (Led c) → Q .next { s with heap := h, toks := tk }) :
    wpAny (model prog w) A (pyIter (.ref r)) (fun it s₂ => TurnsAt prog w A h₀ env (.Name x px) body Q E it s₂) E s :=
  jn_turns [(n1, v1), (n2, v2), (n3, v3), (n4, v4), (n5, v5)] Led P c₀ n hL hh hr hlo hhi hblo hlo2 hn F (all5 (if_pos rfl) ((if_neg hk2).trans (if_pos rfl)) ((if_neg hk3.1).trans ((if_neg hk3.2).trans (if_pos rfl))) ((if_neg hk4.1).trans ((if_neg hk4.2.1).trans ((if_neg hk4.2.2).trans (if_pos rfl)))) ((if_neg hk5.1).trans ((if_neg hk5.2.1).trans ((if_neg hk5.2.2.1).trans ((if_neg hk5.2.2.2).trans (if_pos rfl)))))) N hp (fun I i t c m it h tk hI hi hc F' N' => turn I i t c m it h tk hI hi hc F' N') (fun c m h tk hc F' N' => done c m h tk hc F' N')
end
theorem ints_last {vs : List Value} {ns : List Int} (h : IntsAre vs ns) {n : Int} (hn : ns.getLast? = some n) : ∃ t, vs.getLast? = some (.int n t) := by
  have hl := h.length
  rw [List.getLast?_eq_getElem?] at hn
  obtain ⟨t, e⟩ := h.get (ns.length - 1) n hn
  exact ⟨t, by rw [List.getLast?_eq_getElem?, hl]; exact e⟩
theorem nm_hl : (Str.ofString "homes" = Str.ofString "lower") = False := eq_false (by decide +kernel)
theorem nm_pl : (Str.ofString "paths" = Str.ofString "lower") = False := eq_false (by decide +kernel)
theorem nm_ph : (Str.ofString "paths" = Str.ofString "homes") = False := eq_false (by decide +kernel)
theorem common_d (w : World) (news : List (Addr × Obj)) (l : Addr) (a b : List Nat) (t u : Tok) (k : Nat) (hl : (l, W.listOf #[.str (pth a) t, .str (pth b) u] k) ∈ news) (ha : a ≠ []) (hb : b ≠ []) (la : a.length ≤ 9) (lb : b.length ≤ 9) :
    Ctr w 141 news [.ref l] 30 (fun v tl => tl = [] ∧ ∃ t', v = .str (comS (pth a) (pth b)) t') := by
  have h1 := pth_len a
  have h2 := pth_len b
  exact common_c w news l (pth a) (pth b) t u k hl (by walk_at "zz") (by walk_at "zz") (pth_starts ha) (pth_starts hb) (by rw [pth_split_len ha]; omega) (by rw [pth_split_len hb]; omega) (pth_split_one ha) (pth_split_one hb)
theorem ints_at {vs : List Value} {ns : List Int} (h : IntsAre vs ns) {k : Nat} {n : Int} (hk : k < ns.length) (e : ns.getD k 0 = n) : ∃ t, vs[k]? = some (.int n t) :=
  h.get k n (by rw [← e, List.getD_eq_getElem?_getD, List.getElem?_eq_getElem hk]; rfl)
theorem ds_getD_len {cols : List (List Int)} {ds : List (List Nat)} {lad : List (List Int)} (I : Inv cols ds lad) (h9 : ds.length ≤ 9) {j : Nat} (hj : j < ds.length) : (ds.getD j []).length ≤ 9 := by
  have := ds_len I j hj
  omega
theorem nm_hw : (Str.ofString "homes" = Str.ofString "lowest") = False := eq_false (by decide +kernel)
theorem nm_hi : (Str.ofString "homes" = Str.ofString "i") = False := eq_false (by decide +kernel)
theorem nm_hc : (Str.ofString "homes" = Str.ofString "common") = False := eq_false (by decide +kernel)
theorem nm_pw : (Str.ofString "paths" = Str.ofString "lowest") = False := eq_false (by decide +kernel)
theorem nm_pi : (Str.ofString "paths" = Str.ofString "i") = False := eq_false (by decide +kernel)
theorem nm_pc : (Str.ofString "paths" = Str.ofString "common") = False := eq_false (by decide +kernel)
theorem nm_wc : (Str.ofString "lowest" = Str.ofString "common") = False := eq_false (by decide +kernel)
theorem nm_ic : (Str.ofString "i" = Str.ofString "common") = False := eq_false (by decide +kernel)
theorem nm_iw : (Str.ofString "i" = Str.ofString "lowest") = False := eq_false (by decide +kernel)
theorem off5 {I a1 a2 a3 a4 a5 : Addr} {o1 o2 o3 o4 o5 q1 q2 q3 q4 q5 : Obj} {rest : List (Addr × Obj)} (h : ∀ p ∈ (a1, o1) :: (a2, o2) :: (a3, o3) :: (a4, o4) :: (a5, o5) :: rest, @LT.lt Nat _ p.1 I) : ∀ p ∈ (a1, q1) :: (a2, q2) :: (a3, q3) :: (a4, q4) :: (a5, q5) :: rest, p.1 ≠ I := by
  simp only [List.forall_mem_cons] at h ⊢
  exact ⟨Nat.ne_of_lt h.1, Nat.ne_of_lt h.2.1, Nat.ne_of_lt h.2.2.1, Nat.ne_of_lt h.2.2.2.1, Nat.ne_of_lt h.2.2.2.2.1, fun p hp => Nat.ne_of_lt (h.2.2.2.2.2 p hp)⟩
theorem off4 {I a1 a2 a3 a4 : Addr} {o1 o2 o3 o4 q1 q2 q3 q4 : Obj} {rest : List (Addr × Obj)} (h : ∀ p ∈ (a1, o1) :: (a2, o2) :: (a3, o3) :: (a4, o4) :: rest, @LT.lt Nat _ p.1 I) : ∀ p ∈ (a1, q1) :: (a2, q2) :: (a3, q3) :: (a4, q4) :: rest, p.1 ≠ I := by
  simp only [List.forall_mem_cons] at h ⊢
  exact ⟨Nat.ne_of_lt h.1, Nat.ne_of_lt h.2.1, Nat.ne_of_lt h.2.2.1, Nat.ne_of_lt h.2.2.2.1, fun p hp => Nat.ne_of_lt (h.2.2.2.2 p hp)⟩
theorem off_p30 : True := by
  w_top off
  trivial
theorem mem_swap {α : Type} (a b : List α) : ∀ p ∈ a ++ b, p ∈ b ++ a := fun p hp => by
  rcases List.mem_append.mp hp with h | h
  · exact List.mem_append_right _ h
  · exact List.mem_append_left _ h
theorem off_of {old tl : List (Addr × Obj)} (h : ∀ q ∈ old, ∀ p ∈ tl, q.1 < p.1) {a : Addr} (ha : ∃ o, (a, o) ∈ old) : ∀ p ∈ tl, p.1 ≠ a := fun p hp e => by
  obtain ⟨o, ho⟩ := ha
  have := h _ ho p hp
  rw [e] at this
  exact Nat.lt_irrefl _ this
theorem ne6c {L x : Nat} (h : L + 1 + 1 + 1 + 1 + 1 + 1 < x) : x ≠ L + 1 + 1 + 1 + 1 + 1 + 1 := by omega
theorem ne5c {L x : Nat} (h : L + 1 + 1 + 1 + 1 + 1 + 1 < x) : x ≠ L + 1 + 1 + 1 + 1 + 1 := by omega
theorem ne4c {L x : Nat} (h : L + 1 + 1 + 1 + 1 + 1 + 1 < x) : x ≠ L + 1 + 1 + 1 + 1 := by omega
theorem ne3c {L x : Nat} (h : L + 1 + 1 + 1 + 1 + 1 + 1 < x) : x ≠ L + 1 + 1 + 1 := by omega
theorem ne2c {L x : Nat} (h : L + 1 + 1 + 1 + 1 + 1 + 1 < x) : x ≠ L + 1 + 1 := by omega
theorem ne1c {L x : Nat} (h : L + 1 + 1 + 1 + 1 + 1 + 1 < x) : x ≠ L + 1 := by omega
theorem lt6c {L : Nat} {d : Addr} {o : Obj} {l : List (Addr × Obj)} (h : ∀ p ∈ l, p.1 < d) (hc : (L + 1 + 1 + 1 + 1 + 1 + 1, o) ∈ l) : @LT.lt Nat _ (L + 1 + 1 + 1 + 1 + 1 + 1) d ∧ AllLt d l := ⟨h _ hc, allLt_of h⟩
section
set_option hygiene false in
local macro_rules | `(tactic| k_lt $h) => `(tactic| (k_dflt (replace $h := Mine.lt6c (L := LL) $h (by k_mem)); simp only [AllLt, and_true] at $h:ident))
local macro_rules
  | `(tactic| walk_at "zs") => `(tactic| first | apply Nat.lt_succ_self | apply Nat.lt_succ_of_lt; walk_at "zs")
  | `(tactic| walk_at "zn") => `(tactic| first | assumption | apply Nat.ne_of_lt; walk_at "zs" | apply Nat.ne_of_gt; walk_at "zs" | apply And.left; (iterate 5 apply And.right); assumption | (first | apply Mine.ne6c | apply Mine.ne5c | apply Mine.ne4c | apply Mine.ne3c | apply Mine.ne2c | apply Mine.ne1c); first | assumption | (apply And.left; assumption) | (apply Nat.lt_trans <;> assumption))
local macro_rules | `(tactic| k_ne) => `(tactic| with_reducible first | walk_at "zn" | apply Ne.symm; walk_at "zn")
local macro_rules
  | `(tactic| walk_at "subscriptTail Name BinOp ref int") => `(tactic| walk_at "zh")
  | `(tactic| walk_at "subscriptTail Name UnaryOp ref int") => `(tactic| walk_at "zh")
  | `(tactic| walk_at "exec For Name Call cons nil") => `(tactic| walk_at "zh")
  | `(tactic| walk_at "exec Assign cons ListComp") => `(tactic| walk_at "zh")
  | `(tactic| walk_at "call ref") => `(tactic| walk_at "zh")
  | `(tactic| walk_at "subscriptTail Name Name ref int") => `(tactic| walk_at "zh")
  | `(tactic| walk_at "subscriptTail Name Subscript ref int") => `(tactic| walk_at "zh")
  | `(tactic| walk_at "subscriptTail Subscript Name ref int") => `(tactic| walk_at "zh")
  | `(tactic| walk_at "CompSrcT") => `(tactic| walk_at "zh")
  | `(tactic| walk_at "exec For Name BinOp cons nil") => `(tactic| walk_at "zh")
local macro_rules | `(tactic| walk_at "eval IfExp") => `(tactic| walk_at "zf")
local macro_rules | `(tactic| walk_at "exec If") => `(tactic| (fail_if_success (have q9 : Mine.GoI := by assumption)); refine Mine.Hold.of ?_)
local macro_rules | `(tactic| walk_at "binaryOp Add ref ref") => `(tactic| ((have q9 : Mine.GoI := by assumption); clear q9; k_here; k_dflt (apply Mine.add_lst; k_asm; k_asm; k_mem; k_mem; apply Mine.tk_le; assumption); intro D' h' F' N' l1; (try k_lt l1); try k_sweep))
theorem law_walk : Challenge.rw_pd0112_01.Holds := hd (by
  k_fill
  intro w s₀ s₁ mg mb G Y fa o pm cd doc dV kV ho hd9 hcd hD hmg hg args vals as hpre hlay hrd hwl hlo
  have KX := kIn_of Y
  refine Ground.open G ?_
  clear G Y
  intro T B D TE TW
  clear D B TE TW
  obtain ⟨_, _, he, B0⟩ := based_of_top T rfl hmg ho hd9
  have he' : cd = _ := he
  subst he'
  clear he hmg
  wrow_args hpre hlay hrd hwl hlo
  first | refine enter_call ?_ | refine enter_callW ?_
  w_top off
  try refine codeAny_mono ?_ (fun _ _ g => GoodW.toG g)
  have K0 := below_caller (Top.heap T)
  w_call any ho hd9 hcd hD T F1
  clear hd9
  k_drop
  all_goals try k_fold
  rename_i w5 w4 w3 w2 w1 w0 d5 d4 d3 d2 d1 d0 N1 X1
  clear X1
  replace d0 : _ = Data.cell none := d0
  replace d1 : _ = Data.cell none := d1
  replace d2 : _ = Data.cell none := d2
  replace d3 : _ = Data.cell none := d3
  replace d4 : _ = Data.cell none := d4
  replace d5 : _ = Data.cell none := d5
  rename Heap.CodeRec _ _ _ => hcd9
  rename Dflts _ _ _ _ _ _ => hD9
  clear hcd9 hD9
  obtain ⟨m0, F2⟩ := fr_split (x := Str.ofString "script") F1 rfl
  clear F1
  rename Shared => s1
  obtain ⟨sh, sg, sd, sk, so⟩ := s1
  rename Below _ _ _ _ => K0
  rename Top _ _ _ _ _ _ => T0
  rename (Shared.gens _ = #[]) => hgn
  dsimp only at K0 T0 hgn N1 F2
  obtain ⟨LL, hLL⟩ : ∃ n : Nat, sh.objs.size = n := ⟨_, rfl⟩
  rw [hLL] at F2 N1 ⊢
  refine letAE ?_
  intro e9 A9
  k_steps
  refine Hold.mk ?_
  rename Fr _ _ _ _ => F3
  rename News _ _ _ _ => N3
  rename (hd.heap_39 _).In _ => X0
  refine Ctr.use (ws_c _ _ _ _ (by decide +kernel)) K0 F3 X0 N3 T0 rfl (by ktr_room) (by ktr_units) ?_
  rintro v tl h4 tk4 F4 N4 l4 ⟨x4, ns4, b4, n4, nt4, rfl, hs4, hw4⟩
  have e4 : scanF (Str.ofString "").cps.toList ([], 0, 0, 0) = ([], 0, 0, 0) := by decide +kernel
  rw [e4] at hs4
  obtain ⟨rfl, rfl, rfl, rfl⟩ : ns4 = [] ∧ b4 = 0 ∧ n4 = 0 ∧ nt4 = 0 := by
    simp only [Prod.mk.injEq] at hs4
    exact ⟨hs4.1.symm, hs4.2.1.symm, hs4.2.2.1.symm, hs4.2.2.2.symm⟩
  clear hs4 e4
  have N5 := cb_drop N4 (mem_swap _ tl)
  clear N4
  simp only [List.cons_append, List.nil_append] at N5
  have o6 := off_of l4 (a := LL + 1 + 1 + 1 + 1 + 1 + 1) ⟨w5, by simp⟩
  have o5 := off_of l4 (a := LL + 1 + 1 + 1 + 1 + 1) ⟨w4, by simp⟩
  have o4 := off_of l4 (a := LL + 1 + 1 + 1 + 1) ⟨w3, by simp⟩
  have o3 := off_of l4 (a := LL + 1 + 1 + 1) ⟨w2, by simp⟩
  have o2 := off_of l4 (a := LL + 1 + 1) ⟨w1, by simp⟩
  have o1 := off_of l4 (a := LL + 1) ⟨w0, by simp⟩
  clear l4
  k_steps
  rename Fr _ _ _ _ => F6
  refine Hold.mk (neverE ?_)
  k_dflt (refine For_invVF F6 (by rfl) (by rfl) ?_)
  k_steps
  refine Hold.mk ?_
  rename (_ ∧ _ ∧ _ ∧ _ ∧ _ ∧ _ ∧ _ ∧ _ ∧ _ ∧ _ ∧ _ ∧ _ ∧ _ ∧ AllLt _ _) => qp
  rename (_ ∧ _ ∧ _ ∧ _ ∧ _ ∧ _ ∧ _ ∧ _ ∧ _ ∧ _ ∧ _ ∧ _ ∧ _ ∧ _ ∧ _ ∧ _ ∧ AllLt _ _) => qc
  have hp9 := allLt_mem qp.2.2.2.2.2.2.2.2.2.2.2.2.2
  have hc9 := allLt_mem qc.2.2.2.2.2.2.2.2.2.2.2.2.2.2.2.2
  refine law_loop (L := LL) rfl rfl (by assumption) (by assumption) (by assumption) (by assumption) (by assumption) (by assumption) (by assumption) (by assumption) (by assumption) (by assumption) (by assumption) ⟨o1, o2, o3, o4, o5, o6, fun p hp => Nat.ne_of_lt (hp9 p hp), fun p hp => Nat.ne_of_lt (hc9 p hp)⟩ (by omega) (by omega) (by omega) (by omega) (by omega) (by omega) (by omega) (by omega) (by omega) ?_ ?_
  · clear_value qk ek
    rename Fr _ _ _ _ => F7
    rename News _ _ _ _ => N7
    clear F7 N7
    rename IntsAre _ (List.take 7 _ ++ [2]) => hIs
    try (rename (_ ∧ _ ∧ _ ∧ _ ∧ _ ∧ _ ∧ AllLt _ _) => qz; clear qz)
    try (rename (_ ∧ _ ∧ _ ∧ _ ∧ _ ∧ _ ∧ _ ∧ AllLt _ _) => qz; clear qz)
    try (rename (_ ∧ _ ∧ _ ∧ _ ∧ _ ∧ _ ∧ _ ∧ _ ∧ AllLt _ _) => qz; clear qz)
    try (rename (_ ∧ _ ∧ _ ∧ _ ∧ _ ∧ _ ∧ _ ∧ _ ∧ _ ∧ AllLt _ _) => qz; clear qz)
    try (rename (_ ∧ _ ∧ _ ∧ _ ∧ _ ∧ _ ∧ _ ∧ _ ∧ _ ∧ _ ∧ AllLt _ _) => qz; clear qz)
    try (rename (_ ∧ _ ∧ _ ∧ _ ∧ _ ∧ _ ∧ _ ∧ _ ∧ _ ∧ _ ∧ _ ∧ AllLt _ _) => qz; clear qz)
    try (rename (_ ∧ _ ∧ _ ∧ _ ∧ _ ∧ _ ∧ _ ∧ _ ∧ _ ∧ _ ∧ _ ∧ _ ∧ AllLt _ _) => qz; clear qz)
    try (rename (_ ∧ _ ∧ _ ∧ _ ∧ _ ∧ _ ∧ _ ∧ _ ∧ _ ∧ _ ∧ _ ∧ _ ∧ _ ∧ AllLt _ _) => qz; clear qz)
    try (rename (_ ∧ _ ∧ _ ∧ _ ∧ _ ∧ _ ∧ _ ∧ _ ∧ _ ∧ _ ∧ _ ∧ _ ∧ _ ∧ _ ∧ AllLt _ _) => qz; clear qz)
    try (rename (_ ∧ _ ∧ _ ∧ _ ∧ _ ∧ _ ∧ _ ∧ _ ∧ _ ∧ _ ∧ _ ∧ _ ∧ _ ∧ _ ∧ _ ∧ AllLt _ _) => qz; clear qz)
    try (rename (_ ∧ _ ∧ _ ∧ _ ∧ _ ∧ _ ∧ _ ∧ _ ∧ _ ∧ _ ∧ _ ∧ _ ∧ _ ∧ _ ∧ _ ∧ _ ∧ AllLt _ _) => qz; clear qz)
    try (rename (_ ∧ _ ∧ _ ∧ _ ∧ _ ∧ _ ∧ _ ∧ _ ∧ _ ∧ _ ∧ _ ∧ _ ∧ _ ∧ _ ∧ _ ∧ _ ∧ _ ∧ AllLt _ _) => qz; clear qz)
    try (rename (_ ∧ _ ∧ _ ∧ _ ∧ _ ∧ _ ∧ _ ∧ _ ∧ _ ∧ _ ∧ _ ∧ _ ∧ _ ∧ _ ∧ _ ∧ _ ∧ _ ∧ _ ∧ AllLt _ _) => qz; clear qz)
    try (rename (_ ∧ _ ∧ _ ∧ _ ∧ _ ∧ _ ∧ _ ∧ _ ∧ _ ∧ _ ∧ _ ∧ _ ∧ _ ∧ _ ∧ _ ∧ _ ∧ _ ∧ _ ∧ _ ∧ AllLt _ _) => qz; clear qz)
    try (rename (_ ∧ _ ∧ _ ∧ _ ∧ _ ∧ _ ∧ _ ∧ _ ∧ _ ∧ _ ∧ _ ∧ _ ∧ _ ∧ _ ∧ _ ∧ _ ∧ _ ∧ _ ∧ _ ∧ _ ∧ AllLt _ _) => qz; clear qz)
    clear o1 o2 o3 o4 o5 o6 hp9 hc9
    intro I i v m it h9 tk9 c hv hI hoff hit F9 N9
    obtain ⟨keep, pv, pk, cv, ck, c1, c2, c3, c4, c5, c6, la, sa, da, lv, sv, dv, lk, sk, dk, leads, ds, cols⟩ := c
    obtain ⟨hla, hsa, hda, hD, hn, sl, ss, sd, sp, sc, run, hlead, hleadL, hlen, hln, hc9, e1, e2, ⟨u3, e3⟩, ⟨u4, e4⟩, ⟨u5, e5⟩, ⟨u6, e6⟩, ⟨q1, q2, q3, q4, q5, q6, qp, qc⟩, lt1, lt2⟩ := hI
    dsimp only [LS.led, ledOf] at hla hsa hda hD hn sl ss sd sp sc run hlead hleadL hlen hln hc9 e1 e2 e3 e4 e5 e6 q1 q2 q3 q4 q5 q6 qp qc lt1 lt2 hoff F9 N9
    refine letG ?_
    intro G9
    obtain ⟨n, tn, er8, hnn⟩ := hIs.at i v hv
    dsimp only [G9]
    clear G9
    subst er8
    (try dsimp only)
    refine neverE ?_
    refine letQ ?_
    intro Q9
    have iI1 : @Ne Nat I (LL + 1) := fun e => hoff (LL + 1, c1) (by simp) e.symm
    have iI2 : @Ne Nat I (LL + 1 + 1) := fun e => hoff (LL + 1 + 1, c2) (by simp) e.symm
    have iI3 : @Ne Nat I (LL + 1 + 1 + 1) := fun e => hoff (LL + 1 + 1 + 1, c3) (by simp) e.symm
    have iI4 : @Ne Nat I (LL + 1 + 1 + 1 + 1) := fun e => hoff (LL + 1 + 1 + 1 + 1, c4) (by simp) e.symm
    have iI5 : @Ne Nat I (LL + 1 + 1 + 1 + 1 + 1) := fun e => hoff (LL + 1 + 1 + 1 + 1 + 1, c5) (by simp) e.symm
    have iI6 : @Ne Nat I (LL + 1 + 1 + 1 + 1 + 1 + 1) := fun e => hoff (LL + 1 + 1 + 1 + 1 + 1 + 1, c6) (by simp) e.symm
    have iIc : @Ne Nat I _ := fun e => hoff _ (List.mem_cons_self ..) e.symm
    have iIp : @Ne Nat I _ := fun e => hoff _ (List.mem_cons_of_mem _ (List.mem_cons_self ..)) e.symm
    have hlv := sl.length
    have hRl := run.lad_le
    rw [List.length_map] at hRl
    have hinv := run.inv
    have hl0 := hinv.lpos
    rw [List.length_map] at hl0
    have hi7 := turns7 hnn
    clear hinv
    have hds8 : ds.length ≤ 8 := Nat.le_trans hlen (Nat.succ_le_succ hi7)
    have hle8 : leads.length ≤ 8 := Nat.le_trans hRl hds8
    have hlL : leads.length - 1 < leads.length := Nat.sub_lt hl0 Nat.one_pos
    have hdsL : ds.length - 1 < ds.length := Nat.sub_lt (Nat.lt_of_lt_of_le hl0 hRl) Nat.one_pos
    have hlv9 : lv.length ≤ 900 := hlv ▸ Nat.le_trans hle8 (by decide)
    have hsv9 : sv.length ≤ 900 := ss.length ▸ Nat.le_trans hle8 (by decide)
    have hdv9 : dv.length ≤ 900 := by
      rw [sd.length, List.length_map]; exact Nat.le_trans hle8 (by decide)
    have hpv9 : pv.length ≤ 900 := by
      rw [sp.length, List.length_map]; exact Nat.le_trans hds8 (by decide)
    k_steps
    refine Hold.mk ?_
    have hlz : (0 : Int) < lv.length := Int.ofNat_lt.mpr (hlv.symm ▸ hl0)
    obtain ⟨r, hr⟩ : ∃ r : Nat, (n.fdiv 12).fmod ↑lv.length = r := ⟨_, (Int.toNat_of_nonneg (Int.fmod_nonneg_of_pos _ hlz)).symm⟩
    have hr1 : (r : Int) < lv.length := hr ▸ Int.fmod_lt_of_pos _ hlz
    obtain ⟨b, hb⟩ : ∃ b, leads[lv.length - 1 - r]? = some b := ⟨_, List.getElem?_eq_getElem (Nat.lt_of_lt_of_eq (sub_idx hr1) hlv)⟩
    obtain ⟨tb, htb⟩ := sl.at hb
    rw [hr]
    have hbm := List.mem_of_getElem? hb
    refine neg_lst (vs := lv) (n := lk) (v := .str b tb) (by assumption) ?zm (neg1 r) (neg2 hr1) ?zx (n62 hlv9) ?_
    case zm => k_mem
    case zx => rw [neg3 hr1]; exact htb
    k_steps
    refine Hold.mk ?_
    obtain ⟨j, hj⟩ : ∃ j : Nat, (n.fdiv 2).fmod 6 = j := ⟨_, (Int.toNat_of_nonneg (Int.fmod_nonneg_of_pos _ (by decide))).symm⟩
    have hj1 : (j : Int) < 6 := hj ▸ Int.fmod_lt_of_pos _ (by decide)
    rw [hj]
    have hj6 : j < 6 := Int.ofNat_lt.mp hj1
    obtain ⟨pc, tp, hpc, hpl, hpn⟩ := piece_at _ _ _ _ _ _ j hj6
    refine item_tup (v := .str pc tp) (by assumption) ?zm (Int.natCast_nonneg _) (i62 (Nat.le_trans (Nat.le_of_lt hj6) (by decide))) hpc ?_
    case zm => k_mem
    k_steps
    refine Hold.mk ?_
    (try dsimp only)
    have hln9 := hln b hbm
    have hsz9 := sz3 hi7 hln9 hpn
    have hsz1 := hsz9.1
    have hsz2 := hsz9.2
    clear hsz9
    refine wpAny_join (fun y => ∃ ld t, y = Value.str ld t ∧ ((cl ld = cl b ++ pieceL j ∧ n.fmod 2 = 0) ∨ (cl ld = pieceL j ++ cl b ∧ ¬ n.fmod 2 = 0))) ?_ ?_
    · have go := Go.mk
      k_steps
      · exact .inl ⟨by rw [cl_app, hpl], by assumption⟩
      · exact .inr ⟨by rw [cl_app, hpl], by assumption⟩
    rintro y tk10 ⟨ld, tld, rfl, hld⟩
    have hln' : ld.length ≤ 3 * i + 3 := by
      rw [cl_len] at hln9 hpn ⊢
      rcases hld with ⟨e, _⟩ | ⟨e, _⟩
      · rw [e, ← hpl, List.length_append]; exact Nat.add_le_add hln9 hpn
      · rw [e, ← hpl, List.length_append, Nat.add_comm]; exact Nat.add_le_add hln9 hpn
    clear hsz1 hsz2
    have hsz1 := sz27 hi7 hln'
    (try dsimp only)
    k_steps
    refine Hold.mk ?_
    refine Ctr.use (ws_c _ _ _ _ ?zz) K0 (by assumption) X0 (by assumption) T0 rfl (by ktr_room) (by ktr_units) ?_
    case zz =>
      have e9 : (ld ++ Str.ofString "x \t").cps.size = ld.length + 3 := by
        show (cl _).length = _
        rw [cl_app, List.length_append, cl_len ld]; rfl
      rw [e9]; exact le_3i hln' hi7
    rintro v9 tl9 h11 tk11 F11 N11 l11 ⟨x9, ns9, b9, n9, nt9, rfl, hs9, hw9⟩
    have oI := off_of l11 (a := I) ⟨it, by simp⟩
    have oc := off_of l11 (a := _) ⟨_, List.mem_cons_of_mem _ (List.mem_cons_self ..)⟩
    have op := off_of l11 (a := _) ⟨_, List.mem_cons_of_mem _ (List.mem_cons_of_mem _ (List.mem_cons_self ..))⟩
    have o6 := off_of l11 (a := LL + 1 + 1 + 1 + 1 + 1 + 1) ⟨c6, by simp⟩
    have o5 := off_of l11 (a := LL + 1 + 1 + 1 + 1 + 1) ⟨c5, by simp⟩
    have o4 := off_of l11 (a := LL + 1 + 1 + 1 + 1) ⟨c4, by simp⟩
    have o3 := off_of l11 (a := LL + 1 + 1 + 1) ⟨c3, by simp⟩
    have o2 := off_of l11 (a := LL + 1 + 1) ⟨c2, by simp⟩
    have o1 := off_of l11 (a := LL + 1) ⟨c1, by simp⟩
    clear l11
    obtain ⟨keep2, k1, k2, k3, N12⟩ := regroup N11
    clear N11
    dsimp only [ledOf] at N12
    replace q1 := k3 _ q1 o1
    replace q2 := k3 _ q2 o2
    replace q3 := k3 _ q3 o3
    replace q4 := k3 _ q4 o4
    replace q5 := k3 _ q5 o5
    replace q6 := k3 _ q6 o6
    replace qp := k3 _ qp op
    replace qc := k3 _ qc oc
    have qI := k3 I (fun p hp => hoff p (by iterate 8 (refine List.mem_cons_of_mem _ ?_)
                                            exact hp)) oI
    clear o1 o2 o3 o4 o5 o6 op oc oI k3
    replace hla := k1 _ hla
    replace hsa := k1 _ hsa
    replace hda := k1 _ hda
    replace hD := k1 _ hD
    replace hn := k1 _ hn
    replace ss := ss.mono k1
    replace sd := sd.mono k1
    replace sc := sc.mono k1
    replace hw9 := hw9.mono k2
    clear k1 k2 hoff
    have hI0 : LInv _ LL _ _ _ _ _ _ _ i { keep := keep2, pv := pv, pk := pk, cv := cv, ck := ck, o1 := c1, o2 := c2, o3 := c3, o4 := c4, o5 := c5, o6 := c6, la := la, sa := sa, da := da, lv := lv, sv := sv, dv := dv, lk := lk, sk := sk, dk := dk, leads := leads, ds := ds, cols := cols } :=
      ⟨hla, hsa, hda, hD, hn, sl, ss, sd, sp, sc, run, hlead, hleadL, hlen, hln, hc9, e1, e2, ⟨u3, e3⟩, ⟨u4, e4⟩, ⟨u5, e5⟩, ⟨u6, e6⟩, ⟨q1, q2, q3, q4, q5, q6, qp, qc⟩, lt1, lt2⟩
    obtain ⟨hlew, hle9⟩ := lead_new hi7 hnn hj hj6 (hlead hi7 b hbm) hld
    refine letG ?_
    intro G9
    obtain ⟨ns8, b8, n8, nt8, es1, es2, hok⟩ := scan_lead hle9 (Nat.le_refl _) (Nat.le_refl _) (cl (Str.ofString "x \t")) tail_x
    dsimp only [G9]
    clear G9
    have es3 : scanOf ld = (ns9, b9, n9, nt9) := by
      rw [scanOf, es2, ← es1, ← hs9, ← cl_app]
    have hok9 : WsOk ns9 b9 n9 nt9 := by
      rw [scanOf, es2] at es3
      cases es3; exact hok
    have hns9 := hok9.len
    clear hok es1 es2 hs9
    have hwz := hw9
    refine letG ?_
    intro G9
    obtain ⟨hm1, hm2, hm3, hm4, hiz, hsb⟩ := hwz
    dsimp only [G9]
    clear G9
    k_steps
    refine Hold.mk ?_
    rename Fr _ _ _ _ => F13
    k_dflt (refine wpAny_Assign_Name ?_)
    k_dflt (refine LCg.ListComp_U (F₀ := F13) (by with_unfolding_all rfl) (by decide) (by rfl) (by decide) (by rfl) ?_)
    k_steps
    rename IsRange _ _ _ _ _ _ _ _ => hR9
    refine Hold.mk (LCg.CompSrc.range (n := 9) (by rfl) (by assumption) (by assumption) hR9 (by decide) (by decide) (by decide) fun g9 => ?_)
    refine compRest_inv (n := 9) (fun i ys => IntsAre ys ((List.range i).map (fun k => lvl ns9 b9 nt9 (k + 1)))) trivial ?_ ?_ _ 0 [] (by simp) IntsAre.nil
    · intro i2 ys v oI2 oI3 C oC D m₂ h12 tk' E' hi hJ hP hC hx F14 N14 off ne
      obtain ⟨t2, rfl⟩ := hP
      rw [cast1 i2] at hx
      k_steps
      refine Hold.mk ?_
      refine Ctr.useE (indent_c _ _ x9 ns9 b9 n9 nt9 _ _ (hw9.mono ?zs) (Nat.le_trans (ws_le hok9).1 (by decide)) (Nat.le_add_left 1 _) (le_1000 hi)) K0 (by assumption) X0 (by assumption) T0 rfl (by ktr_room) (by ktr_units) ?_
      case zs => intro p9 h9; (repeat (refine' List.mem_cons_of_mem _ ?_)); assumption
      intro h13 tk13 F15 N15 t13
      refine cend F15 N15 (fun _ h => h) ?_
      rw [List.range_succ, List.map_append]
      exact IntsAre.append hJ (IntsAre.cons _ _ IntsAre.nil)
    intro yc hJ
    have hrow : rowOf ld = (List.range 9).map (fun k => lvl ns9 b9 nt9 (k + 1)) := by rw [rowOf, es3]
    rw [← hrow] at hJ
    have hyc := hJ.length
    rw [rowOf_len] at hyc
    k_steps
    refine Hold.mk ?_
    rename Fr _ _ _ _ => F16
    rename News _ _ _ _ => N16
    k_dflt (refine LCg.Assign_ListComp_U (F₀ := F16) (by rfl) (by with_unfolding_all rfl) (by with_unfolding_all rfl) (by decide) (by rfl) (by decide) (by rfl) (by rfl) (by rfl) ?_)
    k_steps
    rename IsRange _ _ _ _ _ _ _ _ => hR9
    refine Hold.mk (LCg.CompSrc.range (n := 9) (by rfl) (by assumption) (by assumption) hR9 (by decide) (by decide) (by decide) fun g9 => ?_)
    have hRz : RowsAt keep2 dv (leads.map rowOf) := sd
    refine compRest_inv (n := 9) (fun i ys => IntsAre ys ((List.range i).map (fun k => placeS (leads.map rowOf) (rowOf ld) k))) trivial ?_ ?_ _ 0 [] (by simp) IntsAre.nil
    · intro i2 ys v oI2 oI3 C oC D m₂ h12 tk' E' hi hJ2 hP hC hx F14 N14 off ne
      obtain ⟨t2, rfl⟩ := hP
      rw [cast0 i2] at hx
      k_steps
      refine Hold.mk ?_
      refine Ctr.useE (place_c _ _ da _ dv yc dk yc.length (leads.map rowOf) (rowOf ld) _ _ ?zl (hRz.mono ?zs) ?zc hJ (by rw [List.length_map]; exact Nat.le_trans hle8 (by decide)) (by rw [List.length_map]; exact hl0) ?z2 (rowOf_len _) (Int.natCast_nonneg _) (Int.ofNat_lt.mpr hi)) K0 (by assumption) X0 (by assumption) T0 rfl (by ktr_room) (by ktr_units) ?_
      case zl => k_mem
      case zs => intro p9 h9; (repeat (refine' List.mem_cons_of_mem _ ?_)); assumption
      case zc => first | k_mem | (refine List.mem_cons_of_mem _ (List.mem_cons_of_mem _ (List.mem_cons_of_mem _ (List.mem_cons_self ..))))
      case z2 =>
        intro r9 hr9
        refine letG ?_
        intro G9
        obtain ⟨l9, -, er9⟩ := List.mem_map.mp hr9
        dsimp only [G9]
        clear G9
        subst er9
        exact rowOf_len _
      intro h13 tk13 F15 N15 t13
      refine cend F15 N15 (fun _ h => h) ?_
      rw [List.range_succ, List.map_append]
      exact IntsAre.append hJ2 (IntsAre.cons _ _ IntsAre.nil)
    intro yt hJ2
    k_steps
    refine Hold.mk ?_
    rename Fr _ _ _ _ => F20
    rename News _ _ _ _ => N20
    refine letG ?_
    intro G9
    obtain ⟨xs, hxs, hws⟩ := ss.get (i := leads.length - 1) (List.getElem?_eq_getElem hlL)
    dsimp only [G9]
    clear G9
    have hsv := ss.length
    rename (_ ∧ _ ∧ _ ∧ _ ∧ _ ∧ _ ∧ _ ∧ _ ∧ _ ∧ LCg.Off1 _ _) => hcr9
    rename (_ ∧ _ ∧ _ ∧ _ ∧ _ ∧ _ ∧ _ ∧ _ ∧ _ ∧ _ ∧ LCg.Off1 _ _) => htl9
    have hfc := fresh_ne hcr9
    refine letG ?_
    intro G9
    obtain ⟨z1, z2, z3, z4, z5, z6, zp, zc, zI⟩ := fresh_ne hcr9
    dsimp only [G9]
    clear G9
    refine letG ?_
    intro G9
    obtain ⟨y1, y2, y3, y4, y5, y6, yp, ycc, yI⟩ := fresh_ne htl9.2
    dsimp only [G9]
    clear G9
    refine place_join (PlaceOk (leads.map rowOf) (rowOf ld)) F20 N20 ?_ ?_
    · have go := GoI.mk
      k_steps
      refine Hold.mk (last_lst (by assumption) (by k_mem) (v := .ref xs) ?zx (n62 hsv9) ?_)
      case zx => rw [List.getLast?_eq_getElem?, hsv]; exact hxs
      have hwz := hws
      refine letG ?_
      intro G9
      obtain ⟨gm1, gm2, gm3, gm4, giz, gsb⟩ := hwz
      dsimp only [G9]
      clear G9
      have hokx := ws_of (hleadL _ (List.getElem_mem hlL))
      k_steps
      refine Hold.mk ?_
      refine Ctr.useV (less_c _ _ xs _ _ _ _ x9 ns9 b9 n9 nt9 (hws.mono ?z1) (hw9.mono ?z2) (ws_le hokx).1 (ws_le hok9).1 (ws_le hokx).2 (ws_le hok9).2) K0 (by assumption) X0 (by assumption) T0 rfl (by ktr_room) (by ktr_units) ?_
      case z1 => intro p9 h9; (repeat (refine' List.mem_cons_of_mem _ ?_)); assumption
      case z2 => intro p9 h9; (repeat (refine' List.mem_cons_of_mem _ ?_)); assumption
      intro h13 tk13 F21 N21
      have hlr := less_row (hleadL _ (List.getElem_mem hlL)) hle9
      rw [es3] at hlr
      generalize hlt9 : lessB _ _ _ _ ns9 b9 n9 nt9 = bb at hlr ⊢
      cases bb with
      | true =>
        k_steps
        rename Fr _ _ _ _ => F22
        rename News _ _ _ _ => N22
        refine ⟨rfl, _, _, _, _, _, _, rfl, fr_dup F22, N22, e5, .inl ⟨?_, ?_⟩⟩
        · rw [List.length_map, hsv]
        · rw [lastD_map hlL]
          exact hlr.mp rfl
      | false =>
        have hnl : ¬ (∀ k < 9, gC (lastD (leads.map rowOf)) k < gC (rowOf ld) k) := by
          rw [lastD_map hlL]
          intro q
          exact Bool.noConfusion (hlr.mpr q)
        k_steps
        rename Fr _ _ _ _ => F22
        refine Hold.mk ?_
        k_dflt (refine For_turns F22 ?_)
        k_steps
        rename IsRange _ _ _ _ _ _ _ _ => hR8
        rename Fr _ _ _ _ => F23
        rename News _ _ _ _ => N23
        refine place_loop (L := LL) (N0 := sv.length) (PlPr (leads.map rowOf) (rowOf ld)) rfl rfl hR8 rfl hsv9 F23 N23 e5 (plpr_zero _ _) ?_ ?_
        · intro I2 i2 t2 it2 h14 tk14 c52 u52 pl2 t52 hI2 hi2 hd2 hp2 F24 N24
          have iJ5 : @Ne Nat I2 (LL + 1 + 1 + 1 + 1 + 1) := Nat.ne_of_gt (hI2 (LL + 1 + 1 + 1 + 1 + 1, c5) (by simp))
          have hi2L : i2 < leads.length := ss.length ▸ hi2
          refine letG ?_
          intro G9
          obtain ⟨x2, hx2, hw2⟩ := ss.get (i := i2) (List.getElem?_eq_getElem hi2L)
          dsimp only [G9]
          clear G9
          refine letU ?_
          intro Q8
          k_steps
          refine Hold.mk (item_lstN (vs := sv) (n := sk) (v := .ref x2) (by assumption) ?zm (Nat.le_trans (Nat.le_of_lt hi2) hsv9) ?zx ?_)
          case zm => k_mem
          case zx => exact hx2
          have hwz := hw2
          refine letG ?_
          intro G9
          obtain ⟨mm1, mm2, mm3, mm4, miz, msb⟩ := hwz
          dsimp only [G9]
          clear G9
          k_steps
          refine Hold.mk ?_
          have hok2 := ws_of (hleadL _ (List.getElem_mem hi2L))
          refine Ctr.useV (equal_c _ _ x2 _ _ _ _ x9 ns9 b9 n9 nt9 (hw2.mono ?z1) (hw9.mono ?z2) (Nat.le_trans (ws_le hok2).1 (by decide)) (Nat.le_trans (ws_le hok9).1 (by decide))) K0 (by assumption) X0 (by assumption) T0 rfl (by ktr_room) (by ktr_units) ?_
          case z1 => intro p9 h9; (repeat (refine' List.mem_cons_of_mem _ ?_)); assumption
          case z2 => intro p9 h9; (repeat (refine' List.mem_cons_of_mem _ ?_)); assumption
          intro h15 tk15 F25 N25
          have heq := eq_row (hleadL _ (List.getElem_mem hi2L)) hle9
          rw [es3] at heq
          have hat : (leads.map rowOf)[i2]? = some (rowOf leads[i2]) := by rw [List.getElem?_map, List.getElem?_eq_getElem]; rfl
          generalize hbb : decide ((scanOf leads[i2]).1 = ns9 ∧ (scanOf leads[i2]).2.1 = b9) = bb
          cases bb with
          | true =>
            rw [decide_eq_true_eq] at hbb
            rw [heq.mp hbb] at hat
            k_steps
            rename Fr _ _ _ _ => F26
            rename News _ _ _ _ => N26
            exact place_fin hI2 (fr_dup F26) N26 (by assumption) (plpr_hit hat)
          | false =>
            rw [decide_eq_false_iff_not] at hbb
            have hne : (leads.map rowOf)[i2]? ≠ some (rowOf ld) := by
              rw [hat]
              exact fun q => hbb (heq.mpr (Option.some.inj q))
            k_steps
            exact place_fin hI2 F25 N25 (by assumption) (plpr_miss hne hp2)
        · intro h14 tk14 c52 u52 pl2 t52 hd2 hp2 F24 N24
          k_steps
          refine ⟨rfl, _, _, _, _, _, _, rfl, F24, N24, hd2, plpr_end (by rw [List.length_map, hsv]) hnl hp2⟩
    · intro pl t1 c52 u52 h30 tk30 hd2 hpl F30 N30
      have hlad := lad_of run.inv
      have htv := told_val hlad (rowOf_len ld) hpl
      have hytl := hJ2.length
      rw [List.length_map, List.length_range] at hytl
      (try dsimp only)
      k_steps
      refine Hold.mk ?_
      have go := GoI.mk
      k_steps
      refine Hold.mk (wpAny_joinE (fun t => Value.int pl t) F30 N30 ?_ ?_)
      · have go2 := Go.mk
        k_steps
        · rename (List.map _ _ = List.flatten _) => ht9
          rename Fr _ _ _ _ => F32
          rename News _ _ _ _ => N32
          rw [told_all] at ht9
          refine join_fin F32 N32 (fun p hp => List.mem_cons_of_mem _ (List.mem_cons_of_mem _ hp)) ⟨_, congrArg (fun z => Value.int z _) ?_⟩
          rcases htv with ⟨-, e⟩ | ⟨q, -⟩
          · exact e.symm
          · exact absurd ht9 q
        · rename (¬ List.map _ _ = List.flatten _) => ht9
          rename Fr _ _ _ _ => F32
          rename News _ _ _ _ => N32
          rw [told_all] at ht9
          refine join_fin F32 N32 (fun p hp => List.mem_cons_of_mem _ (List.mem_cons_of_mem _ hp)) ⟨_, congrArg (fun z => Value.int z _) ?_⟩
          rcases htv with ⟨q, -⟩ | ⟨-, e⟩
          · exact absurd q ht9
          · exact e.symm
      intro t31 h31 tk31 F31 N31
      k_steps
      · rename (¬ (pl = pl)) => hq9
        exact absurd rfl hq9
      · obtain ⟨tq, htq⟩ := sp.at (show (ds.map pth)[ds.length - 1]? = some (pth (lastD ds)) by rw [List.getElem?_map, List.getElem?_eq_getElem hdsL, lastD, List.getD_eq_getElem?_getD, List.getElem?_eq_getElem hdsL]; rfl)
        have hpv := sp.length
        rw [List.length_map] at hpv
        refine Hold.mk (last_lst (by assumption) (by k_mem) (v := .str (pth (lastD ds)) tq) ?zx (n62 hpv9) ?_)
        case zx => rw [List.getLast?_eq_getElem?, hpv]; exact htq
        refine letG ?_
        intro G9
        obtain ⟨p, er10, hple, hpc⟩ := place_step hpl (by assumption)
        dsimp only [G9]
        clear G9
        subst er10
        rw [List.length_map] at hple
        k_steps
        refine Hold.mk ?_
        have hinv := run.inv
        have hll := hinv.ll
        rw [List.length_map] at hll
        have hlne : lastD ds ≠ [] := fun e => by
          rw [e, List.length_nil] at hll
          exact absurd hll (Nat.ne_of_gt hl0)
        have hdig : Str.ofString (toString ((pv.length : Nat) : Int)) = dig ds.length := by
          rw [hpv]; exact dig_is (Nat.lt_of_le_of_lt hds8 (by decide))
        rw [hdig]
        have hups := mul_dots ((lv.length : Int) - (p : Int))
        have hD8 : (lastD ds).length ≤ 8 := hll ▸ hle8
        have hU8 := ups_bd (p := p) hlv hle8
        refine letG ?_
        intro G9
        obtain ⟨b1, b2, b3, b4, b5, b6⟩ := norm_is hlne (Nat.le_trans hD8 (by decide)) (((lv.length : Int) - (p : Int)).toNat) ds.length (Nat.le_trans hU8 (by decide)) _ hups
        dsimp only [G9]
        clear G9
        have hupl := dots_len hups
        have hpl9 := pth_len (lastD ds)
        generalize hupsE : Txt.mul (Str.ofString "../") ((lv.length : Int) - (p : Int)) = ups at *
        have hdl : (dig ds.length).length ≤ 900 := by rw [cl_len, cl_dig, List.length_singleton]; decide
        refine Ctr.useE (join_c _ _ (pth (lastD ds)) ups (dig ds.length) _ _ _ (pth900 hpl9 (Nat.le_succ_of_le hD8)) (by rw [hupl]; exact Nat.le_trans (Nat.mul_le_mul_left 3 hU8) (by decide)) hdl) K0 (by assumption) X0 (by assumption) T0 rfl (by ktr_room) (by ktr_units) ?_
        intro h33 tk33 F33 N33 t33
        k_steps
        refine Hold.mk ?_
        refine Ctr.useE (normpath_c _ _ _ _ b1 b2 b3 b4 b5) K0 (by assumption) X0 (by assumption) T0 rfl (by ktr_room) (by ktr_units) ?_
        intro h34 tk34 F34 N34 t34
        rw [b6, ups_back hlv hple hll]
        clear b1 b2 b3 b4 b5 b6 hups hupsE F33 N33
        have hcv := sc.length
        rw [hinv.lc] at hcv
        have hdv := sd.length
        rw [List.length_map] at hdv
        k_steps
        rename Fr _ _ _ _ => F40
        rename News _ _ _ _ => N40
        rename (_ ∧ _ ∧ _ ∧ _ ∧ _ ∧ _ ∧ _ ∧ _ ∧ _ ∧ _ ∧ _ ∧ _ ∧ _ ∧ _ ∧ _ ∧ _ ∧ _ ∧ _ ∧ _ ∧ _ ∧ AllLt _ _) => hld
        rename (_ ∧ _ ∧ _ ∧ _ ∧ _ ∧ _ ∧ _ ∧ _ ∧ _ ∧ _ ∧ _ ∧ _ ∧ _ ∧ _ ∧ _ ∧ _ ∧ _ ∧ AllLt _ _) => hls
        rename (_ ∧ _ ∧ _ ∧ _ ∧ _ ∧ _ ∧ _ ∧ _ ∧ _ ∧ _ ∧ _ ∧ _ ∧ _ ∧ _ ∧ AllLt _ _) => hll9
        refine turn_push hI0 F40 N40 (by assumption) (by assumption) (by assumption) hd2 hple hpc hlew hle9 hln' (by rw [es3]; exact hw9) hJ ?fd ?fs ?fl ?fc iI1 iI2 iI3 iI4 iI5 iI6 iIp iIc qI ?e1 ?e2 ?e3 ?e4
        case e1 => rfl
        case e2 => rfl
        case e3 => rfl
        case e4 => rfl
        case fd => exact fresh_lt hld.2.2.2.2.2.2.2.2.2.2.2
        case fs => exact fresh_lt hls.2.2.2.2.2.2.2.2
        case fl => exact fresh_lt hll9.2.2.2.2.2
        case fc => exact hfc
      · refine turn_same hI0 F31 N31 (by assumption) (by assumption) hd2 iI1 iI2 iI3 iI4 iI5 iI6 iIp iIc qI ?e1 ?e2 ?e3 ?e4
        case e1 => rfl
        case e2 => rfl
        case e3 => rfl
        case e4 => rfl
  · have hqk : ∀ (s9 : Shared) (L9 : Addr) (m9 : Str → Option Value), Fr sh L9 s9.heap m9 → s9.gens = #[] → s9.os = so → qk (Flow.ret (Value.bool true)) s9 := by
      intro s9 L9 m9 F9 g9 o9
      refine goodW_bool F9 g9 (raisesW_false ?_) ?_ o9
      · wrow_none_raised
      · first | kc_post | wrow_post
    clear_value qk ek
    rename Fr _ _ _ _ => F7
    rename News _ _ _ _ => N7
    clear F7 N7
    rename IntsAre _ (List.take 7 _ ++ [2]) => hIs
    clear o1 o2 o3 o4 o5 o6 hp9 hc9 qp qc
    intro m h9 tk9 c hI F9 N9
    obtain ⟨keep, pv, pk, cv, ck, c1, c2, c3, c4, c5, c6, la, sa, da, lv, sv, dv, lk, sk, dk, leads, ds, cols⟩ := c
    obtain ⟨hla, hsa, hda, hD, hn, sl, ss, sd, sp, sc, run, hlead, hleadL, hlen, hln, hc9, e1, e2, ⟨u3, e3⟩, ⟨u4, e4⟩, ⟨u5, e5⟩, ⟨u6, e6⟩, ⟨q1, q2, q3, q4, q5, q6, qp, qc⟩, lt1, lt2⟩ := hI
    dsimp only [LS.led, ledOf] at hla hsa hda hD hn sl ss sd sp sc run hlead hleadL hlen hln hc9 e1 e2 e3 e4 e5 e6 q1 q2 q3 q4 q5 q6 qp qc lt1 lt2 F9 N9
    have hinv := run.inv
    have hpv := sp.length
    rw [List.length_map] at hpv
    have hcv := sc.length
    rw [hinv.lc] at hcv
    have hpos := hinv.pos
    have hnv := hIs.length
    simp only [List.length_append, List.length_take, List.length_singleton] at hnv
    have hds : ds.length ≤ 9 := Nat.le_trans hlen (by rw [hnv]; exact Nat.succ_le_succ (Nat.succ_le_succ (Nat.min_le_left 7 _)))
    have hd900 : ds.length ≤ 900 := Nat.le_trans hds (by decide)
    have hp9 : pv.length ≤ 9 := hpv ▸ hds
    have hp900 : pv.length ≤ 900 := hpv ▸ hd900
    have hlc := hinv.lc
    have hrow9 : ∀ i < ds.length, (cols.getD i []).length = 9 := fun i hi => hc9 _ (by
      rw [List.getD_eq_getElem?_getD, List.getElem?_eq_getElem (Nat.lt_of_lt_of_eq hi hlc.symm)]
      exact List.getElem_mem _)
    clear hla hsa hda hD hn sl ss sd run hlead hleadL hln hc9
    (try dsimp only)
    refine neverE ?_
    k_steps
    refine Hold.mk ?_
    rename Fr _ _ _ _ => F10
    rename News _ _ _ _ => N10
    k_dflt (refine LCg.Assign_ListComp_U (F₀ := F10) (by rfl) (by with_unfolding_all rfl) (by with_unfolding_all rfl) (by decide) (by rfl) (by decide) (by rfl) (by rfl) (by rfl) ?_)
    k_steps
    refine Hold.mk (LCg.CompSrc.ledger (by rfl) F10 N10 (by k_mem) (by rw [sizeLine_eq, List.size_toArray]; exact le16 hp900) fun g9 => ?_)
    refine compRest_inv (n := pv.length) (fun i ys => StrsAre ys (homeS (ds.take i))) (.inr ⟨_, by k_mem, rfl, _, rfl⟩) ?_ ?_ _ 0 [] (by simp) StrsAre.nil
    · intro i2 ys v oI2 oI3 C oC D m₂ h12 tk' E' hi hJ hP hC hx F14 N14 off ne
      refine letG ?_
      intro G9
      obtain ⟨y9, ty9, er11, hy9⟩ := StrsAre.item sp i2 v (by simpa using hP)
      dsimp only [G9]
      clear G9
      subst er11
      rw [List.getElem?_map] at hy9
      refine letG ?_
      intro G9
      obtain ⟨d9, hd9, er12⟩ := Option.map_eq_some_iff.mp hy9
      dsimp only [G9]
      clear G9
      subst er12
      have hdl := ds_mem_len hinv hds hd9
      have hpl := pth_len d9
      k_steps
      refine Hold.mk ?_
      refine Ctr.useE (dirname_c _ _ (pth d9) _ (pth900 hpl hdl)) K0 (by assumption) X0 (by assumption) T0 rfl (by ktr_room) (by ktr_units) ?_
      intro h13 tk13 F15 N15 t13
      refine cend F15 N15 (fun _ h => h) ?_
      rw [List.take_add_one, hd9, homeS, List.map_append]
      exact hJ.append' (StrsAre.cons _ _ StrsAre.nil)
    intro yh hJ
    rw [hpv, List.take_length] at hJ
    have hyl := hJ.length
    rw [homeS, List.length_map] at hyl
    k_steps
    rename_i ho h11 tk11 F11 N11 off11
    refine letG ?_
    intro G9
    obtain ⟨n1, n2, n3, n4, -⟩ := off11
    dsimp only [G9]
    clear G9
    refine letG ?_
    intro G9
    obtain ⟨rest, kr, mho, mca, mpa, mc2, r5, r6, N12⟩ := regroup2 N11 q5 q6 (Ne.symm n4) (Ne.symm n3) lt1 lt2
    dsimp only [G9]
    clear G9
    clear N11 n1 n2 n3 n4 q1 q2 q3 q4 q5 q6 qp qc
    replace sc := sc.mono kr
    clear kr
    have hrw := fun (i : Nat) (hi : i < ds.length) => sc.row (i := i) (by rw [hlc]; exact hi)
    refine Hold.mk ?_
    k_dflt (refine For_turns F11 ?_)
    k_steps
    rename IsRange _ _ _ _ _ _ _ _ => hR1
    rename Fr _ _ _ _ => F13
    rename News _ _ _ _ => N13
    refine jn2 (L := LL) (σ := C2) (ledC LL rest) (fun _ c => okC c) ⟨c5, c6, u5, u6⟩ pv.length rfl rfl hR1 (Int.le_refl _) (i30 hp900) (Int.natCast_nonneg _) (by decide) (max_len _) F13 (by decide +kernel) N13 ⟨e5, e6⟩ ?_ ?_
    · intro I1 i1 t1 c1 m1 it1 h1 tk1 hI1 hi1 hc1 F14 N14
      have d15 := hc1.1
      have d16 := hc1.2
      clear hc1
      rw [Int.zero_add]
      dsimp only [ledC] at N14
      have hi1d : i1 < ds.length := hpv ▸ hi1
      have hi1k : i1 ≤ 900 := Nat.le_trans (Nat.le_of_lt hi1d) hd900
      refine letU ?_
      intro Qa
      have iA5 : @Ne Nat I1 (LL + 1 + 1 + 1 + 1 + 1) := Nat.ne_of_gt (hI1 (LL + 1 + 1 + 1 + 1 + 1, c5) (List.mem_cons_of_mem _ (List.mem_cons_self ..)))
      have iA6 : @Ne Nat I1 (LL + 1 + 1 + 1 + 1 + 1 + 1) := Nat.ne_of_gt (hI1 (LL + 1 + 1 + 1 + 1 + 1 + 1, c6) (List.mem_cons_self ..))
      k_steps
      refine Hold.mk ?_
      rename Fr _ _ _ _ => F15
      k_dflt (refine For_turns F15 ?_)
      k_steps
      rename IsRange _ _ _ _ _ _ _ _ => hR2
      rename Fr _ _ _ _ => F16
      rename News _ _ _ _ => N16
      refine jn2 (L := LL) (σ := C2) (fun c => (I1, it1) :: ledC LL rest c) (fun _ c => okC c ∧ c.u6 = some (.int i1 t1)) ⟨_, _, _, some (.int i1 t1)⟩ 9 rfl rfl hR2 (by decide) (by decide) (by decide) (by decide) (by decide) F16 (by decide +kernel) N16 ⟨⟨d15, by assumption⟩, rfl⟩ ?_ ?_
      · intro I2 i2 t2 cB m2 it2 h2 tk2 hI2 hi2 hc2 F17 N17
        refine letG ?_
        intro G9
        obtain ⟨⟨d25, d26⟩, e26⟩ := hc2
        dsimp only [G9]
        clear G9
        rw [e26] at d26
        rw [Int.zero_add]
        dsimp only [ledC] at N17
        refine letU ?_
        intro Qb
        have iB5 : @Ne Nat I2 (LL + 1 + 1 + 1 + 1 + 1) := Nat.ne_of_gt (hI2 _ (List.mem_cons_of_mem _ (List.mem_cons_of_mem _ (List.mem_cons_self ..))))
        have iB6 : @Ne Nat I2 (LL + 1 + 1 + 1 + 1 + 1 + 1) := Nat.ne_of_gt (hI2 _ (List.mem_cons_of_mem _ (List.mem_cons_self ..)))
        k_steps
        refine Hold.mk ?_
        rename Fr _ _ _ _ => F18
        k_dflt (refine LCt.Assign_ListComp_T (F₀ := F18) (by rfl) (by with_unfolding_all rfl) (by with_unfolding_all rfl) (by decide) (by rfl) (by decide) (by rfl) (by rfl) (by rfl) ?_)
        k_steps
        rename IsRange _ _ _ _ _ _ _ _ => hR3
        refine Hold.mk (LCt.CompSrcT.range (n := i1) (by rfl) (by assumption) (by assumption) hR3 (small_n hi1k) (by unfold Builtin.Range.rangeSize; simp; omega) (by rw [sizeLine_eq]; omega) fun g9 => ?_)
        refine compRestT_inv (n := i1) (fun i ys => IntsAre ys ((lows cols i1 i2 i).map (fun (l : Nat) => (l : Int)))) trivial ?_ ?_ _ 0 [] (by simp) IntsAre.nil
        · intro i3 ys v oI2 oI3 C oC D m₂ h12 tk' E' hi3 hJ3 hP hC hx F19 N19 off ne
          obtain ⟨t3, rfl⟩ := hP
          rw [Int.zero_add] at hx
          have hi3d : i3 < ds.length := Nat.lt_trans hi3 hi1d
          have hi3k : i3 ≤ 900 := Nat.le_trans (Nat.le_of_lt hi3d) hd900
          refine letG ?_
          intro G9
          obtain ⟨aA, usA, kA, hvA, hmA, hiA⟩ := hrw i3 hi3d
          dsimp only [G9]
          clear G9
          refine letG ?_
          intro G9
          obtain ⟨aB, usB, kB, hvB, hmB, hiB⟩ := hrw i1 hi1d
          dsimp only [G9]
          clear G9
          have hlA := hrow9 i3 hi3d
          have hlB := hrow9 i1 hi1d
          k_steps
          refine Hold.mk (item_lstN (vs := cv) (n := ck) (v := .ref aA) (by assumption) (by k_mem) hi3k hvA ?_)
          k_steps
          refine Hold.mk (item_lstN (vs := cv) (n := ck) (v := .ref aB) (by assumption) (by k_mem) hi1k hvB ?_)
          k_steps
          · rename ((cols.getD i3 []).getD _ 0 < (cols.getD i1 []).getD _ 0) => hlt9
            replace hlt9 : gC (cols.getD i3 []) i2 < gC (cols.getD i1 []) i2 := hlt9
            refine cend F19 N19 (fun _ h => h) ?_
            rw [lows_succ, if_pos hlt9, List.map_append]
            exact IntsAre.append hJ3 (IntsAre.cons _ _ IntsAre.nil)
          · rename (¬ (cols.getD i3 []).getD _ 0 < (cols.getD i1 []).getD _ 0) => hlt9
            replace hlt9 : ¬ gC (cols.getD i3 []) i2 < gC (cols.getD i1 []) i2 := hlt9
            refine cend F19 N19 (fun _ h => h) ?_
            rw [lows_succ, if_neg hlt9, List.append_nil]
            exact hJ3
        intro yl hJ3
        have hyl9 := hJ3.length
        have hll9 : (lows cols i1 i2 i1).length ≤ 9 := by
          have h9 := List.length_filter_le (fun i => decide (gC (cols.getD i []) i2 < gC (cols.getD i1 []) i2)) (List.range i1)
          rw [List.length_range] at h9
          exact Nat.le_trans h9 (Nat.le_trans (Nat.le_of_lt hi1d) hds)
        rw [List.length_map] at hyl9
        k_steps
        refine Hold.mk ?_
        have go := GoI.mk
        obtain ⟨th, hth⟩ := hJ.at (home_at hi1d)
        k_steps
        refine Hold.mk (item_lstN (vs := yh) (n := yh.length) (v := .str (dirS (pth (ds.getD i1 []))) th) (by assumption) (by k_mem) hi1k hth ?_)
        k_steps
        rename Fr _ _ _ _ => F21
        rename News _ _ _ _ => N21
        have hpl9 := par_lows (hinv.par i1 hi1d) hi2
        refine Hold.mk (wpAny_joinE (fun t => Value.str (dirS (pth (ds.getD i1 []))) t) F21 N21 ?_ ?_)
        · have go2 := Go.mk
          rcases hpl9 with ⟨hl0, hd0⟩ | ⟨l0, hl1, hl2, hd0⟩
          · rw [hl0, List.map_nil] at hJ3
            cases hJ3
            k_steps
            rename Fr _ _ _ _ => F22
            rename News _ _ _ _ => N22
            exact join_fin F22 N22 (fun p hp => List.mem_cons_of_mem _ hp) ⟨_, congrArg (fun z => Value.str z _) hd0.symm⟩
          · have hne : ¬ (lows cols i1 i2 i1).map (fun (l : Nat) => (l : Int)) = [] := by
              intro e
              rw [List.map_eq_nil_iff] at e
              rw [e] at hl2
              cases hl2
            obtain ⟨tl, htl⟩ := ints_last hJ3 (show ((lows cols i1 i2 i1).map (fun (l : Nat) => (l : Int))).getLast? = some ((l0 : Nat) : Int) by rw [List.getLast?_map, hl2]; rfl)
            have hl0d : l0 < ds.length := Nat.lt_trans hl1 hi1d
            obtain ⟨tp0, htp0⟩ := sp.at (path_at hl0d)
            k_steps
            refine Hold.mk (last_lst (by assumption) (by k_mem) (v := .int l0 tl) htl (n62 (by rw [hyl9]; exact Nat.le_trans hll9 (by decide))) ?_)
            k_steps
            refine Hold.mk (item_lstN (vs := pv) (n := pk) (v := .str (pth (ds.getD l0 [])) tp0) (by assumption) (by k_mem) (Nat.le_trans (Nat.le_of_lt hl0d) hd900) htp0 ?_)
            k_steps
            rename Fr _ _ _ _ => F22
            rename News _ _ _ _ => N22
            exact join_fin F22 N22 (fun p hp => List.mem_cons_of_mem _ hp) ⟨_, congrArg (fun z => Value.str z _) hd0.symm⟩
        intro t31 h31 tk31 F31 N31
        k_steps
        · rename ((_ != _) = true) => hq9
          rw [bne_self_eq_false] at hq9
          cases hq9
        · refine jn_fin F31 N31 ⟨_, _, _, _⟩ (all2 ?_ ?_) (fun p hp => List.mem_cons_of_mem _ hp) (List.forall_mem_cons.mpr ⟨Nat.ne_of_lt (hI2 _ (List.mem_cons_self ..)), offC (fun p hp => hI2 p (List.mem_cons_of_mem _ hp))⟩) ⟨⟨by assumption, d26⟩, rfl⟩
          · rfl
          · rfl
      · intro cB m2 h2 tk2 hc2 F17 N17
        k_steps
        exact jn_fin F17 N17 cB (all2 (if_pos rfl) ((if_neg (of_eq_false nm_ph)).trans (if_pos rfl))) (fun p hp => hp) (offC hI1) hc2.1
    · intro c1 m1 h1 tk1 hc1 F14 N14
      have d15 := hc1.1
      have d16 := hc1.2
      clear hc1
      dsimp only [ledC] at N14
      k_steps
      refine Hold.mk ?_
      k_dflt (refine For_turns F14 ?_)
      k_steps
      rename IsRange _ _ _ _ _ _ _ _ => hR4
      rename Fr _ _ _ _ => F15
      rename News _ _ _ _ => N15
      refine jn2 (L := LL) (σ := C2) (ledC LL rest) (fun _ c => okC c) c1 pv.length rfl rfl hR4 (Int.le_refl _) (i30 hp900) (Int.natCast_nonneg _) (by decide) (max_len _) F15 (by decide +kernel) N15 ⟨d15, d16⟩ ?_ ?_
      · intro I1 i1 t1 cA m2 it1 h2 tk2 hI1 hi1 hc2 F16 N16
        have d25 := hc2.1
        have d26 := hc2.2
        clear hc2
        rw [Int.zero_add]
        dsimp only [ledC] at N16
        have hi1d : i1 < ds.length := hpv ▸ hi1
        have hi1k : i1 ≤ 900 := Nat.le_trans (Nat.le_of_lt hi1d) hd900
        have hjr := jr hi1 hp900
        refine letU ?_
        intro Qa
        have iA5 : @Ne Nat I1 (LL + 1 + 1 + 1 + 1 + 1) := Nat.ne_of_gt (hI1 (LL + 1 + 1 + 1 + 1 + 1, c1.o5) (List.mem_cons_of_mem _ (List.mem_cons_self ..)))
        have iA6 : @Ne Nat I1 (LL + 1 + 1 + 1 + 1 + 1 + 1) := Nat.ne_of_gt (hI1 (LL + 1 + 1 + 1 + 1 + 1 + 1, c1.o6) (List.mem_cons_self ..))
        k_steps
        refine Hold.mk ?_
        rename Fr _ _ _ _ => F17
        k_dflt (refine For_turns F17 ?_)
        k_steps
        rename IsRange _ _ _ _ _ _ _ _ => hR5
        rename Fr _ _ _ _ => F18
        rename News _ _ _ _ => N18
        rename IntsAre (List.replicate _ _).flatten _ => hIz
        rename_i lo _ _ _ _ _ _ llo _ _ _ _ _ _ _ _ _ _ _ _ _
        obtain ⟨-, -, lI, l6, l5, lr⟩ := llo
        have hr9 : ∀ p ∈ rest, p.1 ≠ lo := fun p hp => Nat.ne_of_lt (allLt_mem lr p hp)
        clear lr
        refine letG ?_
        intro G9
        obtain ⟨zs0, hIz0, hzl0, hlow0⟩ : ∃ zs0 : List Int, IntsAre _ zs0 ∧ zs0.length = 9 ∧ LowsAt cols i1 0 0 zs0 := ⟨_, hIz, rfl, low_start cols i1⟩
        dsimp only [G9]
        clear G9
        refine jn4 (L := LL) (σ := C3) (fun c => (lo, W.listOf c.ls.toArray c.n) :: (I1, it1) :: (LL + 1 + 1 + 1 + 1 + 1 + 1, c.o6) :: (LL + 1 + 1 + 1 + 1 + 1, c.o5) :: rest) (fun t c => okL c ∧ LowsAt cols i1 t 0 c.zs) ⟨cA.o5, cA.o6, cA.u5, cA.u6, _, 0, zs0⟩ (pv.length - (i1 + 1)) rfl rfl hR5 hjr.1 (i30 hp900) (Int.natCast_nonneg _) hjr.2.1 hjr.2.2 F18 (by decide +kernel) (by decide +kernel) (by decide +kernel) (cb_drop N18 ?_) ⟨⟨d25, d26, hIz0, hzl0⟩, hlow0⟩ ?_ ?_
        · repeat' (first | exact List.mem_cons_self .. | refine List.forall_mem_cons.mpr ⟨?_, ?_⟩ | refine List.mem_cons_of_mem _ ?_ | (intro p hp; repeat (first | exact hp | refine List.mem_cons_of_mem _ ?_)))
        · intro I2 i2 t2 cB m3 it2 h3 tk3 hI2 hi2 hc3 F19 N19
          refine letG ?_
          intro G9
          obtain ⟨⟨d35, d36, hz3, hz9⟩, hlow⟩ := hc3
          dsimp only [G9]
          clear G9
          have hj9 : i1 + 1 + i2 < ds.length := hpv ▸ idx_add hi2
          have hj9k : i1 + 1 + i2 ≤ 900 := Nat.le_trans (Nat.le_of_lt hj9) hd900
          rw [cast3 i1 i2]
          refine letU ?_
          intro Qb
          have iB5 : @Ne Nat I2 (LL + 1 + 1 + 1 + 1 + 1) := Nat.ne_of_gt (hI2 (LL + 1 + 1 + 1 + 1 + 1, cA.o5) (List.mem_cons_of_mem _ (List.mem_cons_of_mem _ (List.mem_cons_of_mem _ (List.mem_cons_self ..)))))
          have iB6 : @Ne Nat I2 (LL + 1 + 1 + 1 + 1 + 1 + 1) := Nat.ne_of_gt (hI2 (LL + 1 + 1 + 1 + 1 + 1 + 1, cA.o6) (List.mem_cons_of_mem _ (List.mem_cons_of_mem _ (List.mem_cons_self ..))))
          have iBl : @Ne Nat I2 lo := Nat.ne_of_gt (hI2 (lo, _) (List.mem_cons_self ..))
          obtain ⟨tpi, htpi⟩ := sp.at (path_at hi1d)
          obtain ⟨tpj, htpj⟩ := sp.at (path_at hj9)
          k_steps
          refine Hold.mk (item_lstN (vs := pv) (n := pk) (v := .str (pth (ds.getD i1 [])) tpi) (by assumption) (by k_mem) hi1k htpi ?_)
          k_steps
          refine Hold.mk (item_lstN (vs := pv) (n := pk) (v := .str (pth (ds.getD (i1 + 1 + i2) [])) tpj) (by assumption) (by k_mem) hj9k htpj ?_)
          k_steps
          refine Hold.mk ?_
          refine Ctr.useE (common_d _ _ _ (ds.getD i1 []) (ds.getD (i1 + 1 + i2) []) tpi tpj 0 ?zm (par_ne (hinv.par i1 hi1d)) (par_ne (hinv.par (i1 + 1 + i2) hj9)) (ds_getD_len hinv hds hi1d) (ds_getD_len hinv hds hj9)) K0 (by assumption) X0 (by assumption) T0 rfl (by ktr_room) (by ktr_units) ?_
          case zm => exact List.mem_cons_self ..
          intro h13 tk13 F20 N20 tcm
          k_steps
          refine Hold.mk ?_
          rename Fr _ _ _ _ => F21
          k_dflt (refine For_turns F21 ?_)
          k_steps
          rename IsRange _ _ _ _ _ _ _ _ => hR6
          rename Fr _ _ _ _ => F22
          rename News _ _ _ _ => N22
          refine jn5 (L := LL) (σ := C3) (fun c => (I2, it2) :: (lo, W.listOf c.ls.toArray c.n) :: (I1, it1) :: (LL + 1 + 1 + 1 + 1 + 1 + 1, c.o6) :: (LL + 1 + 1 + 1 + 1 + 1, c.o5) :: rest) (fun k c => (okL c ∧ c.u6 = some (.int ((i1 + 1 + i2 : Nat) : Int) t2)) ∧ LowsAt cols i1 i2 k c.zs) ⟨_, _, _, some (.int ((i1 + 1 + i2 : Nat) : Int) t2), cB.ls, cB.n, cB.zs⟩ 9 rfl rfl hR6 (by decide) (by decide) (by decide) (by decide) (by decide) F22 (by decide +kernel) (by decide +kernel) (by decide +kernel) (by decide +kernel) (cb_drop N22 (fun p hp => List.mem_cons_of_mem _ hp)) ⟨⟨⟨d35, by assumption, hz3, hz9⟩, rfl⟩, hlow⟩ ?_ ?_
          · intro I3 i3 t3 cC m4 it3 h4 tk4 hI3 hi3 hc4 F23 N23
            refine letG ?_
            intro G9
            obtain ⟨⟨⟨d45, d46, hz4, hz49⟩, e46⟩, hlw⟩ := hc4
            dsimp only [G9]
            clear G9
            rw [e46] at d46
            rw [Int.zero_add]
            refine letU ?_
            intro Qc
            refine letG ?_
            intro G9
            obtain ⟨l, hl, hlo⟩ := hlw i3 hi3
            dsimp only [G9]
            clear G9
            rw [if_neg (Nat.lt_irrefl _)] at hlo
            have hle := hlo.le
            have hst := hlo.step
            have iC5 : @Ne Nat I3 (LL + 1 + 1 + 1 + 1 + 1) := Nat.ne_of_gt (hI3 _ (List.mem_cons_of_mem _ (List.mem_cons_of_mem _ (List.mem_cons_of_mem _ (List.mem_cons_of_mem _ (List.mem_cons_self ..))))))
            have iC6 : @Ne Nat I3 (LL + 1 + 1 + 1 + 1 + 1 + 1) := Nat.ne_of_gt (hI3 _ (List.mem_cons_of_mem _ (List.mem_cons_of_mem _ (List.mem_cons_of_mem _ (List.mem_cons_self ..)))))
            have iCl : @Ne Nat I3 lo := Nat.ne_of_gt (hI3 _ (List.mem_cons_of_mem _ (List.mem_cons_self ..)))
            have hi3k : i3 ≤ 900 := Nat.le_trans (Nat.le_of_lt hi3) (by decide)
            have hld : l < ds.length := Nat.lt_of_le_of_lt hle.2 hj9
            have hlk : l ≤ 900 := Nat.le_trans (Nat.le_of_lt hld) hd900
            obtain ⟨tl, htl⟩ := ints_at hz4 (hz49.symm ▸ hi3) hl
            refine letG ?_
            intro G9
            obtain ⟨aB, usB, kB, hvB, hmB, hiB⟩ := hrw (i1 + 1 + i2) hj9
            dsimp only [G9]
            clear G9
            refine letG ?_
            intro G9
            obtain ⟨aL, usL, kL, hvL, hmL, hiL⟩ := hrw l hld
            dsimp only [G9]
            clear G9
            have hlB := hrow9 (i1 + 1 + i2) hj9
            have hlL := hrow9 l hld
            have go := GoI.mk
            k_steps
            refine Hold.mk (item_lstN (vs := cv) (n := ck) (v := .ref aB) (by assumption) (by k_mem) hj9k hvB ?_)
            k_steps
            refine Hold.mk (item_lstN (vs := cC.ls) (n := cC.n) (v := .int l tl) (by assumption) (by k_mem) hi3k htl ?_)
            k_steps
            refine Hold.mk (item_lstN (vs := cv) (n := ck) (v := .ref aL) (by assumption) (by k_mem) hlk hvL ?_)
            k_steps
            · rename ((cols.getD (i1 + 1 + i2) []).getD _ 0 < (cols.getD l []).getD _ 0) => hlt9
              replace hlt9 : gC (cols.getD (i1 + 1 + i2) []) i3 < gC (cols.getD l []) i3 := hlt9
              rw [if_pos hlt9] at hst
              have hcom := pair_low hinv (lt_add1 i1 i2) hj9 hi3 hst
              obtain ⟨th, hth⟩ := hJ.at (home_at hj9)
              rw [hcom] at hth
              rename IntsAre (List.set _ _ _) _ => hI9
              have hll := hz4.length
              refine Hold.mk (item_lstN (vs := cC.ls.set ((i3 : Nat) : Int).toNat (.int ((i1 + 1 + i2 : Nat) : Int) t2)) (n := cC.n) (v := .int ((i1 + 1 + i2 : Nat) : Int) t2) (by assumption) (by k_mem) hi3k ?zx ?_)
              case zx => exact List.getElem?_set_self (by rw [hll, hz49]; exact hi3)
              k_steps
              refine Hold.mk (item_lstN (vs := yh) (n := yh.length) (v := .str (comS (pth (ds.getD i1 [])) (pth (ds.getD (i1 + 1 + i2) []))) th) (by assumption) (by k_mem) hj9k hth ?_)
              k_steps
              · rename ((_ != _) = true) => hq9
                rw [bne_self_eq_false] at hq9
                cases hq9
              · rename Fr _ _ _ _ => F24
                rename News _ _ _ _ => N24
                refine jn_fin F24 N24 ⟨_, cC.o6, _, some (.int ((i1 + 1 + i2 : Nat) : Int) t2), _, _, cC.zs.set i3 ((i1 + 1 + i2 : Nat) : Int)⟩ (all5 ?_ ?_ ?_ ?_ ?_) (fun p hp => hp) (off5 hI3) ⟨⟨⟨by assumption, d46, hI9, by rw [List.length_set]; exact hz49⟩, rfl⟩, hlw.put hz49 hi3 hst⟩
                · rfl
                · rfl
                · rfl
                · rfl
                · rfl
            · rename (¬ (cols.getD (i1 + 1 + i2) []).getD _ 0 < (cols.getD l []).getD _ 0) => hlt9
              replace hlt9 : ¬ gC (cols.getD (i1 + 1 + i2) []) i3 < gC (cols.getD l []) i3 := hlt9
              rw [if_neg hlt9] at hst
              have hcom := pair_low hinv (lt_add1 i1 i2) hj9 hi3 hst
              obtain ⟨th, hth⟩ := hJ.at (home_at hld)
              rw [hcom] at hth
              refine Hold.mk (item_lstN (vs := cC.ls) (n := cC.n) (v := .int l tl) (by assumption) (by k_mem) hi3k htl ?_)
              k_steps
              refine Hold.mk (item_lstN (vs := yh) (n := yh.length) (v := .str (comS (pth (ds.getD i1 [])) (pth (ds.getD (i1 + 1 + i2) []))) th) (by assumption) (by k_mem) hlk hth ?_)
              k_steps
              · rename ((_ != _) = true) => hq9
                rw [bne_self_eq_false] at hq9
                cases hq9
              · rename Fr _ _ _ _ => F24
                rename News _ _ _ _ => N24
                refine jn_fin F24 N24 ⟨_, cC.o6, _, some (.int ((i1 + 1 + i2 : Nat) : Int) t2), cC.ls, cC.n, cC.zs⟩ (all5 ?_ ?_ ?_ ?_ ?_) (fun p hp => hp) (off5 hI3) ⟨⟨⟨by assumption, d46, hz4, hz49⟩, rfl⟩, hlw.keep hl hst⟩
                · rfl
                · rfl
                · rfl
                · rfl
                · rfl
          · intro cC m4 h4 tk4 hc4 F23 N23
            k_steps
            refine jn_fin F23 N23 cC (all4 ?_ ?_ ?_ ?_) (fun p hp => hp) (off4 hI2) ⟨hc4.1.1, hc4.2.done⟩
            · rfl
            · rfl
            · rfl
            · rfl
        · intro c2 m3 h3 tk3 hc3 F19 N19
          k_steps
          refine jn_fin F19 N19 ⟨c2.o5, c2.o6, c2.u5, c2.u6⟩ (all2 ?_ ?_) (fun p hp => List.mem_cons_of_mem _ hp) (offC hI1) ⟨hc3.1.1, hc3.1.2.1⟩
          · rfl
          · rfl
      · intro c1 m1 h1 tk1 hc1 F14 N14
        k_steps
        exact hqk _ _ _ F14 hgn rfl
  done)
end
end Mine
theorem PySem.Challenge.cw_pd0112_01_holds : PySem.Challenge.rw_pd0112_01.Holds := by
  exact Mine.law_walk
