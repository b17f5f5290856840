import PyProof.Rows.All
import Wide.All
import OpenK.AllK
import Wide.FinOn
import PySem.Challenge.RW_bq0016_01
set_option Elab.async false
set_option maxRecDepth 100000
set_option linter.all false
section
open PySem PySem.W PyProof.Rows
set_option maxRecDepth 100000
set_option maxHeartbeats 8000000
namespace Mine
open_top hd for PySem.Challenge.rw_bq0016_01
end Mine
end
section
open PySem PySem.W PyProof.Rows PySem.Calls
set_option maxRecDepth 100000
namespace Mine

abbrev prog : Program := PySem.Challenge.pw_bq0016_01
/-- the record of a def of the text -/
def recAt (i : Nat) : DefRec := (recsOf prog)[i]?.getD ⟨"", ⟨[], [], none, [], [], none, []⟩, [], { kind := .function, names := [], isGenerator := false, isCoroutine := false }, default⟩

/-- the next turn's start is reached -/
def Nxt (I : Nat → Shared → Prop) (n : Nat) (s : Shared) : Prop := ∃ m, m < n ∧ I m s
def Turn (J : Shared → Prop) (Q : Flow → Shared → Prop) (f : Flow) (s : Shared) : Prop := match f with
  | .next => J s
  | .cont => J s
  | .brk => Q .next s
  | .ret v => Q (.ret v) s
def NoE : Value → Shared → Prop := fun _ _ => False
local macro_rules | `(tactic| walk_at "mine go") => `(tactic| repeat' (first | walk1 | (dsimp only; walk1)))

theorem fr_same {h₀ h : Heap} {L : Addr} {m m' : Str → Option Value} (F : Fr h₀ L h m) (e : ∀ y, m y = m' y) : Fr h₀ L h m' := funext e ▸ F
local macro_rules | `(tactic| walk_at "mine same") => `(tactic| (intro y; (repeat' split) <;> first | rfl | (subst_vars; first | rfl | contradiction | (simp_all +decide; done))))

section
variable {w : World} {A : Around} {E : Value → Shared → Prop} {s : Shared} {env : Env}
theorem while_rule {test : PySem.Expr} {body : List Stmt} {pos : Pos} {Q : Flow → Shared → Prop} (I : Nat → Shared → Prop)
    (turn : ∀ n s, I n s → wpAny (model prog w) A (isTrue test env (eval test env)) (fun b s₂ =>
      if b = true then wpAny (model prog w) A (execs body env) (Turn (Nxt I n) Q) NoE s₂ else Q .next s₂) NoE s)
    (n : Nat) (h : I n s) : wpAny (model prog w) A (exec (.While test body [] pos) env) Q E s := by
  refine wpAny_While (codeAny_whileLoop I (fun n s hI => wpAny_mono (turn n s hI) (fun b s₂ h₂ => ?_) fun _ _ e => e.elim) n h)
  cases b with
  | false => exact wpAny_execs_nil h₂
  | true =>
    refine wpAny_mono (show wpAny (model prog w) A (execs body env) (Turn (Nxt I n) Q) NoE s₂ from h₂) (fun f s₃ h₃ => ?_) fun _ _ e => e.elim
    cases f <;> exact h₃

def noughN (i : Nat) (p : Int) : Int := match i with
  | 0 => 0
  | n + 1 => if p.fmod 2 = 0 then 1 + noughN n (p.fdiv 2) else 0

theorem noughts_call {a : Addr} {o : Obj} {pm cd doc : Value} {place : Int} {tk : Tok} {Q : Value → Shared → Prop}
    (hroom : A.depth < recursionLimit)
    (ho : s.heap.get? a = some o) (hd : o.data = .func (docDef (recAt 1).name (recAt 1).params (recAt 1).body (recAt 1).scope pm cd doc))
    (hcd : s.heap.CodeRec cd (recAt 1).name) (hlim : s.heap.NoLimit)
    (h : ∀ h' tk' t, (∀ b o, s.heap.get? b = some o → h'.get? b = some o) → Q (.int (noughN 3 place) t) { s with heap := h', toks := tk' }) :
    wpAny (model prog w) A (call (.ref a) [.int place tk]) Q E s := by
  refine wpAny_call (call_pos_ret hroom ho hd hlim hcd (by rfl) (locs (by rfl)) (fun h₁ F => ?_) (by rfl) (by rfl) (by rfl) (by decide +kernel))
  have F : Fr s.heap s.heap.objs.size h₁ (fun y => if y = "place" then some (.int place tk) else none) := by
    have e : (fun x => List.lookup x ((List.map (fun x => x.arg) (recAt 1).params.args).zip [Value.int place tk]).reverse) = fun y : Str => if y = "place" then some (Value.int place tk) else none := by
      funext y
      show List.lookup y [(Str.ofString "place", Value.int place tk)] = _
      by_cases hy : y = Str.ofString "place"
      · subst hy; rfl
      · have hb : (y == Str.ofString "place") = false := by simpa using hy
        simp [List.lookup, hb, hy]
    rw [e] at F; exact F
  refine wpAny_execs_cons (wpAny_Assign_Name (wpAny_Constant_int (st F (fun h₂ F => ?_) (by rfl) (by rfl))))
  refine wpAny_execs_cons (while_rule
    (fun n s' => ∃ (h' : Heap) (tk' : Nat) (i p : Int) (ti tp : Tok), s' = { s with heap := h', toks := tk' } ∧ 0 ≤ i ∧ i ≤ 3 ∧ n = (3 - i).toNat ∧ i + noughN (3 - i).toNat p = noughN 3 place ∧
      Fr s.heap s.heap.objs.size h' (fun y => if y = "count" then some (.int i ti) else if y = "place" then some (.int p tp) else none)) ?_ 3 ?_)
  · rintro n s' ⟨h', tk', i, p, ti, tp, rfl, h0, h3, rfl, he, F'⟩
    clear F
    walk_at "mine go"
    · rename_i hi hp h₃ F₃ h₄ F₄
      refine ⟨(3 - (i + 1)).toNat, by omega, h₄, _, i + 1, p.fdiv 2, _, _, rfl, by omega, by omega, rfl, ?_, fr_same F₄ (by walk_at "mine same")⟩
      have e : (3 - i).toNat = (3 - (i + 1)).toNat + 1 := by omega
      rw [e, noughN, if_pos hp] at he
      omega
    · rename_i hi hp
      have e : (3 - i).toNat = (3 - (i + 1)).toNat + 1 := by omega
      rw [e, noughN, if_neg hp] at he
      have := h h' (tk' + 1 + 1 + 1 + 1) ti F'.keep
      rw [← he, Int.add_zero] at this
      exact this
    · rename_i hi
      have e : (3 - i).toNat = 0 := by omega
      rw [e, noughN] at he
      have := h h' (tk' + 1) ti F'.keep
      rw [← he, Int.add_zero] at this
      exact this
  · exact ⟨h₂, _, 0, place, _, _, rfl, by omega, by omega, rfl, by simp, F⟩
end
end Mine
end
section
open PySem PySem.W PyProof.Rows PySem.Calls
set_option maxRecDepth 100000
namespace Mine

/-- pairs of ints as keys -/
abbrev TK (w : World) : HeapKind prog w (List Int) := tupleKind (intKind prog w)

/-- the law's frame at L, its dict at T, since the heap hs -/
structure LA (w : World) (L T : Addr) (hs h : Heap) (m : Str → Option Value) (xs : List (List Int × Addr × Value)) : Prop where
  ns : h.Ns L m
  kb : ∀ b o, b ≠ L → b ≠ T → hs.get? b = some o → h.get? b = some o
  dict : h.DictOfH (TK w) T xs
  ne : L ≠ T

variable {w : World} {L T : Addr} {hs h h' : Heap} {m m' : Str → Option Value} {xs xs' : List (List Int × Addr × Value)}

theorem LA.start (hn : h.Ns L m) (hd : h.DictOfH (TK w) T xs) (ne : L ≠ T) : LA w L T h h m xs := ⟨hn, fun _ _ _ _ e => e, hd, ne⟩
theorem LA.same (X : LA w L T hs h m xs) (e : ∀ y, m y = m' y) : LA w L T hs h m' xs := funext e ▸ X

theorem key_kept {ks : List Int} {a : Addr} (x : (TK w).is h ks a) (k : ∀ o, (∀ es ep, o.data ≠ .dict es ep) → h.get? a = some o → h'.get? a = some o) : (TK w).is h' ks a := by
  obtain ⟨o, items, n, ho, hc, hd, hi⟩ := x
  exact ⟨o, items, n, k o (fun es ep e => by rw [hd] at e; cases e) ho, hc, hd, hi⟩
theorem dict_kept (x : h.DictOfH (TK w) T xs) (kT : ∀ o, h.get? T = some o → h'.get? T = some o)
    (k : ∀ b o, (∃ items n, o.data = .seq items n) → h.get? b = some o → h'.get? b = some o) : h'.DictOfH (TK w) T xs := by
  obtain ⟨o, es, ep, ho, hx, hd, he, hk, hn⟩ := x
  refine ⟨o, es, ep, kT o ho, hx, hd, he, fun x hx => ?_, hn⟩
  obtain ⟨o', items, n, ho', hc, hd', hi⟩ := hk x hx
  exact ⟨o', items, n, k _ _ ⟨items, n, hd'⟩ ho', hc, hd', hi⟩
theorem LA.set (X : LA w L T hs h m xs) (hn : h'.Ns L m') (hsb : Heap.SameBut L h h') : LA w L T hs h' m' xs := by
  refine ⟨hn, fun b o hL hT e => (hsb.2 b hL).trans (X.kb b o hL hT e), dict_kept X.dict (fun o e => (hsb.2 T (Ne.symm X.ne)).trans e) fun b o hq e => ?_, X.ne⟩
  obtain ⟨oL, es, ep, hoL, hdL, _⟩ := X.ns
  have : b ≠ L := by
    rintro rfl
    rw [hoL] at e; cases e
    obtain ⟨items, n, hq⟩ := hq
    rw [hdL] at hq; cases hq
  exact (hsb.2 b this).trans e
theorem LA.ext (X : LA w L T hs h m xs) (k : ∀ b o, h.get? b = some o → h'.get? b = some o) : LA w L T hs h' m xs :=
  ⟨X.ns.keeps k, fun b o a c e => k b o (X.kb b o a c e), dict_kept X.dict (fun o e => k T o e) (fun b o _ e => k b o e), X.ne⟩
theorem LA.put (X : LA w L T hs h m xs) (hd : h'.DictOfH (TK w) T xs') (hsb : Heap.SameBut T h h') : LA w L T hs h' m xs' :=
  ⟨X.ns.sameBut hsb X.ne, fun b o a c e => (hsb.2 b c).trans (X.kb b o a c e), hd, X.ne⟩
/-- an object that is no dict lies where it lay -/
theorem LA.get (X : LA w L T hs h m xs) (S : LA w L T hs hs m' xs') {b : Addr} {o : Obj} (e : hs.get? b = some o) (hd : ∀ es ep, o.data ≠ .dict es ep) : h.get? b = some o := by
  refine X.kb b o ?_ ?_ e
  · rintro rfl
    obtain ⟨oL, es, ep, hoL, hdL, _⟩ := S.ns
    rw [hoL] at e; cases e
    exact hd _ _ hdL
  · rintro rfl
    obtain ⟨oT, es, ep, hoT, _, hdT, _⟩ := S.dict
    rw [hoT] at e; cases e
    exact hd _ _ hdT

abbrev lawEnv (L fa : Addr) (cd : Value) : Env := envOfC (recAt 2).name (recAt 2).scope L fa cd

section
variable {M : Model} {A : Around} {E : Value → Shared → Prop} {s : Shared} {fa : Addr} {cd : Value}
theorem la_ld {x : Str} {pos : Pos} {v : Value} {Q : Value → Shared → Prop} (X : LA w L T hs s.heap m xs) (hv : m x = some v) (h : Q v s)
    (hl : (lawEnv L fa cd).kindOf x = some .local := by rfl) (hd : (x == ("__debug__" : Str)) = false := by decide) :
    wpAny M A (eval (.Name x pos) (lawEnv L fa cd)) Q E s := wpAny_Name (wpAny_loadName_local (by rfl) hl X.ns hv h) hd
theorem la_st {x : Str} {v : Value} {Q : Unit → Shared → Prop} (X : LA w L T hs s.heap m xs)
    (h : ∀ h', LA w L T hs h' (fun y => if y = x then some v else m y) xs → Q () { s with heap := h', toks := s.toks + 1 })
    (hl : (lawEnv L fa cd).kindOf x = some .local := by rfl) : wpAny M A (storeName (lawEnv L fa cd) x v) Q E s :=
  wpAny_storeName_local hl X.ns (fun h' hn hs => h h' (X.set hn hs)) (by rfl)
theorem la_glob {x : Str} {pos : Pos} {v : Value} {mg : Str → Option Value} {Q : Value → Shared → Prop} (hg : s.heap.Ns mainGlobals mg) (hv : mg x = some v) (h : Q v s)
    (hl : (lawEnv L fa cd).kindOf x = some .globalImplicit := by rfl) (hd : (x == ("__debug__" : Str)) = false := by decide) :
    wpAny M A (eval (.Name x pos) (lawEnv L fa cd)) Q E s := Name_function_global (by rfl) hl (loadGlobal_global (env := lawEnv L fa cd) hg hv h) hd
theorem la_tuple {vs : List Value} {Q : Value → Shared → Prop} (X : LA w L T hs s.heap m xs)
    (h : ∀ D h', LA w L T hs h' m xs → IsTup h' D vs.toArray → Q (.ref D) { s with heap := h' }) (hsz : vs.length ≤ sizeLine := by size_fits) :
    wpAny M A (newTuple vs) Q E s :=
  wpAny_newObj_type (h _ _ (X.ext fun b o e => Heap.get?_push_of_some _ e) ⟨_, Heap.get?_push_size _ rfl, rfl, 0, rfl⟩) (by show vs.toArray.size ≤ sizeLine; rw [List.size_toArray]; exact hsz)
theorem key_of {D : Addr} {a b : Int} {t u : Tok} (x : IsTup h D [Value.int a t, .int b u].toArray) : (TK w).is h [a, b] D := by
  obtain ⟨o, ho, hc, n, hd⟩ := x
  exact ⟨o, _, n, ho, hc, hd, .cons (intKind_is _ _ _ _) (.cons (intKind_is _ _ _ _) .nil)⟩
end
section
variable {A : Around} {E : Value → Shared → Prop} {s : Shared} {fa : Addr} {cd : Value}
theorem la_items {t : Addr} {items : Array Value} {n : Nat} {Q : List Value → Shared → Prop} (X : LA w L T hs s.heap m xs) (ht : IsTup s.heap t items) (hh : A.handled = none) (hn : n = items.size)
    (h : ∀ h', LA w L T hs h' m xs → Q items.toList { s with heap := h' }) : wpAny (model prog w) A (unpackItems (.ref t) n none) Q E s := by
  subst hn
  exact unpackItems_tuple hh ht fun h' he => h h' (X.ext fun b o e => he b o (Nat.ne_of_lt (Heap.lt_size e)) e)
theorem la_in {D : Addr} {a b : Int} {t u : Tok} {Q : Value → Shared → Prop} (X : LA w L T hs s.heap m xs) (hk : IsTup s.heap D [Value.int a t, .int b u].toArray) (hu : A.units + 1 < cLine) (hT : (T == sysModules) = false)
    (h : Q (.bool (atKey xs [a, b]).isSome) { s with toks := s.toks + 3 }) : wpAny (model prog w) A (compareOp .In (.ref D) (.ref T)) Q E s :=
  wpAny_in_heap (knd := TK w) hu (key_of hk) hT X.dict h
theorem la_setItem {D : Addr} {a b : Int} {t u : Tok} {v : Value} {Q : Unit → Shared → Prop} (X : LA w L T hs s.heap m xs) (hk : IsTup s.heap D [Value.int a t, .int b u].toArray) (hu : A.units + 1 < cLine) (hn : atKey xs [a, b] = none)
    (hsz : xs.length ≤ sizeLine) (h : ∀ h', LA w L T hs h' m (xs ++ [([a, b], D, v)]) → Q () { s with heap := h', toks := s.toks + 3 }) : wpAny (model prog w) A (setItem (.ref T) (.ref D) v) Q E s :=
  wpAny_setItem_heap (knd := TK w) hu (key_of hk) X.dict (fun h' hd hs => h h' (X.put (storedH_new hn D v ▸ hd) hs)) hsz
theorem la_sub {value slice : PySem.Expr} {N : Addr} {items : Array Value} {k : Int} {u : Tok} {v : Value} {Q : Value → Shared → Prop} (hL : s.heap.IsList N items) (h0 : 0 ≤ k) (hhi : k < 2 ^ 63) (hx : items[k.toNat]? = some v) (h : Q v s)
    (hs : subscripted slice false (.ref N) (.int k u) = operate [.ref N, .int k u] (getItem (.ref N) (.int k u)) := by with_unfolding_all rfl) :
    wpAny (model prog w) A (subscriptTail value slice (.ref N) (.int k u)) Q E s :=
  tail_any hL.typeIs slot_list_getitem.lookup (wpAny_getItem_list hL h0 hhi hx h) hs
end
end Mine
end
section
open PySem PySem.W PyProof.Rows PySem.Calls
set_option maxRecDepth 100000
namespace Mine
def bodyFor : Stmt → List Stmt
  | .For _ _ b _ _ => b
  | _ => []
def stAt (l : List Stmt) (i : Nat) : Stmt := l[i]?.getD (.Pass default)
def loop1 : List Stmt := bodyFor (stAt (recAt 2).body 6)
def loop2 : List Stmt := bodyFor (stAt loop1 1)
def loop3 : List Stmt := bodyFor (stAt loop2 2)

/-- what the top laid, at a heap -/
structure TopAt (mg : Str → Option Value) (aN : Addr) (B0 : Nat) (h : Heap) : Prop where
  g : h.Ns mainGlobals mg
  gl : mainGlobals < B0
  cl : cStatics < B0
  lim : h.NoLimit
  fN : mg "_law_noughts" = some (.ref aN)
  noughts : ∃ o pm cd doc, h.get? aN = some o ∧ o.data = .func (docDef (recAt 1).name (recAt 1).params (recAt 1).body (recAt 1).scope pm cd doc) ∧ h.CodeRec cd (recAt 1).name ∧ aN < B0 ∧ ∀ c, cd = .ref c → c < B0
theorem noLimit_at {h h' : Heap} (x : h.NoLimit) (k : ∀ o, h.get? cStatics = some o → h'.get? cStatics = some o) : h'.NoLimit := let ⟨mc, hn, e⟩ := x; ⟨mc, hn.at' k, e⟩
theorem TopAt.kept {mg : Str → Option Value} {aN : Addr} {B0 : Nat} {h h' : Heap} (X : TopAt mg aN B0 h) (k : ∀ b o, b < B0 → h.get? b = some o → h'.get? b = some o) : TopAt mg aN B0 h' := by
  obtain ⟨o, pm, cd, doc, h1, h2, h3, h4, h5⟩ := X.noughts
  refine ⟨X.g.at' fun o e => k _ o X.gl e, X.gl, X.cl, noLimit_at X.lim fun o e => k _ o X.cl e, X.fN, o, pm, cd, doc, k _ _ h4 h1, h2, ?_, h4, h5⟩
  obtain ⟨c, oc, vs, tq, e1, e2, e3⟩ := h3
  exact ⟨c, oc, vs, tq, e1, k _ _ (h5 c e1) e2, e3⟩

/-- what is so throughout the law's call -/
structure Gd (A : Around) (L T : Addr) (B0 : Nat) : Prop where
  room : A.depth < recursionLimit
  hh : A.handled = none
  units : A.units + 1 < cLine
  lo : B0 ≤ L
  lt : B0 ≤ T
  t : (T == sysModules) = false
section
variable {w : World} {A : Around} {L T C N fa : Addr} {cd : Value} {hs h : Heap} {m m0 : Str → Option Value} {xs xs0 : List (List Int × Addr × Value)} {s : Shared} {mg : Str → Option Value} {aN : Addr} {B0 : Nat} {E : Value → Shared → Prop}
theorem LA.top (X : LA w L T hs h m xs) (G : Gd A L T B0) (P : TopAt mg aN B0 hs) : TopAt mg aN B0 h :=
  P.kept fun b o hb e => X.kb b o (Nat.ne_of_lt (Nat.lt_of_lt_of_le hb G.lo)) (Nat.ne_of_lt (Nat.lt_of_lt_of_le hb G.lt)) e
theorem la_fn {pos : Pos} {Q : Value → Shared → Prop} (X : LA w L T hs s.heap m xs) (G : Gd A L T B0) (P : TopAt mg aN B0 hs) (h : Q (.ref aN) s) :
    wpAny (model prog w) A (eval (.Name "_law_noughts" pos) (lawEnv L fa cd)) Q E s := la_glob (X.top G P).g P.fN h
theorem la_callW {pos : Pos} {env : Env} {e : PySem.Expr} {rest : List PySem.Expr} {Q : Value → Shared → Prop} (G : Gd A L T B0) (P : TopAt mg aN B0 hs)
    (h : wpAny (model prog w) A (spliced (backTo pos (starEach (e :: rest) env))) (fun vs s₁ => (∃ m' xs', LA w L T hs s₁.heap m' xs') ∧ wpAny (model prog w) A (call (.ref aN) vs) Q E s₁) E s)
    (he : starEach (e :: rest) env = (false, eval e env) :: starEach rest env := by rfl) :
    wpAny (model prog w) A (callWith pos (.ref aN) [] (backTo pos (starEach (e :: rest) env)) []) Q E s := by
  obtain ⟨o, pm, cd, doc, h1, h2, h3, h4, h5⟩ := P.noughts
  refine callWith_def_at h1 h2 (wpAny_mono h (fun x s₁ q => ⟨?_, q.2⟩) fun _ _ e => e) he
  obtain ⟨⟨m', xs', X⟩, _⟩ := q
  exact X.kb _ _ (Nat.ne_of_lt (Nat.lt_of_lt_of_le h4 G.lo)) (Nat.ne_of_lt (Nat.lt_of_lt_of_le h4 G.lt)) h1
theorem la_noughts {place : Int} {tk : Tok} {Q : Value → Shared → Prop} (X : LA w L T hs s.heap m xs) (G : Gd A L T B0) (P : TopAt mg aN B0 hs)
    (h : ∀ h' tk' t, LA w L T hs h' m xs → Q (.int (noughN 3 place) t) { s with heap := h', toks := tk' }) :
    wpAny (model prog w) A (call (.ref aN) [.int place tk]) Q E s := by
  obtain ⟨o, pm, cd, doc, h1, h2, h3, h4, h5⟩ := (X.top G P).noughts
  exact noughts_call G.room h1 h2 h3 (X.top G P).lim fun h' tk' t k => h h' tk' t (X.ext k)

theorem LA.list (X : LA w L T hs h m xs) (S : LA w L T hs hs m0 xs0) {a : Addr} {items : Array Value} (hl : hs.IsList a items) : h.IsList a items := by
  obtain ⟨o, ho, hc, n, hd⟩ := hl
  exact ⟨o, X.get S ho (fun es ep e => by rw [hd] at e; cases e), hc, n, hd⟩
theorem la_inN {D : Addr} {a b : Int} {t u : Tok} {Q : Value → Shared → Prop} (X : LA w L T hs s.heap m xs) (hk : IsTup s.heap D [Value.int a t, .int b u].toArray) (G : Gd A L T B0) (hn : atKey xs [a, b] = none)
    (h : Q (.bool false) { s with toks := s.toks + 3 }) : wpAny (model prog w) A (compareOp .In (.ref D) (.ref T)) Q E s :=
  la_in X hk G.units G.t (by rw [hn]; exact h)
theorem la_num {value slice : PySem.Expr} {items : Array Value} {k : Int} {u : Tok} {v : Value} {Q : Value → Shared → Prop} (X : LA w L T hs s.heap m xs) (S : LA w L T hs hs m0 xs0) (hL : hs.IsList N items) (h0 : 0 ≤ k) (hhi : k < 2 ^ 63) (hx : items[k.toNat]? = some v) (h : Q v s)
    (hs : subscripted slice false (.ref N) (.int k u) = operate [.ref N, .int k u] (getItem (.ref N) (.int k u)) := by with_unfolding_all rfl) :
    wpAny (model prog w) A (subscriptTail value slice (.ref N) (.int k u)) Q E s := la_sub (X.list S hL) h0 hhi hx h hs

local macro_rules | `(tactic| walk_at "eval Name") => `(tactic| first | (refine la_ld (by assumption) (by first | rfl | assumption) ?_) | refine la_fn (by assumption) (by assumption) (by assumption) ?_)
local macro_rules | `(tactic| walk_at "storeName") => `(tactic| (refine la_st (by assumption) ?_; intro _ _))
local macro_rules | `(tactic| walk_at "newTuple") => `(tactic| (refine la_tuple (by assumption) ?_; intro _ _ _ _))
local macro_rules | `(tactic| walk_at "unpackItems") => `(tactic| (refine la_items (by assumption) (by assumption) (Gd.hh (by assumption)) rfl ?_; intro _ _))
local macro_rules | `(tactic| walk_at "callWith ref") => `(tactic| refine la_callW (by assumption) (by assumption) ?_)
local macro_rules | `(tactic| walk_at "call ref") => `(tactic| (refine la_noughts (by assumption) (by assumption) (by assumption) ?_; intro _ _ _ _))
local macro_rules | `(tactic| walk_at "Exists") => `(tactic| (exact ⟨_, _, by assumption⟩))
local macro_rules | `(tactic| walk_at "compareOp In") => `(tactic| (refine la_inN (by assumption) (by assumption) (by assumption) (by assumption) ?_))
local macro_rules | `(tactic| walk_at "subscriptTail") => `(tactic| (refine la_num (by assumption) (by assumption) (by assumption) (by assumption) (by assumption) (by assumption) ?_))
local macro_rules | `(tactic| walk_at "setItem") => `(tactic| (refine la_setItem (by assumption) (by assumption) (Gd.units (by assumption)) (by assumption) (by assumption) ?_; intro _ _))
local macro_rules | `(tactic| walk_at "mine go") => `(tactic| repeat' (first | walk1 | (dsimp only; walk1)))

set_option maxHeartbeats 4000000 in
theorem body3_hit {c x y st k num : Int} {tc tx ty ts tk tn : Tok} {items : Array Value} {J : Shared → Prop} {Q : Flow → Shared → Prop}
    (X : LA w L T hs s.heap m xs) (S : LA w L T hs hs m0 xs0) (G : Gd A L T B0) (P : TopAt mg aN B0 hs) (hN : hs.IsList N items) (hx : items[k.toNat]? = some (.int num tn))
    (h1 : m "column" = some (.int c tc)) (h2 : m "x" = some (.int x tx)) (h3 : m "y" = some (.int y ty)) (h4 : m "step" = some (.int st ts)) (h5 : m "told" = some (.ref T))
    (h6 : m "numbers" = some (.ref N)) (h7 : m "at" = some (.int k tk)) (hst : st ≠ 0) (h0k : 0 ≤ k) (hk : k < 2 ^ 63) (hsz : xs.length ≤ sizeLine)
    (g1 : x ≤ c) (g2 : (c - x).fmod st = 0) (g3 : atKey xs [c, y] = none) (g4 : noughN 3 y ≤ noughN 3 c → num = 7 - 2 * noughN 3 y) (g5 : ¬ noughN 3 y ≤ noughN 3 c → num = 6 - 2 * noughN 3 c)
    (hJ : ∀ h' tk' m' D, LA w L T hs h' m' (xs ++ [([c, y], D, .bool true)]) → (∀ z : Str, z ≠ "across" → z ≠ "down" → z ≠ "due" → m' z = m z) → J { s with heap := h', toks := tk' }) :
    wpAny (model prog w) A (execs loop3 (lawEnv L fa cd)) (Turn J Q) NoE s := by
  unfold loop3
  walk_at "mine go"
  all_goals first
    | (exfalso; omega)
    | exact hJ _ _ _ _ (by assumption) (fun z a b c => by simp only [if_neg a, if_neg b, if_neg c])
/-- a way that the facts at hand shut -/
def Shut (c x st : Int) : Prop := x ≤ c → (c - x).fmod st ≠ 0
theorem Shut.no {c x st : Int} (g : Shut c x st) (a : x ≤ c) (b : (c - x).fmod st = 0) : False := g a b
section
local macro_rules | `(tactic| walk_at "execs cons") => `(tactic| exact (Shut.no (by assumption) (by assumption) (by assumption)).elim)
set_option maxHeartbeats 4000000 in
theorem body3_miss {c x y st : Int} {tc tx ty ts : Tok} {J : Shared → Prop} {Q : Flow → Shared → Prop}
    (X : LA w L T hs s.heap m xs)
    (h1 : m "column" = some (.int c tc)) (h2 : m "x" = some (.int x tx)) (h3 : m "y" = some (.int y ty)) (h4 : m "step" = some (.int st ts)) (hst : st ≠ 0)
    (g : Shut c x st) (hJ : ∀ tk', J { s with toks := tk' }) :
    wpAny (model prog w) A (execs loop3 (lawEnv L fa cd)) (Turn J Q) NoE s := by
  unfold loop3
  walk_at "mine go"
  all_goals exact hJ _
end
end
end Mine
end
section
open PySem PySem.W PyProof.Rows PySem.Calls
set_option maxRecDepth 100000
namespace Mine
section
variable {w : World} {A : Around} {L T C N fa I : Addr} {cd : Value} {hs h h' h₀ h₁ h₂ : Heap} {m m' m0 : Str → Option Value} {xs xs' xs0 : List (List Int × Addr × Value)} {s : Shared} {mg : Str → Option Value} {aN : Addr} {B0 : Nat} {E : Value → Shared → Prop}

theorem for_rule {env : Env} {target iter : PySem.Expr} {body : List Stmt} {pos : Pos} {Q : Flow → Shared → Prop}
    (h : wpAny (model prog w) A (eval iter env) (fun x s₁ => wpAny (model prog w) A (pyIter x) (fun it s₂ => ∃ (I : Nat → Shared → Prop) (n : Nat), I n s₂ ∧ ∀ n s, I n s →
      wpAny (model prog w) A (pyNext it) (fun r s₁ => match r with
        | none => Q .next s₁
        | some v => wpAny (model prog w) A (letOwnedTupleGo target it v) (fun _ s₁' => wpAny (model prog w) A (assign target env v) (fun _ s₂ =>
            wpAny (model prog w) A (execs body env) (Turn (Nxt I n) Q) NoE s₂) NoE s₁') NoE s₁) NoE s) NoE s₁) NoE s)
    (hs : ∀ x, foldedSetIterable iter env x = pure x := by intro _; rfl) :
    wpAny (model prog w) A (exec (.For target iter body [] pos) env) Q E s := by
  refine wpAny_For (wpAny_mono h (fun x s₁ h₁ => wpAny_mono h₁ (fun it s₂ h₂ => ?_) fun _ _ e => e.elim) fun _ _ e => e.elim) hs
  obtain ⟨I, n, h0, turn⟩ := h₂
  refine codeAny_forLoop_any I (fun n s hI => wpAny_mono (turn n s hI) (fun r s₁ q => ?_) fun _ _ e => e.elim) n h0
  cases r with
  | none => exact wpAny_execs_nil q
  | some v =>
    refine wpAny_mono q (fun _ s₁' q => wpAny_mono q (fun _ s₂ q => wpAny_mono q (fun f s₃ q => ?_) fun _ _ e => e.elim) fun _ _ e => e.elim) fun _ _ e => e.elim
    cases f <;> exact q

theorem LA.trans (X : LA w L T h₀ h₁ m xs) (Y : LA w L T h₁ h₂ m' xs') : LA w L T h₀ h₂ m' xs' := ⟨Y.ns, fun b o a c e => Y.kb b o a c (X.kb b o a c e), Y.dict, Y.ne⟩
theorem LA.now (X : LA w L T hs h m xs) : LA w L T h h m xs := .start X.ns X.dict X.ne
/-- a record that is not of hs is turned -/
theorem LA.aside (X : LA w L T hs h m xs) (hf : ∃ o vs, h.get? I = some o ∧ o.data = .fields vs) (hI : hs.get? I = none) (he : ∀ b o, b ≠ I → h.get? b = some o → h'.get? b = some o) : LA w L T hs h' m xs := by
  obtain ⟨oI, vs, hoI, hdI⟩ := hf
  obtain ⟨oL, es, ep, hoL, hdL, _⟩ := id X.ns
  obtain ⟨oT, esT, epT, hoT, _, hdT, _⟩ := id X.dict
  have hL : L ≠ I := by rintro rfl; rw [hoI] at hoL; cases hoL; rw [hdI] at hdL; cases hdL
  have hT : T ≠ I := by rintro rfl; rw [hoI] at hoT; cases hoT; rw [hdI] at hdT; cases hdT
  refine ⟨X.ns.at' fun o e => he _ o hL e, fun b o a c e => he b o ?_ (X.kb b o a c e), dict_kept X.dict (fun o e => he _ o hT e) fun b o hq e => he b o ?_ e, X.ne⟩
  · rintro rfl; rw [hI] at e; cases e
  · rintro rfl
    rw [hoI] at e; cases e
    obtain ⟨items, n, hq⟩ := hq
    rw [hdI] at hq; cases hq

def hitB (x st c : Int) : Bool := decide (x ≤ c) && decide ((c - x).fmod st = 0)
def hitK (x st y : Int) (cs : List Int) : List (List Int) := (cs.filter (hitB x st)).map fun c => [c, y]
def dueOf (c y : Int) : Int := if noughN 3 y ≤ noughN 3 c then 7 - 2 * noughN 3 y else 6 - 2 * noughN 3 c
theorem hitK_take {x st y : Int} {cs : List Int} {i : Nat} {c : Int} (e : cs[i]? = some c) : hitK x st y (cs.take (i + 1)) = hitK x st y (cs.take i) ++ if hitB x st c = true then [[c, y]] else [] := by
  unfold hitK
  rw [List.take_add_one, e]
  by_cases hc : hitB x st c = true <;> simp [hc]
theorem atKey_none_iff {ks : List Int} : atKey xs ks = none ↔ ks ∉ xs.map (·.1) := by
  unfold atKey
  rw [Option.map_eq_none_iff, List.find?_eq_none]
  constructor
  · rintro h hm
    obtain ⟨x, hx, e⟩ := List.mem_map.mp hm
    exact h x hx (by simpa using e)
  · intro h x hx e
    exact h (List.mem_map.mpr ⟨x, hx, by simpa using e⟩)

set_option maxHeartbeats 4000000 in
theorem for3 {cs : List Int} {cvs : List Value} {x y st k num : Int} {tx ty ts tk tn : Tok} {items : Array Value} {Q : Flow → Shared → Prop}
    (S : LA w L T s.heap s.heap m xs) (G : Gd A L T B0) (P : TopAt mg aN B0 s.heap) (hN : s.heap.IsList N items) (hx : items[k.toNat]? = some (.int num tn)) (hC : s.heap.IsList C cvs.toArray) (hcs : IntsAre cvs cs)
    (h1 : m "columns" = some (.ref C)) (h2 : m "x" = some (.int x tx)) (h3 : m "y" = some (.int y ty)) (h4 : m "step" = some (.int st ts)) (h5 : m "told" = some (.ref T))
    (h6 : m "numbers" = some (.ref N)) (h7 : m "at" = some (.int k tk)) (hst : st ≠ 0) (h0k : 0 ≤ k) (hk : k < 2 ^ 63) (hsz : xs.length + cs.length ≤ sizeLine)
    (hnew : ∀ c ∈ cs, hitB x st c = true → [c, y] ∉ xs.map (·.1)) (hnd : cs.Nodup) (hdue : ∀ c ∈ cs, hitB x st c = true → num = dueOf c y)
    (hQ : ∀ h' tk' m' xs', LA w L T s.heap h' m' xs' → (∀ z : Str, z ≠ "column" → z ≠ "across" → z ≠ "down" → z ≠ "due" → m' z = m z) → xs'.map (·.1) = xs.map (·.1) ++ hitK x st y cs → Q .next { s with heap := h', toks := tk' }) :
    wpAny (model prog w) A (exec (stAt loop2 2) (lawEnv L fa cd)) Q E s := by
  refine for_rule (la_ld S h1 (wpAny_pyIter_list hC ?_))
  refine ⟨fun n s' => ∃ i h' tk' m' xs', n = cs.length - i ∧ i ≤ cs.length ∧ s' = { s with heap := h', toks := tk' } ∧ LA w L T s.heap h' m' xs' ∧
    (∀ z : Str, z ≠ "column" → z ≠ "across" → z ≠ "down" → z ≠ "due" → m' z = m z) ∧ xs'.map (·.1) = xs.map (·.1) ++ hitK x st y (cs.take i) ∧ h'.IsListIter s.heap.objs.size C i, cs.length,
    ⟨0, _, _, m, xs, by simp, Nat.zero_le _, rfl, S.ext fun b o e => Heap.get?_push_of_some _ e, fun _ _ _ _ _ => rfl, by simp [hitK], ⟨_, Heap.get?_push_size _ rfl, rfl, rfl⟩⟩, ?_⟩
  rintro n s' ⟨i, h', tk', m', xs', rfl, hi, rfl, X, hm, hxs, hit⟩
  have hI0 : s.heap.get? s.heap.objs.size = none := by
    cases e : s.heap.get? s.heap.objs.size with
    | none => rfl
    | some o => exact absurd (Heap.lt_size e) (Nat.lt_irrefl _)
  have hitf : ∃ o vs, h'.get? s.heap.objs.size = some o ∧ o.data = .fields vs := let ⟨o, ho, _, hd⟩ := hit; ⟨o, _, ho, hd⟩
  have hC' : h'.IsList C cvs.toArray := X.list S hC
  by_cases hlt : i < cs.length
  · have hci : cs[i]? = some cs[i] := by simp [hlt]
    generalize hc : cs[i] = c at hci
    have hcm : c ∈ cs := List.mem_of_getElem? hci
    obtain ⟨tc, hv⟩ := hcs.get i c hci
    refine wpAny_pyNext_list_item hit hC' (x := .int c tc) (by simpa using hv) fun h₁ hit₁ hs₁ => ?_
    have X₁ : LA w L T s.heap h₁ m' xs' := X.aside hitf hI0 fun b o hb e => hs₁.extBut b o hb e
    refine wpAny_of_eq rfl (wpAny_assign_Name ?_)
    refine la_st X₁.now fun h₂ Y => ?_
    have X₂ := X₁.trans Y
    have hit₂ : h₂.IsListIter s.heap.objs.size C (i + 1) := let ⟨o, ho, hc, hd⟩ := hit₁; ⟨o, Y.get X₁.now ho (fun es ep e => by rw [hd] at e; cases e), hc, hd⟩
    have ne : ∀ z : Str, z ≠ "column" → (fun y : Str => if y = "column" then some (Value.int c tc) else m' y) z = m' z := fun z hz => if_neg hz
    have ex : ∀ z : Str, z ≠ "column" → z ≠ "across" → z ≠ "down" → z ≠ "due" → ∀ {v}, m z = v → (fun y : Str => if y = "column" then some (Value.int c tc) else m' y) z = v := fun z a b c d v e => (ne z a).trans ((hm z a b c d).trans e)
    have hfresh : hitB x st c = true → [c, y] ∉ xs'.map (·.1) := by
      rw [hxs]
      intro hb hmem
      rcases List.mem_append.mp hmem with hmem | hmem
      · exact hnew c hcm hb hmem
      · obtain ⟨c', hc', e⟩ := List.mem_map.mp hmem
        have e' : c' = c := (List.cons.inj e).1
        subst e'
        obtain ⟨j, hj, hj'⟩ := List.getElem_of_mem (List.mem_filter.mp hc').1
        rw [List.length_take] at hj
        have hjl : j < cs.length := by omega
        rw [List.getElem_take] at hj'
        have := (List.getElem_inj (h₀ := hjl) (h₁ := hlt) hnd).mp (hj'.trans hc.symm)
        omega
    have hlen : xs'.length ≤ sizeLine := by
      have e := congrArg List.length hxs
      rw [List.length_map, List.length_append, List.length_map] at e
      have h8 : (hitK x st y (cs.take i)).length ≤ cs.length := by
        unfold hitK
        rw [List.length_map]
        exact Nat.le_trans (List.length_filter_le _ _) (by rw [List.length_take]; omega)
      omega
    by_cases hb : hitB x st c = true
    · have hb' := hb
      simp only [hitB, Bool.and_eq_true, decide_eq_true_eq] at hb'
      have hd := hdue c hcm hb
      refine body3_hit (num := num) (hs := h₂) (tx := tx) (ty := ty) (ts := ts) (tk := tk) (tc := tc) X₂.now X₂.now G (X₂.top G P) (X₂.list S hN) hx (if_pos rfl) (ex _ (by decide) (by decide) (by decide) (by decide) h2) (ex _ (by decide) (by decide) (by decide) (by decide) h3) (ex _ (by decide) (by decide) (by decide) (by decide) h4)
        (ex _ (by decide) (by decide) (by decide) (by decide) h5) (ex _ (by decide) (by decide) (by decide) (by decide) h6) (ex _ (by decide) (by decide) (by decide) (by decide) h7) hst h0k hk hlen hb'.1 hb'.2 (atKey_none_iff.mpr (hfresh hb))
        (fun q => by rw [hd, dueOf, if_pos q]) (fun q => by rw [hd, dueOf, if_neg q]) fun h₃ tk₃ m₃ D Z hm₃ => ?_
      refine ⟨cs.length - (i + 1), by omega, i + 1, h₃, tk₃, m₃, _, rfl, by omega, rfl, X₂.trans Z, fun z a b c d => ?_, ?_, ?_⟩
      · exact (hm₃ z b c d).trans ((ne z a).trans (hm z a b c d))
      · rw [List.map_append, hxs, hitK_take hci, if_pos hb, List.append_assoc]; rfl
      · obtain ⟨o, ho, hc, hd⟩ := hit₂
        exact ⟨o, Z.get X₂.now ho (fun es ep e => by rw [hd] at e; cases e), hc, hd⟩
    · refine body3_miss (tx := tx) (ty := ty) (ts := ts) (tc := tc) X₂.now (if_pos rfl) (ex _ (by decide) (by decide) (by decide) (by decide) h2) (ex _ (by decide) (by decide) (by decide) (by decide) h3) (ex _ (by decide) (by decide) (by decide) (by decide) h4) hst
        (fun q1 q2 => hb (by simp [hitB, q1, q2])) fun tk₃ => ?_
      refine ⟨cs.length - (i + 1), by omega, i + 1, h₂, tk₃, _, xs', rfl, by omega, rfl, X₂, fun z a b c d => (ne z a).trans (hm z a b c d), ?_, hit₂⟩
      rw [hxs, hitK_take hci, if_neg hb, List.append_nil]
  · have hie : i = cs.length := by omega
    subst hie
    refine wpAny_pyNext_list_end G.hh hit hC' (by simp [hcs.length]) fun h₁ he => ?_
    exact hQ h₁ tk' m' xs' (X.aside hitf hI0 fun b o hb e => he b o hb e) hm (by rw [hxs, List.take_length])
end
end Mine
end
section
open PySem PySem.W PyProof.Rows PySem.Calls
set_option maxRecDepth 100000
namespace Mine
/-- the heap is kept at some addresses -/
def KeepOn (l : List Addr) (h h' : Heap) : Prop := ∀ b ∈ l, ∀ o, h.get? b = some o → h'.get? b = some o
/-- only C and I turn, new objects come -/
def Since (wr : List Addr) (s₀ s : Shared) : Prop := ∃ h' tk, s = { s₀ with heap := h', toks := tk } ∧ ∀ b o, b ∉ wr → s₀.heap.get? b = some o → h'.get? b = some o
theorem Since.refl (wr : List Addr) (s : Shared) : Since wr s s := ⟨s.heap, s.toks, rfl, fun _ _ _ e => e⟩
theorem Since.step {wr : List Addr} {s₀ s : Shared} (x : Since wr s₀ s) {h' : Heap} {tk : Nat} (hk : ∀ b o, b ∉ wr → s.heap.get? b = some o → h'.get? b = some o) : Since wr s₀ { s with heap := h', toks := tk } := by
  obtain ⟨h₁, tk₁, rfl, hk₁⟩ := x
  exact ⟨h', tk, rfl, fun b o hb e => hk b o hb (hk₁ b o hb e)⟩

/-- C holds a namespace, I a record -/
def Kinds (C I : Addr) (h : Heap) : Prop := (∃ o es ep, h.get? C = some o ∧ o.data = .dict es ep) ∧ ∃ o vs, h.get? I = some o ∧ o.data = .fields vs
section
variable {w : World} {A : Around}
/-- the protocol of the lines: the line that is handed on when m are left -/
def LinesY (C I cx cs : Addr) (x st y0 ys : Int) (n₀ : Nat) : Protocol := fun m s₀ v s kap =>
  (∃ t tx ty ts, v = .ref t ∧ IsTup s.heap t #[.int x tx, .int (y0 + ((n₀ - 1 - m : Nat) : Int) * ys) ty, .int st ts] ∧ s₀.heap.get? t = none ∧ Kinds C I s.heap) ∧ Since [C, I] s₀ s ∧
    ∀ s'' : Shared, KeepOn [C, I, cx, cs] s.heap s''.heap → kap (.send .none) s''
def LinesR (C I : Addr) : GenEnd := fun n s₀ r s₁ => r = .ok .next ∧ (n = 0 ∧ Since [C, I] s₀ s₁)

theorem seg_bindw {M : Model} {R : GenEnd} {Y : Protocol} {n : Nat} {s₀ : Shared} {c : Code} {fs : List Frame} {s : Shared} {α β : Type} {m : Sem α} {K : α → Sem β} {K' : β → Sem Fin} {H' : Value → Sem Fin} {gd lv}
    (h : wpAny M (A.over c fs) m (fun a s' => Seg M A R Y n s₀ c ((K a).wrap K' H' gd lv) fs s') NoE s) : Seg M A R Y n s₀ c ((m >>= K).wrap K' H' gd lv) fs s :=
  seg_bind_wrap (wpAny_mono h (fun _ _ q => q) fun _ _ e => e.elim)

theorem seg_lines {iter : PySem.Expr} {px p1 p2 p3 p4 : Pos} {k4 : Nat} {scope : Scope} {pos : Pos} {C I cx cs : Addr} {x st y0 ys : Int} {tx ts : Tok} {n₀ : Nat} {cenv : Env}
    (hh : A.handled = none) (hC : cenv.locals = C) (hk : cenv.scope.kind = .function) (h1 : cenv.kindOf "y" = some .local) (h2 : cenv.kindOf "xstart" = some .free) (h3 : cenv.kindOf "xstep" = some .free)
    (h4 : cenv.cells.lookup (Str.ofString "xstart") = some cx) (h5 : cenv.cells.lookup (Str.ofString "xstep") = some cs) (hco : cenv.scope.isCoroutine = false) (hCI : C ≠ I) (hcxC : cx ≠ C) (hcxI : cx ≠ I) (hcsC : cs ≠ C) (hcsI : cs ≠ I) :
    ∀ (k : Nat) (s₀ s : Shared) (m : Str → Option Value), k ≤ n₀ → s.heap.Ns C m → IsRangeIter s.heap I (y0 + ((n₀ - k : Nat) : Int) * ys) k ys → s.heap.IsCell cx (some (.int x tx)) → s.heap.IsCell cs (some (.int st ts)) → Since [C, I] s₀ s →
      Seg (model prog w) A (LinesR C I) (LinesY C I cx cs x st y0 ys n₀) k s₀
        (.compLoop (.GeneratorExp (.Tuple [.Name "xstart" p1, .Name "y" p2, .Name "xstep" p3] k4 p4) [⟨.Name "y" px, iter, [], 0⟩] scope pos) 0 (.ref I) .none cenv)
        ((model prog w).den (.compLoop (.GeneratorExp (.Tuple [.Name "xstart" p1, .Name "y" p2, .Name "xstep" p3] k4 p4) [⟨.Name "y" px, iter, [], 0⟩] scope pos) 0 (.ref I) .none cenv)) [] s := by
  intro k
  induction k with
  | zero =>
    intro s₀ s m hle hn hit hcx hcs hsi
    show Seg _ A _ _ _ s₀ _ ((compTurn (.GeneratorExp _ [⟨.Name "y" px, iter, [], 0⟩] scope pos) 0 (.ref I) .none cenv).onRaise (leaving cenv)) [] s
    rw [compTurn_gen, Sem.onRaise_eq_wrap]
    refine seg_bindw (wpAny_standAt ?_)
    refine seg_bindw (wpAny_pyNext_range_end (show (A.over _ []).handled = none from hh) hit (Int.le_refl _) fun h' he => ?_)
    exact seg_end (.ok .next) ⟨rfl, rfl, hsi.step fun b o hb e => he b o (fun q => hb (by simp [q])) e⟩
  | succ k ih =>
    intro s₀ s m hle hn hit hcx hcs hsi
    show Seg _ A _ _ _ s₀ _ ((compTurn (.GeneratorExp _ [⟨.Name "y" px, iter, [], 0⟩] scope pos) 0 (.ref I) .none cenv).onRaise (leaving cenv)) [] s
    rw [compTurn_gen, Sem.onRaise_eq_wrap]
    refine seg_bindw (wpAny_standAt ?_)
    refine seg_bindw (wpAny_pyNext_range_item hit (by omega) fun h₁ hit₁ hs₁ => ?_)
    refine seg_bindw (wpAny_of_eq (rfl : letOwnedTupleGo (.Name "y" px) (.ref I) _ = pure ()) ?_)
    have hn₁ : h₁.Ns C m := hn.sameBut hs₁ hCI
    refine seg_bindw (wpAny_assign_Name (wpAny_storeName_local h1 (hC ▸ hn₁) (fun h₂ hn₂ hs₂ => ?_) (by rw [hk]; rfl)))
    rw [hC] at hn₂ hs₂
    have hcx₂ := (hcx.sameBut hs₁ hcxI).sameBut hs₂ hcxC
    have hcs₂ := (hcs.sameBut hs₁ hcsI).sameBut hs₂ hcsC
    refine seg_bindw (wpAny_of_eq (a := true) rfl ?_)
    simp only [if_true]
    have hy : ∀ v, yieldOut cenv v = yieldValue v := fun v => by simp only [yieldOut, hco, Bool.false_eq_true, if_false]
    simp only [hy]
    rw [Sem.bind_eq_wrap', Sem.bind_eq_wrap', Sem.wrap_wrap, Sem.wrap_wrap]
    refine seg_wrap (wpAny_mono (Q := fun v s' => _) (E := NoE) (Tuple_ (args_cons (wpAny_Name (wpAny_loadName_free hk h2 h4 hcx₂ (args_cons (wpAny_Name (wpAny_loadName_local hk h1 (hC ▸ hn₂) (if_pos rfl) (args_cons (wpAny_Name (wpAny_loadName_free hk h3 h5 hcs₂ (args_nil (wpAny_newObj_type ?_ (by size_fits))))))))))))) (fun _ _ q => q) fun _ _ e => e.elim)
    have hsi₂ : Since [C, I] s₀ { s with heap := h₂, toks := s.toks + 1 + 1 } := hsi.step fun b o hb e => hs₂.extBut b o (fun q => hb (by simp [q])) (hs₁.extBut b o (fun q => hb (by simp [q])) e)
    have hI₂ : IsRangeIter h₂ I (y0 + ((n₀ - (k + 1) : Nat) : Int) * ys + ys) (((k + 1 : Nat) : Int) - 1) ys := (hs₂.2 I (Ne.symm hCI)).trans hit₁
    have hnew : s₀.heap.get? h₂.objs.size = none := by
      cases e : s₀.heap.get? h₂.objs.size with
      | none => rfl
      | some o =>
        exfalso
        obtain ⟨h', tk, e', hk'⟩ := hsi₂
        have e'' : h' = h₂ := (congrArg Shared.heap e').symm
        subst e''
        refine Nat.lt_irrefl _ (Heap.lt_size (hk' _ o (fun q => ?_) e))
        rcases List.mem_cons.mp q with q | q
        · have := hn₂.lt; rw [← q] at this; exact Nat.lt_irrefl _ this
        · have := Heap.lt_size hI₂; rw [← List.mem_singleton.mp q] at this; exact Nat.lt_irrefl _ this
    refine seg_at (seg_yield rfl rfl rfl ⟨⟨_, tx, s.toks, ts, rfl, ⟨_, Heap.get?_push_size _ rfl, rfl, 0, ?_⟩, hnew, ?_⟩, hsi₂.step fun b o _ e => Heap.get?_push_of_some _ e, fun s'' hal => ?_⟩)
    · rw [show n₀ - 1 - k = n₀ - (k + 1) from by omega]
    · obtain ⟨o, es, ep, ho, hd, _⟩ := hn₂
      exact ⟨⟨o, es, ep, Heap.get?_push_of_some _ ho, hd⟩, _, _, Heap.get?_push_of_some _ hI₂, rfl⟩
    · have up : ∀ b ∈ [C, I, cx, cs], ∀ o, h₂.get? b = some o → s''.heap.get? b = some o := fun b hb o e => hal b hb o (Heap.get?_push_of_some _ e)
      refine seg_again rfl (ih s'' s'' _ (by omega) (hn₂.at' fun o e => up C (by simp) o e) (up I (by simp) _ ?_) (let ⟨o, ho, hd⟩ := hcx₂; ⟨o, up cx (by simp) o ho, hd⟩) (let ⟨o, ho, hd⟩ := hcs₂; ⟨o, up cs (by simp) o ho, hd⟩) (Since.refl _ _))
      have e1 : y0 + ((n₀ - k : Nat) : Int) * ys = y0 + ((n₀ - (k + 1) : Nat) : Int) * ys + ys := by
        have : ((n₀ - k : Nat) : Int) = ((n₀ - (k + 1) : Nat) : Int) + 1 := by omega
        rw [this, Int.add_mul, Int.one_mul]; omega
      have e2 : ((k : Nat) : Int) = ((k + 1 : Nat) : Int) - 1 := by omega
      rw [e1, e2]
      exact hI₂

theorem seg_linesStart {iter : PySem.Expr} {px p1 p2 p3 p4 : Pos} {k4 : Nat} {scope : Scope} {pos : Pos} {C I cx cs : Addr} {x st y0 ys : Int} {tx ts : Tok} {n₀ : Nat} {cenv : Env}
    (hh : A.handled = none) (hC : cenv.locals = C) (hk : cenv.scope.kind = .function) (h1 : cenv.kindOf "y" = some .local) (h2 : cenv.kindOf "xstart" = some .free) (h3 : cenv.kindOf "xstep" = some .free)
    (h4 : cenv.cells.lookup (Str.ofString "xstart") = some cx) (h5 : cenv.cells.lookup (Str.ofString "xstep") = some cs) (hco : cenv.scope.isCoroutine = false) (hCI : C ≠ I) (hcxC : cx ≠ C) (hcxI : cx ≠ I) (hcsC : cs ≠ C) (hcsI : cs ≠ I)
    (s : Shared) (m : Str → Option Value) (hn : s.heap.Ns C m) (hit : IsRangeIter s.heap I y0 n₀ ys) (hcx : s.heap.IsCell cx (some (.int x tx))) (hcs : s.heap.IsCell cs (some (.int st ts))) :
      Seg (model prog w) A (LinesR C I) (LinesY C I cx cs x st y0 ys n₀) n₀ s
        (.compStart (.GeneratorExp (.Tuple [.Name "xstart" p1, .Name "y" p2, .Name "xstep" p3] k4 p4) [⟨.Name "y" px, iter, [], 0⟩] scope pos) 0 (.ref I) .none cenv)
        ((model prog w).den (.compStart (.GeneratorExp (.Tuple [.Name "xstart" p1, .Name "y" p2, .Name "xstep" p3] k4 p4) [⟨.Name "y" px, iter, [], 0⟩] scope pos) 0 (.ref I) .none cenv)) [] s := by
  have loop := seg_lines (w := w) (A := A) (iter := iter) (px := px) (p1 := p1) (p2 := p2) (p3 := p3) (p4 := p4) (k4 := k4) (scope := scope) (pos := pos) (tx := tx) (ts := ts) (n₀ := n₀) hh hC hk h1 h2 h3 h4 h5 hco hCI hcxC hcxI hcsC hcsI n₀ s s m (Nat.le_refl _) hn (by simpa using hit) hcx hcs (Since.refl _ _)
  show Seg _ A _ _ _ s _ ((compStart (.GeneratorExp _ [⟨.Name "y" px, iter, [], 0⟩] scope pos) 0 (.ref I) .none cenv).onRaise (leaving cenv)) [] s
  unfold compStart
  rw [Sem.onRaise_eq_wrap]
  show Seg _ A _ _ _ s _ ((ask >>= _).wrap _ _ _ _) [] s
  refine seg_bindw (wpAny_askSetting ?_)
  split
  · exact seg_again rfl loop
  · refine seg_bindw (wpAny_rule ?_)
    show Seg _ A _ _ _ s _ ((standAt iter.pos >>= _).wrap _ _ _ _) [] s
    exact seg_bindw (wpAny_standAt (seg_bindw (wpAny_pyIter_rangeiter hit (seg_again rfl loop))))
end
end Mine
end
section
open PySem PySem.W PyProof.Rows PySem.Calls
set_option maxRecDepth 100000
namespace Mine
def tgtFor : Stmt → PySem.Expr
  | .For t _ _ _ _ => t
  | _ => .Constant .none 0 default
section
variable {w : World} {A : Around} {L T C N fa I : Addr} {cd : Value} {hs h h' h₀ h₁ h₂ : Heap} {m m' m0 : Str → Option Value} {xs xs' xs0 : List (List Int × Addr × Value)} {s : Shared} {mg : Str → Option Value} {aN : Addr} {B0 : Nat} {E : Value → Shared → Prop}

theorem la_assignT {env : Env} {elts : List PySem.Expr} {k : Nat} {pos : Pos} {t : Addr} {items : Array Value} {Q : Unit → Shared → Prop} (X : LA w L T hs s.heap m xs) (ht : IsTup s.heap t items) (hh : A.handled = none)
    (hn : (assignEach elts env).length = items.size) (hstar : (assignEach elts env).findIdx? (·.1) = none)
    (h : ∀ h', LA w L T hs h' m xs → wpAny (model prog w) A (assignInOrder ((assignEach elts env).map (·.2)) items.toList) Q E { s with heap := h' }) :
    wpAny (model prog w) A (assign (.Tuple elts k pos) env (.ref t)) Q E s :=
  assign_Tuple_tuple hh ht hn hstar fun h' he => h h' (X.ext fun b o e => he b o (Nat.ne_of_lt (Heap.lt_size e)) e)

section
local macro_rules | `(tactic| walk_at "eval Name") => `(tactic| first | (refine la_ld (by assumption) (by first | rfl | assumption) ?_))
local macro_rules | `(tactic| walk_at "storeName") => `(tactic| (refine la_st (by assumption) ?_; intro _ _))
local macro_rules | `(tactic| walk_at "assign Tuple") => `(tactic| (refine la_assignT (by assumption) (by assumption) (Gd.hh (by assumption)) rfl rfl ?_; intro _ _))
local macro_rules | `(tactic| walk_at "exec For") => `(tactic| fail "mine")
local macro_rules | `(tactic| walk_at "mine go") => `(tactic| repeat' (first | walk1 | (dsimp only; walk1)))
set_option maxHeartbeats 4000000 in
theorem turn2 {cs : List Int} {cvs : List Value} {x y st k num la : Int} {tx ty ts tk tn tl : Tok} {t : Addr} {items : Array Value} {J : Shared → Prop} {Q : Flow → Shared → Prop}
    (S : LA w L T s.heap s.heap m xs) (G : Gd A L T B0) (P : TopAt mg aN B0 s.heap) (ht : IsTup s.heap t #[.int x tx, .int y ty, .int st ts]) (hN : s.heap.IsList N items) (hx : items[k.toNat]? = some (.int num tn)) (hC : s.heap.IsList C cvs.toArray) (hcs : IntsAre cvs cs)
    (h1 : m "columns" = some (.ref C)) (h5 : m "told" = some (.ref T)) (h6 : m "numbers" = some (.ref N)) (h7 : m "at" = some (.int k tk)) (h8 : m "last" = some (.int la tl)) (hla : la < y)
    (hst : st ≠ 0) (h0k : 0 ≤ k) (hk : k < 2 ^ 63) (hsz : xs.length + cs.length ≤ sizeLine)
    (hnew : ∀ c ∈ cs, hitB x st c = true → [c, y] ∉ xs.map (·.1)) (hnd : cs.Nodup) (hdue : ∀ c ∈ cs, hitB x st c = true → num = dueOf c y)
    (hJ : ∀ h' tk' m' xs' tl', LA w L T s.heap h' m' xs' → (∀ z : Str, z ∉ ["x", "y", "step", "last", "column", "across", "down", "due"].map Str.ofString → m' z = m z) → m' "last" = some (.int y tl') → xs'.map (·.1) = xs.map (·.1) ++ hitK x st y cs → J { s with heap := h', toks := tk' }) :
    wpAny (model prog w) A (assign (tgtFor (stAt loop1 1)) (lawEnv L fa cd) (.ref t)) (fun _ s₂ => wpAny (model prog w) A (execs loop2 (lawEnv L fa cd)) (Turn J Q) NoE s₂) NoE s := by
  refine la_assignT S ht G.hh rfl rfl fun h₁ X₁ => ?_
  unfold loop2
  walk_at "mine go"
  · exfalso; omega
  · rename_i _ _ _ _ _ _ _ h₂ Z
    have K : ∀ z : Str, z ∉ ["x", "y", "step", "last", "column", "across", "down", "due"].map Str.ofString → (fun y_1 : Str => if y_1 = Str.ofString "last" then some (Value.int y ty) else if y_1 = Str.ofString "step" then some (Value.int st ts)
        else if y_1 = Str.ofString "y" then some (Value.int y ty) else if y_1 = Str.ofString "x" then some (Value.int x tx) else m y_1) z = m z := by
      intro z hz
      simp only [List.map_cons, List.map_nil, List.mem_cons, List.not_mem_nil, or_false, not_or] at hz
      simp only [if_neg hz.1, if_neg hz.2.1, if_neg hz.2.2.1, if_neg hz.2.2.2.1]
    refine for3 (tx := tx) (ty := ty) (ts := ts) (tk := tk) (cs := cs) (num := num) Z.now G (Z.top G P) (Z.list S hN) hx (Z.list S hC) hcs ((K _ (by decide)).trans h1) rfl rfl rfl ((K _ (by decide)).trans h5) ((K _ (by decide)).trans h6) ((K _ (by decide)).trans h7)
      hst h0k hk hsz hnew hnd hdue fun h' tk' m' xs' Y hm hxs => ?_
    refine wpAny_execs_nil (hJ h' tk' m' xs' ty (Z.trans Y) (fun z hz => ?_) ((hm _ (by decide) (by decide) (by decide) (by decide)).trans rfl) hxs)
    have hz' := hz
    simp only [List.map_cons, List.map_nil, List.mem_cons, List.not_mem_nil, or_false, not_or] at hz'
    exact (hm z hz'.2.2.2.2.1 hz'.2.2.2.2.2.1 hz'.2.2.2.2.2.2.1 hz'.2.2.2.2.2.2.2).trans (K z hz)
end
end
end Mine
end
section
open PySem PySem.W PyProof.Rows PySem.Calls
set_option maxRecDepth 100000
namespace Mine
/-- only the addresses wr and the generators gw turn; new ones come -/
structure Mvd (wr : List Addr) (gw : List Nat) (s s' : Shared) : Prop where
  heap : ∀ b o, b ∉ wr → s.heap.get? b = some o → s'.heap.get? b = some o
  gens : ∀ j, j ∉ gw → j < s.gens.size → s'.gens[j]? = s.gens[j]?
  size : s.gens.size = s'.gens.size
  drawn : s'.drawn = s.drawn
  os : s'.os = s.os
theorem Mvd.refl (wr : List Addr) (gw : List Nat) (s : Shared) : Mvd wr gw s s := ⟨fun _ _ _ e => e, fun _ _ _ => rfl, rfl, rfl, rfl⟩
theorem Mvd.trans {wr : List Addr} {gw : List Nat} {s s' s'' : Shared} (x : Mvd wr gw s s') (y : Mvd wr gw s' s'') : Mvd wr gw s s'' :=
  ⟨fun b o hb e => y.heap b o hb (x.heap b o hb e), fun j hj hl => (y.gens j hj (x.size ▸ hl)).trans (x.gens j hj hl), x.size.trans y.size, y.drawn.trans x.drawn, y.os.trans x.os⟩
theorem Mvd.mono {wr wr' : List Addr} {gw gw' : List Nat} {s s' : Shared} (x : Mvd wr gw s s') (h : ∀ b ∈ wr, b ∈ wr') (g : ∀ b ∈ gw, b ∈ gw') : Mvd wr' gw' s s' :=
  ⟨fun b o hb e => x.heap b o (fun q => hb (h b q)) e, fun j hj hl => x.gens j (fun q => hj (g j q)) hl, x.size, x.drawn, x.os⟩

section
variable {w : World} {A : Around} {E : Value → Shared → Prop} {s : Shared}
structure LinesAt (w : World) (A : Around) (G1 : Addr) (g1 : Nat) (C I cx cs : Addr) (x st y0 ys : Int) (n₀ n : Nat) (s : Shared) : Prop where
  kinds : Kinds C I s.heap
  gen : s.heap.IsGen G1 g1
  go : ∃ gs, s.gens[g1]? = some gs ∧ ∀ s'', KeepOn [C, I, cx, cs] s.heap s''.heap → gs.Goes (model prog w) A.in1 (LinesR C I) (LinesY C I cx cs x st y0 ys n₀) n (.send .none) s''
variable {G1 : Addr} {g1 : Nat} {C I cx cs : Addr} {x st y0 ys : Int} {n₀ n : Nat}

theorem LinesAt.kept {s' : Shared} (X : LinesAt w A G1 g1 C I cx cs x st y0 ys n₀ n s) (k : KeepOn [G1, C, I, cx, cs] s.heap s'.heap) (hg : s'.gens[g1]? = s.gens[g1]?) : LinesAt w A G1 g1 C I cx cs x st y0 ys n₀ n s' := by
  obtain ⟨⟨⟨o1, a1, b1, e1, d1⟩, o2, a2, e2, d2⟩, ⟨o, nm, qn, ho, r⟩, gs, h1, h2⟩ := X
  exact ⟨⟨⟨o1, a1, b1, k C (by simp) o1 e1, d1⟩, o2, a2, k I (by simp) o2 e2, d2⟩, ⟨o, nm, qn, k G1 (by simp) o ho, r⟩, gs, hg.trans h1, fun s'' k' => h2 s'' fun b hb o e => k' b hb o (k b (List.mem_cons_of_mem _ hb) o e)⟩

theorem gens_lt {gens : Array GenState} {g : Nat} {x : GenState} (h : gens[g]? = some x) : g < gens.size := by
  rcases Nat.lt_or_ge g gens.size with h' | h'
  · exact h'
  · rw [Array.getElem?_eq_none h'] at h; cases h
theorem setGen_of {s : Shared} {g : Nat} {x y : GenState} (h : s.gens[g]? = some x) : (s.setGen g y).gens[g]? = some y := by
  have := gens_lt h
  simp [Shared.setGen, this]
theorem mvd_set {s : Shared} {g : Nat} {y : GenState} (wr : List Addr) : Mvd wr [g] s (s.setGen g y) :=
  ⟨fun _ _ _ e => e, fun j hj _ => by simp [Shared.setGen, Ne.symm (List.ne_of_not_mem_cons hj)], by simp [Shared.setGen], rfl, rfl⟩
theorem Since.mvd {wr : List Addr} {gw : List Nat} {s s' : Shared} (x : Since wr s s') : Mvd wr gw s s' := by
  obtain ⟨h', tk, rfl, k⟩ := x
  exact ⟨k, fun _ _ _ => rfl, rfl, rfl, rfl⟩

theorem lines_next {Q : Option Value → Shared → Prop} (X : LinesAt w A G1 g1 C I cx cs x st y0 ys n₀ (n + 1) s) (hh : A.handled = none) (hroom : A.depth < recursionLimit) (hlim : s.heap.NoLimit) (hGC : G1 ≠ C) (hGI : G1 ≠ I)
    (hQ : ∀ s' t tx ty ts, LinesAt w A G1 g1 C I cx cs x st y0 ys n₀ n s' → IsTup s'.heap t #[.int x tx, .int (y0 + ((n₀ - 1 - n : Nat) : Int) * ys) ty, .int st ts] → Mvd [C, I] [g1] s s' → Q (some (.ref t)) s') :
    wpAny (model prog w) A (pyNext (.ref G1)) Q E s := by
  obtain ⟨_, hg, gs, hgs, hgo⟩ := X
  refine wpAny_pyNext_genexp (P := fun n s₀ s₁ => n = 0 ∧ Since [C, I] s₀ s₁) hh hlim hroom hg hgs (hgo _ fun _ _ _ e => e) (fun v s₁ gs' hv => ?_) (fun s₁ hp h' hk => ?_)
  · obtain ⟨⟨t, tx, ty, ts, rfl, ht, _, hkd⟩, hsi, hkap⟩ := hv
    have hgs₁ : s₁.gens[g1]? = some .running := by obtain ⟨h', tk, rfl, _⟩ := hsi; exact setGen_of hgs
    refine hQ _ t tx ty ts ⟨hkd, ?_, gs', setGen_of hgs₁, fun s'' k => hkap s'' k⟩ ht (((mvd_set [C, I]).trans hsi.mvd).trans (mvd_set [C, I]))
    obtain ⟨o, nm, qn, ho, r⟩ := hg
    obtain ⟨h', tk, rfl, k⟩ := hsi
    exact ⟨o, nm, qn, k G1 o (by simp [hGC, hGI]) ho, r⟩
  · exact absurd hp.1 (Nat.succ_ne_zero n)
theorem lines_end {Q : Option Value → Shared → Prop} (X : LinesAt w A G1 g1 C I cx cs x st y0 ys n₀ 0 s) (hh : A.handled = none) (hroom : A.depth < recursionLimit) (hlim : s.heap.NoLimit)
    (hQ : ∀ s', Mvd [C, I] [g1] s s' → s'.gens[g1]? = some .finished → Q none s') : wpAny (model prog w) A (pyNext (.ref G1)) Q E s := by
  obtain ⟨_, hg, gs, hgs, hgo⟩ := X
  refine wpAny_pyNext_genexp (P := fun n s₀ s₁ => n = 0 ∧ Since [C, I] s₀ s₁) hh hlim hroom hg hgs (hgo _ fun _ _ _ e => e) (fun v s₁ gs' hv => ?_) (fun s₁ hp h' hk => ?_)
  · exact (hv.2.2 s₁ fun _ _ _ e => e).elim
  · have hsi := hp.2
    have hgs₁ : s₁.gens[g1]? = some .running := by obtain ⟨h', tk, rfl, _⟩ := hsi; exact setGen_of hgs
    have M := ((mvd_set (s := s) (g := g1) (y := .running) [C, I]).trans hsi.mvd).trans (mvd_set (s := s₁) (g := g1) (y := .finished) [C, I])
    exact hQ _ ⟨fun b o hb e => hk b o (M.heap b o hb e), M.gens, M.size, M.drawn, M.os⟩ (setGen_of hgs₁)

theorem letGo_gen {target : PySem.Expr} {r a : Addr} {g : Nat} {Q : Unit → Shared → Prop} (hg : s.heap.IsGen r g) (h : Q () s) : wpAny (model prog w) A (letOwnedTupleGo target (.ref r) (.ref a)) Q E s := by
  obtain ⟨o, nm, qn, ho, hc, hd, _⟩ := hg
  unfold letOwnedTupleGo
  split
  · refine wpAny_bind (wpAny_load ho ?_)
    rw [hc, hd]
    exact wpAny_pure h
  · refine wpAny_bind (wpAny_load ho ?_)
    rw [hc, hd]
    exact wpAny_pure h
  · exact wpAny_pure h
end
section
variable {w : World} {A : Around} {L T C N CL fa I G1 cx cS : Addr} {g1 : Nat} {cd : Value} {hs h h' h₀ h₁ h₂ : Heap} {m m' m0 : Str → Option Value} {xs xs' xs0 : List (List Int × Addr × Value)} {s : Shared} {mg : Str → Option Value} {aN : Addr} {B0 : Nat} {E : Value → Shared → Prop}
theorem Kinds.seq (K : Kinds C I h) {b : Addr} {o : Obj} (e : h.get? b = some o) (hq : ∃ items n, o.data = .seq items n) : b ∉ [C, I] := by
  obtain ⟨⟨o1, a1, b1, e1, d1⟩, o2, a2, e2, d2⟩ := K
  obtain ⟨items, n, hq⟩ := hq
  intro hm
  rcases List.mem_cons.mp hm with rfl | hm
  · rw [e] at e1; cases e1; rw [hq] at d1; cases d1
  · rw [List.mem_singleton.mp hm] at e; rw [e] at e2; cases e2; rw [hq] at d2; cases d2
theorem LA.gen (X : LA w L T hs h m xs) (K : Kinds C I h) (hk : ∀ b o, b ∉ [C, I] → h.get? b = some o → h'.get? b = some o) (hCL : C ≠ L) (hCT : C ≠ T) : LA w L T h' h' m xs := by
  obtain ⟨oL, es, ep, hoL, hdL, _⟩ := id X.ns
  obtain ⟨oT, esT, epT, hoT, _, hdT, _⟩ := id X.dict
  obtain ⟨o2, a2, e2, d2⟩ := K.2
  have hL : L ∉ [C, I] := by
    intro hm
    rcases List.mem_cons.mp hm with q | hm
    · exact hCL q.symm
    · rw [List.mem_singleton.mp hm] at hoL; rw [e2] at hoL; cases hoL; rw [d2] at hdL; cases hdL
  have hT : T ∉ [C, I] := by
    intro hm
    rcases List.mem_cons.mp hm with q | hm
    · exact hCT q.symm
    · rw [List.mem_singleton.mp hm] at hoT; rw [e2] at hoT; cases hoT; rw [d2] at hdT; cases hdT
  exact .start (X.ns.at' fun o e => hk _ o hL e) (dict_kept X.dict (fun o e => hk _ o hT e) fun b o hq e => hk b o (K.seq e hq) e) X.ne
theorem Kinds.list (K : Kinds C I h) {a : Addr} {items : Array Value} (x : h.IsList a items) (hk : ∀ b o, b ∉ [C, I] → h.get? b = some o → h'.get? b = some o) : h'.IsList a items :=
  let ⟨o, ho, hc, n, hd⟩ := x; ⟨o, hk a o (K.seq ho ⟨items, n, hd⟩) ho, hc, n, hd⟩

def lineKeys (x st y0 ys : Int) (cs : List Int) (j : Nat) : List (List Int) := (List.range j).flatMap fun (i : Nat) => hitK x st (y0 + (i : Int) * ys) cs
theorem lineKeys_succ {x st y0 ys : Int} {cs : List Int} {j : Nat} : lineKeys x st y0 ys cs (j + 1) = lineKeys x st y0 ys cs j ++ hitK x st (y0 + (j : Int) * ys) cs := by
  unfold lineKeys
  rw [List.range_succ, List.flatMap_append]; simp
theorem hitK_len {x st y : Int} {cs : List Int} : (hitK x st y cs).length ≤ cs.length := by
  unfold hitK
  rw [List.length_map]
  exact List.length_filter_le _ _
theorem lineKeys_len {x st y0 ys : Int} {cs : List Int} : ∀ {j : Nat}, (lineKeys x st y0 ys cs j).length ≤ j * cs.length
  | 0 => by simp [lineKeys]
  | j + 1 => by
    rw [lineKeys_succ, List.length_append, Nat.succ_mul]
    exact Nat.add_le_add lineKeys_len hitK_len
theorem mem_hitK {x st y : Int} {cs : List Int} {p : List Int} : p ∈ hitK x st y cs ↔ ∃ c ∈ cs, hitB x st c = true ∧ p = [c, y] := by
  unfold hitK
  simp only [List.mem_map, List.mem_filter]
  constructor
  · rintro ⟨c, ⟨a, b⟩, rfl⟩; exact ⟨c, a, b, rfl⟩
  · rintro ⟨c, a, b, rfl⟩; exact ⟨c, ⟨a, b⟩, rfl⟩
theorem mem_lineKeys {x st y0 ys : Int} {cs : List Int} {j : Nat} {p : List Int} : p ∈ lineKeys x st y0 ys cs j ↔ ∃ i < j, ∃ c ∈ cs, hitB x st c = true ∧ p = [c, y0 + (i : Int) * ys] := by
  unfold lineKeys
  simp only [List.mem_flatMap, List.mem_range, mem_hitK]

def turned : List Str := ["x", "y", "step", "last", "column", "across", "down", "due"].map Str.ofString
end
end Mine
end
section
open PySem PySem.W PyProof.Rows PySem.Calls
set_option maxRecDepth 100000
namespace Mine
section
variable {w : World} {A : Around} {L T N CL fa C I G1 cx cS : Addr} {g1 : Nat} {cd : Value} {hs h h' h₀ h₁ h₂ : Heap} {m m' m0 : Str → Option Value} {xs xs' xs0 : List (List Int × Addr × Value)} {s : Shared} {mg : Str → Option Value} {aN : Addr} {B0 : Nat} {E : Value → Shared → Prop}

/-- the addresses of a lines' generator lie apart from the law's -/
structure Apart (L T G1 C I cx cS : Addr) (B0 : Nat) : Prop where
  cl : C ≠ L
  ct : C ≠ T
  gl : G1 ≠ L
  gt : G1 ≠ T
  gc : G1 ≠ C
  gi : G1 ≠ I
  xl : cx ≠ L
  xt : cx ≠ T
  sl : cS ≠ L
  st : cS ≠ T
  il : I ≠ L
  it : I ≠ T
  lc : B0 ≤ C
  li : B0 ≤ I

/-- between two lines -/
structure LnInv (w : World) (A : Around) (L T N CL G1 : Addr) (g1 : Nat) (C I cx cS : Addr) (mg : Str → Option Value) (aN : Addr) (B0 : Nat) (items : Array Value) (cvs : List Value) (cs : List Int) (x st y0 ys : Int) (m : Str → Option Value) (keys : List (List Int)) (s : Shared)
    (j : Nat) (s' : Shared) : Prop where
  st : ∃ m' xs' la tl, LA w L T s'.heap s'.heap m' xs' ∧ (∀ z : Str, z ∉ turned → m' z = m z) ∧ m' "last" = some (.int la tl) ∧ la < y0 + (j : Int) * ys ∧ xs'.map (·.1) = keys ++ lineKeys x st y0 ys cs j
  top : TopAt mg aN B0 s'.heap
  nums : s'.heap.IsList N items
  cols : s'.heap.IsList CL cvs.toArray
  mvd : Mvd [L, T, C, I] [g1] s s'

set_option maxHeartbeats 4000000 in
theorem for2 {cs : List Int} {cvs : List Value} {x st y0 ys k num : Int} {tk tn tl : Tok} {n₀ : Nat} {items : Array Value} {Q : Flow → Shared → Prop}
    (S : LA w L T s.heap s.heap m xs) (G : Gd A L T B0) (P : TopAt mg aN B0 s.heap) (X : LinesAt w A G1 g1 C I cx cS x st y0 ys n₀ n₀ s) (D : Apart L T G1 C I cx cS B0)
    (hN : s.heap.IsList N items) (hx : items[k.toNat]? = some (.int num tn)) (hC : s.heap.IsList CL cvs.toArray) (hcs : IntsAre cvs cs)
    (h0 : m "lines" = some (.ref G1)) (h1 : m "columns" = some (.ref CL)) (h5 : m "told" = some (.ref T)) (h6 : m "numbers" = some (.ref N)) (h7 : m "at" = some (.int k tk)) (h8 : m "last" = some (.int (-1) tl))
    (hst : st ≠ 0) (hys : 0 < ys) (hy0 : 0 ≤ y0) (h0k : 0 ≤ k) (hk : k < 2 ^ 63) (hsz : xs.length + n₀ * cs.length + cs.length ≤ sizeLine)
    (hnew : ∀ j < n₀, ∀ c ∈ cs, hitB x st c = true → [c, y0 + (j : Int) * ys] ∉ xs.map (·.1)) (hnd : cs.Nodup) (hdue : ∀ j < n₀, ∀ c ∈ cs, hitB x st c = true → num = dueOf c (y0 + (j : Int) * ys))
    (hQ : ∀ s', LnInv w A L T N CL G1 g1 C I cx cS mg aN B0 items cvs cs x st y0 ys m (xs.map (·.1)) s n₀ s' → s'.gens[g1]? = some .finished → Q .next s') :
    wpAny (model prog w) A (exec (stAt loop1 1) (lawEnv L fa cd)) Q E s := by
  refine for_rule (la_ld S h0 (wpAny_pyIter_gen X.gen ?_))
  refine ⟨fun n s' => ∃ j, n = n₀ - j ∧ j ≤ n₀ ∧ LnInv w A L T N CL G1 g1 C I cx cS mg aN B0 items cvs cs x st y0 ys m (xs.map (·.1)) s j s' ∧ LinesAt w A G1 g1 C I cx cS x st y0 ys n₀ (n₀ - j) s', n₀,
    ⟨0, rfl, Nat.zero_le _, ⟨⟨m, xs, -1, tl, S, fun _ _ => rfl, h8, by simp; omega, by simp [lineKeys]⟩, P, hN, hC, .refl _ _ _⟩, X⟩, ?_⟩
  rintro n s' ⟨j, rfl, hj, V, X'⟩
  obtain ⟨⟨m', xs', la, tl', S', hm, h8', hla, hxs⟩, P', hN', hC', M'⟩ := V
  by_cases hlt : j < n₀
  · have e : n₀ - j = (n₀ - (j + 1)) + 1 := by omega
    rw [e] at X'
    refine lines_next X' G.hh G.room P'.lim D.gc D.gi fun s₁ t tx ty ts X₁ ht M₁ => ?_
    have ej : n₀ - 1 - (n₀ - (j + 1)) = j := by omega
    rw [ej] at ht
    refine letGo_gen X₁.gen ?_
    have S₁ := S'.gen X'.kinds M₁.heap D.cl D.ct
    have P₁ : TopAt mg aN B0 s₁.heap := P'.kept fun b o hb e => M₁.heap b o (by
      intro q
      rcases List.mem_cons.mp q with q | q
      · rw [q] at hb; exact Nat.lt_irrefl _ (Nat.lt_of_lt_of_le hb D.lc)
      · rw [List.mem_singleton.mp q] at hb; exact Nat.lt_irrefl _ (Nat.lt_of_lt_of_le hb D.li)) e
    have hle : xs'.length = xs.length + (lineKeys x st y0 ys cs j).length := by
      have := congrArg List.length hxs
      simpa using this
    have hlk := lineKeys_len (x := x) (st := st) (y0 := y0) (ys := ys) (cs := cs) (j := j)
    have hjm : j * cs.length ≤ n₀ * cs.length := Nat.mul_le_mul_right _ hj
    refine turn2 (num := num) (tk := tk) (la := la) S₁ G P₁ ht (X'.kinds.list hN' M₁.heap) hx (X'.kinds.list hC' M₁.heap) hcs
      ((hm _ (by decide)).trans h1) ((hm _ (by decide)).trans h5) ((hm _ (by decide)).trans h6) ((hm _ (by decide)).trans h7) h8' hla hst h0k hk (by omega)
      (fun c hc hb hmem => ?_) hnd (hdue j hlt) fun h₂ tk₂ m₂ xs₂ tl₂ Z hm₂ h8₂ hxs₂ => ?_
    · rw [hxs] at hmem
      rcases List.mem_append.mp hmem with q | q
      · exact hnew j hlt c hc hb q
      · obtain ⟨i, hi, c', _, _, e⟩ := mem_lineKeys.mp q
        have e2 : y0 + (j : Int) * ys = y0 + (i : Int) * ys := (List.cons.inj (List.cons.inj e).2).1
        have : (i : Int) * ys < (j : Int) * ys := Int.mul_lt_mul_of_pos_right (by omega) hys
        omega
    · have kb : ∀ b o, b ≠ L → b ≠ T → s₁.heap.get? b = some o → h₂.get? b = some o := Z.kb
      refine ⟨n₀ - (j + 1), by omega, j + 1, rfl, hlt, ⟨⟨m₂, xs₂, y0 + (j : Int) * ys, tl₂, Z.now, fun z hz => (hm₂ z hz).trans (hm z hz), h8₂, ?_, ?_⟩, Z.top G P₁, Z.list S₁ (X'.kinds.list hN' M₁.heap), Z.list S₁ (X'.kinds.list hC' M₁.heap), ?_⟩, ?_⟩
      · have : ((j + 1 : Nat) : Int) * ys = (j : Int) * ys + ys := by rw [Int.natCast_succ, Int.add_mul, Int.one_mul]
        omega
      · rw [hxs₂, hxs, lineKeys_succ, List.append_assoc]
      · refine M'.trans ((M₁.mono (by simp) (by simp)).trans ⟨fun b o hb e => kb b o (fun q => hb (by simp [q])) (fun q => hb (by simp [q])) e, fun _ _ _ => rfl, rfl, rfl, rfl⟩)
      · refine X₁.kept (fun b hb o e => kb b o ?_ ?_ e) rfl
        · rcases List.mem_cons.mp hb with rfl | hb
          · exact D.gl
          rcases List.mem_cons.mp hb with rfl | hb
          · exact D.cl
          rcases List.mem_cons.mp hb with rfl | hb
          · exact D.il
          rcases List.mem_cons.mp hb with rfl | hb
          · exact D.xl
          · rw [List.mem_singleton.mp hb]; exact D.sl
        · rcases List.mem_cons.mp hb with rfl | hb
          · exact D.gt
          rcases List.mem_cons.mp hb with rfl | hb
          · exact D.ct
          rcases List.mem_cons.mp hb with rfl | hb
          · exact D.it
          rcases List.mem_cons.mp hb with rfl | hb
          · exact D.xt
          · rw [List.mem_singleton.mp hb]; exact D.st
  · have hje : j = n₀ := by omega
    subst hje
    rw [Nat.sub_self] at X'
    refine lines_end X' G.hh G.room P'.lim fun s₁ M₁ hf => ?_
    refine hQ s₁ ⟨⟨m', xs', la, tl', S'.gen X'.kinds M₁.heap D.cl D.ct, hm, h8', hla, hxs⟩, P'.kept fun b o hb e => M₁.heap b o ?_ e, X'.kinds.list hN' M₁.heap, X'.kinds.list hC' M₁.heap, M'.trans (M₁.mono (by simp) (by simp))⟩ hf
    intro q
    rcases List.mem_cons.mp q with q | q
    · rw [q] at hb; exact Nat.lt_irrefl _ (Nat.lt_of_lt_of_le hb D.lc)
    · rw [List.mem_singleton.mp q] at hb; exact Nat.lt_irrefl _ (Nat.lt_of_lt_of_le hb D.li)
end
end Mine
end
section
open PySem PySem.W PyProof.Rows PySem.Calls
set_option maxRecDepth 100000
namespace Mine
abbrev gEnv (F0 aA : Addr) (cd : Value) : Env := envOfC (recAt 0).name (recAt 0).scope F0 aA cd
def bodyA : List Stmt := bodyFor (stAt (recAt 0).body 0)
def tgtA : PySem.Expr := tgtFor (stAt (recAt 0).body 0)
def yieldOf : Stmt → PySem.Expr
  | .Expr (.Yield (some e) _) _ => e
  | _ => .Constant .none 0 default
def gexp : PySem.Expr := yieldOf (stAt bodyA 1)
/-- only wr turns -/
def KB (wr : List Addr) (h h' : Heap) : Prop := ∀ b o, b ∉ wr → h.get? b = some o → h'.get? b = some o
theorem KB.refl (wr : List Addr) (h : Heap) : KB wr h h := fun _ _ _ e => e
theorem KB.trans {wr : List Addr} {h h' h'' : Heap} (x : KB wr h h') (y : KB wr h' h'') : KB wr h h'' := fun b o hb e => y b o hb (x b o hb e)
theorem KB.mono {wr wr' : List Addr} {h h' : Heap} (x : KB wr h h') (hs : ∀ b ∈ wr, b ∈ wr') : KB wr' h h' := fun b o hb e => x b o (fun q => hb (hs b q)) e
theorem KB.ext {wr : List Addr} {h h' : Heap} (x : ∀ b o, h.get? b = some o → h'.get? b = some o) : KB wr h h' := fun b o _ e => x b o e
theorem KB.same {a : Addr} {wr : List Addr} {h h' : Heap} (x : Heap.SameBut a h h') (ha : a ∈ wr) : KB wr h h' := fun b o hb e => x.extBut b o (fun q => hb (q ▸ ha)) e
theorem ext_of {h h' : Heap} (he : Heap.ExtBut h.objs.size h h') : ∀ b o, h.get? b = some o → h'.get? b = some o := fun b o e => he b o (Nat.ne_of_lt (Heap.lt_size e)) e

/-- the frame of adam7_generate: its names, its two cells -/
structure GFr (F0 : Addr) (h : Heap) (m : Str → Option Value) (vX vS : Option Value) : Prop where
  ns : h.Ns F0 m
  x : h.IsCell (F0 + 1) vX
  s : h.IsCell (F0 + 2) vS
section
variable {w : World} {A : Around} {E : Value → Shared → Prop} {s : Shared} {F0 aA : Addr} {cd : Value} {h h' : Heap} {m m' : Str → Option Value} {vX vS v : Option Value}
theorem f01 : F0 ≠ F0 + 1 := Nat.ne_of_lt (Nat.lt_succ_self _)
theorem f02 : F0 ≠ F0 + 2 := Nat.ne_of_lt (Nat.lt_succ_of_lt (Nat.lt_succ_self _))
theorem f12 : F0 + 1 ≠ F0 + 2 := Nat.ne_of_lt (Nat.lt_succ_self _)
theorem GFr.ext (X : GFr F0 h m vX vS) (k : ∀ b o, h.get? b = some o → h'.get? b = some o) : GFr F0 h' m vX vS := ⟨X.ns.keeps k, X.x.keeps k, X.s.keeps k⟩
theorem GFr.on (X : GFr F0 h m vX vS) (k : ∀ b ∈ [F0, F0 + 1, F0 + 2], ∀ o, h.get? b = some o → h'.get? b = some o) : GFr F0 h' m vX vS :=
  ⟨X.ns.at' fun o e => k _ (by simp) o e, (let ⟨o, ho, hd⟩ := X.x; ⟨o, k _ (by simp) o ho, hd⟩), (let ⟨o, ho, hd⟩ := X.s; ⟨o, k _ (by simp) o ho, hd⟩)⟩
theorem ga_st {x : Str} {v : Value} {Q : Unit → Shared → Prop} (X : GFr F0 s.heap m vX vS)
    (h : ∀ h', GFr F0 h' (fun y => if y = x then some v else m y) vX vS → KB [F0, F0 + 1, F0 + 2] s.heap h' → Q () { s with heap := h', toks := s.toks + 1 })
    (hl : (gEnv F0 aA cd).kindOf x = some .local := by rfl) : wpAny (model prog w) A (storeName (gEnv F0 aA cd) x v) Q E s :=
  wpAny_storeName_local hl X.ns (fun h' hn hs => h h' ⟨hn, X.x.sameBut hs (Ne.symm f01), X.s.sameBut hs (Ne.symm f02)⟩ (.same hs (List.mem_cons_self ..))) (by rfl)
theorem ga_stX {v : Value} {Q : Unit → Shared → Prop} (X : GFr F0 s.heap m vX vS)
    (h : ∀ h', GFr F0 h' m (some v) vS → KB [F0, F0 + 1, F0 + 2] s.heap h' → Q () { s with heap := h' }) : wpAny (model prog w) A (storeName (gEnv F0 aA cd) "xstart" v) Q E s :=
  wpAny_storeName_cell (by rfl) (by rfl) (by rfl) X.x fun h' hc hs => h h' ⟨X.ns.sameBut hs f01, hc, X.s.sameBut hs (Ne.symm f12)⟩ (.same hs (by simp))
theorem ga_stS {v : Value} {Q : Unit → Shared → Prop} (X : GFr F0 s.heap m vX vS)
    (h : ∀ h', GFr F0 h' m vX (some v) → KB [F0, F0 + 1, F0 + 2] s.heap h' → Q () { s with heap := h' }) : wpAny (model prog w) A (storeName (gEnv F0 aA cd) "xstep" v) Q E s :=
  wpAny_storeName_cell (by rfl) (by rfl) (by rfl) X.s fun h' hc hs => h h' ⟨X.ns.sameBut hs f02, X.x.sameBut hs f12, hc⟩ (.same hs (by simp))
theorem ga_ld {x : Str} {pos : Pos} {v : Value} {Q : Value → Shared → Prop} (X : GFr F0 s.heap m vX vS) (hv : m x = some v) (h : Q v s)
    (hl : (gEnv F0 aA cd).kindOf x = some .local := by rfl) (hd : (x == ("__debug__" : Str)) = false := by decide) :
    wpAny (model prog w) A (eval (.Name x pos) (gEnv F0 aA cd)) Q E s := wpAny_Name (wpAny_loadName_local (by rfl) hl X.ns hv h) hd
theorem ga_ldX {pos : Pos} {v : Value} {Q : Value → Shared → Prop} (X : GFr F0 s.heap m (some v) vS) (h : Q v s) :
    wpAny (model prog w) A (eval (.Name "xstart" pos) (gEnv F0 aA cd)) Q E s := wpAny_Name (wpAny_loadName_cell (by rfl) (by rfl) (by rfl) X.x h)
theorem ga_glob {x : Str} {pos : Pos} {v : Value} {mg : Str → Option Value} {Q : Value → Shared → Prop} (hg : s.heap.Ns mainGlobals mg) (hv : mg x = some v) (h : Q v s)
    (hl : (gEnv F0 aA cd).kindOf x = some .globalImplicit := by rfl) (hd : (x == ("__debug__" : Str)) = false := by decide) :
    wpAny (model prog w) A (eval (.Name x pos) (gEnv F0 aA cd)) Q E s := Name_function_global (by rfl) hl (loadGlobal_global (env := gEnv F0 aA cd) hg hv h) hd
theorem ga_bi {x : Str} {pos : Pos} {v : Value} {mg mb : Str → Option Value} {Q : Value → Shared → Prop} (hg : s.heap.Ns mainGlobals mg) (hn : mg x = none) (hb : s.heap.Ns builtinsNs mb) (hv : mb x = some v) (h : Q v s)
    (hl : (gEnv F0 aA cd).kindOf x = some .globalImplicit := by rfl) (hd : (x == ("__debug__" : Str)) = false := by decide) :
    wpAny (model prog w) A (eval (.Name x pos) (gEnv F0 aA cd)) Q E s := Name_function_global (by rfl) hl (loadGlobal_builtin (env := gEnv F0 aA cd) hg hn hb hv h) hd

theorem rowA {row : Addr} {x0 y0 xs ys : Int} {t1 t2 t3 t4 : Tok} {Q : Unit → Shared → Prop} (X : GFr F0 s.heap m vX vS) (hh : A.handled = none) (ht : IsTup s.heap row #[.int x0 t1, .int y0 t2, .int xs t3, .int ys t4])
    (h : ∀ h' tk', GFr F0 h' (fun y => if y = "ystep" then some (.int ys t4) else if y = "ystart" then some (.int y0 t2) else m y) (some (.int x0 t1)) (some (.int xs t3)) → KB [F0, F0 + 1, F0 + 2] s.heap h' → Q () { s with heap := h', toks := tk' }) :
    wpAny (model prog w) A (assign tgtA (gEnv F0 aA cd) (.ref row)) Q E s := by
  refine assign_Tuple_tuple hh ht (by rfl) (by rfl) fun h₁ he => ?_
  have k₁ : KB [F0, F0 + 1, F0 + 2] s.heap h₁ := .ext (ext_of he)
  have X₁ := X.ext (ext_of he)
  refine assignInOrder_cons (wpAny_assign_Name (ga_stX X₁ fun h₂ X₂ k₂ => ?_))
  refine assignInOrder_cons (wpAny_assign_Name (ga_st X₂ (fun h₃ X₃ k₃ => ?_) (by rfl)))
  refine assignInOrder_cons (wpAny_assign_Name (ga_stS X₃ fun h₄ X₄ k₄ => ?_))
  refine assignInOrder_cons (wpAny_assign_Name (ga_st X₄ (fun h₅ X₅ k₅ => ?_) (by rfl)))
  exact assignInOrder_nil (h h₅ _ X₅ ((((k₁.trans k₂).trans k₃).trans k₄).trans k₅))

theorem skipA {x0 wd : Int} {t1 tw : Tok} {Q : Flow → Shared → Prop} (X : GFr F0 s.heap m (some (.int x0 t1)) vS) (hw : m "width" = some (.int wd tw))
    (h : Q (if wd ≤ x0 then .cont else .next) s) : wpAny (model prog w) A (exec (stAt bodyA 0) (gEnv F0 aA cd)) Q E s := by
  refine wpAny_If ?_
  refine wpAny_isTrue_Compare1 ?_
  refine ga_ldX X ?_
  refine ga_ld X hw (ge_int (wpAny_truthy_bool ?_)) (by rfl)
  by_cases q : wd ≤ x0
  · rw [if_pos q] at h
    simp only [q, decide_true, if_true]
    refine wpAny_execs_cons (wpAny_Continue h)
  · rw [if_neg q] at h
    simp only [q, decide_false, Bool.false_eq_true, if_false]
    exact wpAny_execs_nil h
end
end Mine
end
section
open PySem PySem.W PyProof.Rows PySem.Calls
set_option maxRecDepth 100000
namespace Mine
/-- a row of the table, as laid -/
def rowOf (h : Heap) (B0 : Nat) (v : Value) (r : Int × Int × Int × Int) : Prop :=
  ∃ a t1 t2 t3 t4, v = .ref a ∧ a < B0 ∧ IsTup h a #[.int r.1 t1, .int r.2.1 t2, .int r.2.2.1 t3, .int r.2.2.2 t4]
def table7 : List (Int × Int × Int × Int) := [(0, 0, 8, 8), (4, 0, 8, 8), (0, 4, 4, 8), (2, 0, 4, 4), (0, 2, 2, 4), (1, 0, 2, 2), (0, 1, 1, 2)]
/-- what the top laid for adam7_generate -/
structure AT (mg mb : Str → Option Value) (aT bm c P : Addr) (ob : Obj) (B0 : Nat) (h : Heap) : Prop where
  g : h.Ns mainGlobals mg
  gl : mainGlobals < B0
  b : h.Ns builtinsNs mb
  bl : builtinsNs < B0
  lim : h.NoLimit
  cl : cStatics < B0
  mod : BMod h mainGlobals mg bm ob
  modl : bm < B0
  rg : mg "range" = none ∧ mb "range" = some (.type "range")
  tab : ∃ ps, h.IsCode c P ps ∧ h.TableAt c P ps
  ccl : c < B0
  pl : P < B0
  ad : mg "adam7" = some (.ref aT)
  al : aT < B0
  tup : ∃ items : Array Value, IsTup h aT items ∧ items.size = 7 ∧ ∀ (i : Nat) (r : Int × Int × Int × Int), table7[i]? = some r → ∃ v, items[i]? = some v ∧ rowOf h B0 v r

section
variable {mg mb : Str → Option Value} {aT bm c P : Addr} {ob : Obj} {B0 : Nat} {h h' : Heap}
theorem AT.keptP (X : AT mg mb aT bm c P ob B0 h) (k : ∀ b o, b < B0 → b ≠ P → h.get? b = some o → h'.get? b = some o) (kt : ∃ ps, h'.IsCode c P ps ∧ h'.TableAt c P ps) : AT mg mb aT bm c P ob B0 h' := by
  obtain ⟨ps, _, hT⟩ := X.tab
  have ne1 : ∀ {a : Addr} {o : Obj}, h.get? a = some o → o.cls ≠ .none → a ≠ P := fun e q => by rintro rfl; rw [hT.2] at e; cases e; exact q rfl
  have ne2 : ∀ {a : Addr} {o : Obj}, h.get? a = some o → (∃ es ep, o.data = .dict es ep) → a ≠ P := fun e q => by rintro rfl; rw [hT.2] at e; cases e; obtain ⟨_, _, q⟩ := q; cases q
  have nsk : ∀ {a : Addr} {m}, a < B0 → h.Ns a m → h'.Ns a m := fun ha hn => by
    obtain ⟨o, es, ep, ho, hd, _⟩ := id hn
    exact hn.at' fun o' e => k _ o' ha (ne2 ho ⟨es, ep, hd⟩) e
  have tupk : ∀ {a : Addr} {items}, a < B0 → IsTup h a items → IsTup h' a items := fun ha ⟨o, ho, hc, r⟩ => ⟨o, k _ o ha (ne1 ho (by rw [hc]; nofun)) ho, hc, r⟩
  refine ⟨nsk X.gl X.g, X.gl, nsk X.bl X.b, X.bl, (let ⟨mc, hn, e⟩ := X.lim; ⟨mc, nsk X.cl hn, e⟩), X.cl, ⟨nsk X.gl X.mod.ns, X.mod.name, X.mod.ne, k _ _ X.modl (ne1 X.mod.obj (by rw [X.mod.cls]; nofun)) X.mod.obj, X.mod.cls, X.mod.dict, X.mod.data⟩, X.modl, X.rg, kt, X.ccl, X.pl, X.ad, X.al, ?_⟩
  obtain ⟨items, h1, h2, h3⟩ := X.tup
  refine ⟨items, tupk X.al h1, h2, fun i r e => ?_⟩
  obtain ⟨v, e1, a, t1, t2, t3, t4, e2, e3, e4⟩ := h3 i r e
  exact ⟨v, e1, a, t1, t2, t3, t4, e2, e3, tupk e3 e4⟩
theorem AT.kept (X : AT mg mb aT bm c P ob B0 h) (k : ∀ b o, b < B0 → h.get? b = some o → h'.get? b = some o) : AT mg mb aT bm c P ob B0 h' := by
  obtain ⟨ps, hC, hT⟩ := X.tab
  refine X.keptP (fun b o hb _ e => k b o hb e) ⟨ps, ?_, ?_⟩
  · obtain ⟨o, vs, file, tf, flags, tg, inF, text, tt, op, a, r1, r2, r3, r4, r5, r6, b, r⟩ := hC
    exact ⟨o, vs, file, tf, flags, tg, inF, text, tt, op, k _ _ X.ccl a, r1, r2, r3, r4, r5, r6, k _ _ X.pl b, r⟩
  · obtain ⟨⟨o, vs, a, r⟩, t⟩ := hT
    exact ⟨⟨o, vs, k _ _ X.ccl a, r⟩, k _ _ X.pl t⟩
end
section
variable {w : World} {A AL : Around} {E : Value → Shared → Prop} {s : Shared} {F0 aA : Addr} {h h' : Heap} {m m' : Str → Option Value} {vX vS v : Option Value}
variable {mg mb : Str → Option Value} {aT bm c P : Addr} {ob : Obj} {B0 : Nat}
theorem code_any {env : Env} {pos : Pos} {qn : Str} {scope : Scope} {Q : Value → Shared → Prop} (T : AT mg mb aT bm c P ob B0 s.heap) (hc : env.code = .ref c)
    (h : ∀ code h' tk, KB [P] s.heap h' → s.heap.objs.size ≤ h'.objs.size → AT mg mb aT bm c P ob B0 h' → Q code { s with heap := h', toks := tk }) : wpAny (model prog w) A (genexprCode env pos qn scope) Q E s := by
  obtain ⟨ps, hC, hT⟩ := T.tab
  cases e : codeAmong pos ps.toList with
  | some c' => exact wpAny_genexprCode_hit hc hC e (h c' s.heap s.toks (.refl _ _) (Nat.le_refl _) T)
  | none =>
    refine wpAny_genexprCodeX hc hC hT e fun c' h' tk hx hge hlt hC' _ hT' _ => h _ h' tk (fun b o hb e => hx b o (fun q => hb (by simp [q])) e) (Nat.le_of_lt (Nat.lt_of_le_of_lt hge hlt)) (T.keptP (fun b o _ hb e => hx b o hb e) ⟨_, hC', hT'⟩)

/-- what a yield of adam7_generate hands on -/
structure Handed (w : World) (AL : Around) (F0 P : Addr) (x0 xs y0 ys : Int) (n : Nat) (s : Shared) (G1 C I : Addr) (s' : Shared) : Prop where
  lines : LinesAt w AL G1 s.gens.size C I (F0 + 1) (F0 + 2) x0 xs y0 ys n n s'
  kb : KB [P] s.heap s'.heap
  size : s'.gens.size = s.gens.size + 1
  gens : ∀ j < s.gens.size, s'.gens[j]? = s.gens[j]?
  drawn : s'.drawn = s.drawn
  os : s'.os = s.os
  c : s.heap.objs.size ≤ C
  i : s.heap.objs.size ≤ I
  g : s.heap.objs.size ≤ G1
  gc : G1 ≠ C
  gi : G1 ≠ I

set_option maxHeartbeats 4000000 in
theorem gexp_eval {x0 xs y0 ys H : Int} {tx ts ty tys tH : Tok} {n : Nat} {Q : Value → Shared → Prop} (X : GFr F0 s.heap m (some (.int x0 tx)) (some (.int xs ts))) (T : AT mg mb aT bm c P ob B0 s.heap) (hh : AL.handled = none) (hroom : A.depth < recursionLimit)
    (h1 : m "ystart" = some (.int y0 ty)) (h2 : m "height" = some (.int H tH)) (h3 : m "ystep" = some (.int ys tys)) (hys : ys ≠ 0) (hsm : Builtin.Range.small y0 H ys = true) (hn : Builtin.Range.rangeSize y0 H ys = n) (hp : Builtin.divisionGoesByPylong (H - y0) ys = false)
    (hQ : ∀ G1 C I s', Handed w AL F0 P x0 xs y0 ys n s G1 C I s' → AT mg mb aT bm c P ob B0 s'.heap → Q (.ref G1) s') :
    wpAny (model prog w) A (eval gexp (gEnv F0 aA (.ref c))) Q E s := by
  refine wpAny_GeneratorExp_make (cl := [(Str.ofString "xstep", F0 + 2), (Str.ofString "xstart", F0 + 1)]) (by rfl) (by rfl) (by decide +kernel) (by rfl) (by rfl) hroom ?_ (by intro _; rfl)
  refine Call_ ?_
  refine ga_bi T.g T.rg.1 T.b T.rg.2 ?_
  refine callWith_type1 ?_ (he := rfl) (hplain := rfl)
  refine args_cons ?_
  refine ga_ld X h1 ?_
  refine args_cons ?_
  refine ga_ld X h2 ?_
  refine args_cons ?_
  refine ga_ld X h3 ?_
  refine args_nil ?_
  refine call_range_3 hys ?_ (.inl hp)
  refine wpAny_pyIter_range (Heap.get?_push_size _ rfl) hsm ?_
  rw [hn]
  generalize hH1 : s.heap.push { cls := .type "range", data := .fields #[.int y0 ty, .int H tH, .int ys tys] } = H1
  have k₁ : ∀ b o, s.heap.get? b = some o → H1.get? b = some o := fun b o e => hH1 ▸ Heap.get?_push_of_some _ e
  have z₁ : H1.objs.size = s.heap.objs.size + 1 := by rw [← hH1, Heap.size_push]
  have k₂ : ∀ b o, s.heap.get? b = some o → (H1.push { cls := .type "range_iterator", data := .fields #[rawInt y0, rawInt (n : Nat), rawInt ys] }).get? b = some o := fun b o e => Heap.get?_push_of_some _ (k₁ b o e)
  have it₂ : IsRangeIter (H1.push { cls := .type "range_iterator", data := .fields #[rawInt y0, rawInt (n : Nat), rawInt ys] }) H1.objs.size y0 (n : Nat) ys := Heap.get?_push_size _ rfl
  have z₂ : (H1.push { cls := .type "range_iterator", data := .fields #[rawInt y0, rawInt (n : Nat), rawInt ys] }).objs.size = H1.objs.size + 1 := Heap.size_push ..
  generalize (H1.push { cls := .type "range_iterator", data := .fields #[rawInt y0, rawInt (n : Nat), rawInt ys] }) = H2 at k₂ it₂ z₂ ⊢
  have T₂ : AT mg mb aT bm c P ob B0 H2 := T.kept fun b o _ e => k₂ b o e
  refine ⟨T₂.lim, code_any T₂ (by rfl) fun code h₃ tk₃ k₃ z₃ T₃ => wpAny_builtinsFor T₃.g T₃.mod.name T₃.mod.ne T₃.mod.obj T₃.mod.cls T₃.mod.dict T₃.mod.data ?_⟩
  intro h₄ hn₄ hs₄
  have hPs : P < s.heap.objs.size := by obtain ⟨ps, hC, _⟩ := T.tab; exact hC.lt.2
  have hX := X.x.lt
  have hS := X.s.lt
  have z₄ : h₄.objs.size = h₃.objs.size + 1 := by rw [hs₄.1, Heap.size_push]
  have k₄ : ∀ b o, h₃.get? b = some o → h₄.get? b = some o := fun b o e => hs₄.extBut b o (Nat.ne_of_lt (Heap.lt_size e)) (Heap.get?_push_of_some _ e)
  have hP1 : P < H1.objs.size := Nat.lt_trans hPs (z₁ ▸ Nat.lt_succ_self _)
  have z₃ : H2.objs.size ≤ h₃.objs.size := z₃
  have hI3 : H1.objs.size < h₃.objs.size := Nat.lt_of_lt_of_le (z₂ ▸ Nat.lt_succ_self _) z₃
  have hs1 : s.heap.objs.size ≤ H1.objs.size := z₁ ▸ Nat.le_succ _
  have kI : ∀ o, H2.get? H1.objs.size = some o → h₄.get? H1.objs.size = some o := fun o e => k₄ _ _ (k₃ _ _ (fun q => Nat.ne_of_gt hP1 (List.mem_singleton.mp q)) e)
  have kb : ∀ b o, b ∉ [P] → s.heap.get? b = some o → h₄.get? b = some o := fun b o hb e => k₄ _ _ (k₃ _ _ hb (k₂ _ _ e))
  refine hQ _ h₃.objs.size H1.objs.size _ ⟨⟨?_, ?_, ?_⟩, ?_, ?_, ?_, rfl, rfl, ?_, ?_, ?_, ?_, ?_⟩ ?_
  · obtain ⟨o, es, ep, ho, hd, _⟩ := hn₄
    exact ⟨⟨o, es, ep, Heap.get?_push_of_some _ ho, hd⟩, _, _, Heap.get?_push_of_some _ (kI _ it₂), rfl⟩
  · exact ⟨_, _, _, Heap.get?_push_size _ rfl, rfl, rfl, rfl⟩
  · refine ⟨_, Array.getElem?_push_size .., fun s'' hal => ⟨rfl, ?_⟩⟩
    have up : ∀ b ∈ [h₃.objs.size, H1.objs.size, F0 + 1, F0 + 2], ∀ o, h₄.get? b = some o → s''.heap.get? b = some o := fun b hb o e => hal b hb o (Heap.get?_push_of_some _ e)
    have hXs : (F0 + 1 : Nat) < H1.objs.size := Nat.lt_of_lt_of_le hX hs1
    have hSs : (F0 + 2 : Nat) < H1.objs.size := Nat.lt_of_lt_of_le hS hs1
    have cell : ∀ {a : Addr} {v}, a ∈ [F0 + 1, F0 + 2] → s.heap.IsCell a v → s''.heap.IsCell a v := fun {a v} ha ⟨o, ho, hd⟩ => by
      refine ⟨o, up a (List.mem_cons_of_mem _ (List.mem_cons_of_mem _ ha)) o (kb a o (fun q => ?_) ho), hd⟩
      obtain ⟨ps, _, hT⟩ := T.tab
      rw [List.mem_singleton.mp q, hT.2] at ho
      cases ho; cases hd
    exact seg_linesStart (A := AL.in1) hh (by rfl) (by rfl) (by rfl) (by rfl) (by rfl) (by rfl) (by rfl) (by rfl) (Nat.ne_of_gt hI3) (Nat.ne_of_lt (Nat.lt_trans hXs hI3)) (Nat.ne_of_lt hXs) (Nat.ne_of_lt (Nat.lt_trans hSs hI3)) (Nat.ne_of_lt hSs)
      s'' _ (hn₄.at' fun o e => up _ (by simp) o e) (up _ (by simp) _ (kI _ it₂)) (cell (by simp) X.x) (cell (by simp) X.s)
  · exact fun b o hb e => Heap.get?_push_of_some _ (kb b o hb e)
  · simp
  · intro j hj
    simp [Array.getElem?_push, Nat.ne_of_lt hj]
  · exact Nat.le_trans hs1 (Nat.le_of_lt hI3)
  · exact hs1
  · exact z₄ ▸ Nat.le_trans (Nat.le_trans hs1 (Nat.le_of_lt hI3)) (Nat.le_succ _)
  · exact z₄ ▸ Nat.ne_of_gt (Nat.lt_succ_self _)
  · exact z₄ ▸ Nat.ne_of_gt (Nat.lt_succ_of_lt hI3)
  · exact T₃.kept fun b o _ e => Heap.get?_push_of_some _ (k₄ b o e)
end
end Mine
end
section
open PySem PySem.W PyProof.Rows PySem.Calls
set_option maxRecDepth 100000
namespace Mine
abbrev Row := Int × Int × Int × Int
def passes (wd : Int) (rs : List Row) : List Row := rs.filter fun r => decide (r.1 < wd)
/-- how many lines a row has -/
def nl (H : Int) (r : Row) : Nat := (Builtin.Range.rangeSize r.2.1 H r.2.2.2).toNat
def KeepA (B0 : Nat) (l : List Addr) (h h' : Heap) : Prop := ∀ b o, (b < B0 ∨ b ∈ l) → h.get? b = some o → h'.get? b = some o
/-- what adam7_generate turns on its way -/
structure AStep (F0 P J : Addr) (N1 : Nat) (s₀ s₁ : Shared) : Prop where
  kb : KB [F0, F0 + 1, F0 + 2, J, P] s₀.heap s₁.heap
  gens : s₁.gens = s₀.gens
  drawn : s₁.drawn = s₀.drawn
  os : s₁.os = s₀.os
  jn : N1 ≤ J
  jk : ∀ o, s₀.heap.get? J = some o → ∃ vs, o.data = .fields vs
theorem AStep.step {F0 P J : Addr} {N1 : Nat} {s₀ s₁ : Shared} (X : AStep F0 P J N1 s₀ s₁) {h' : Heap} {tk : Nat} (k : KB [F0, F0 + 1, F0 + 2, J, P] s₁.heap h') : AStep F0 P J N1 s₀ { s₁ with heap := h', toks := tk } :=
  ⟨X.kb.trans k, X.gens, X.drawn, X.os, X.jn, X.jk⟩

/-- no sequences lie there -/
def NSq (l : List Addr) (h : Heap) : Prop := ∀ b ∈ l, ∃ o, h.get? b = some o ∧ ∀ items n, o.data ≠ .seq items n
theorem NSq.kept {l : List Addr} {h h' : Heap} (x : NSq l h) (k : ∀ b ∈ l, ∀ o, h.get? b = some o → h'.get? b = some o) : NSq l h' := fun b hb => let ⟨o, e, q⟩ := x b hb; ⟨o, k b hb o e, q⟩
theorem GFr.nsq {F0 : Addr} {h : Heap} {m : Str → Option Value} {vX vS : Option Value} (X : GFr F0 h m vX vS) : NSq [F0, F0 + 1, F0 + 2] h := by
  intro b hb
  rcases List.mem_cons.mp hb with rfl | hb
  · obtain ⟨o, es, ep, ho, hd, _⟩ := X.ns
    exact ⟨o, ho, fun items n e => by rw [hd] at e; cases e⟩
  rcases List.mem_cons.mp hb with rfl | hb
  · obtain ⟨o, ho, hd⟩ := X.x
    exact ⟨o, ho, fun items n e => by rw [hd] at e; cases e⟩
  · rw [List.mem_singleton.mp hb]
    obtain ⟨o, ho, hd⟩ := X.s
    exact ⟨o, ho, fun items n e => by rw [hd] at e; cases e⟩
def AdamY (w : World) (AL : Around) (mg mb : Str → Option Value) (aT bm c P : Addr) (ob : Obj) (B0 : Nat) (F0 : Addr) (N1 : Nat) (H : Int) (ps : List Row) : Protocol := fun m s₀ v s kap =>
  ∃ r J s₁ G1 C I, ps[ps.length - 1 - m]? = some r ∧ v = .ref G1 ∧ AStep F0 P J N1 s₀ s₁ ∧ J < s₁.heap.objs.size ∧ Handed w AL F0 P r.1 r.2.2.1 r.2.1 r.2.2.2 (nl H r) s₁ G1 C I s ∧ AT mg mb aT bm c P ob B0 s.heap ∧ NSq [F0, F0 + 1, F0 + 2] s.heap ∧
    ∀ s'' : Shared, KeepA B0 [F0, F0 + 1, F0 + 2, J] s.heap s''.heap → kap (.send .none) s''
def AdamR (T : Heap → Prop) (F0 P : Addr) (N1 : Nat) : GenEnd := fun n s₀ r s₁ => r = .ok (.ret .none) ∧ (n = 0 ∧ T s₁.heap ∧ ∃ J, AStep F0 P J N1 s₀ s₁)

theorem passes_at {wd : Int} {i : Nat} {r : Row} (e : table7[i]? = some r) (hr : r.1 < wd) :
    (passes wd (table7.drop i)).length = (passes wd (table7.drop (i + 1))).length + 1 ∧ (passes wd table7)[(passes wd table7).length - 1 - (passes wd (table7.drop (i + 1))).length]? = some r := by
  obtain ⟨hi, hv⟩ := List.getElem?_eq_some_iff.mp e
  have e1 : table7.drop i = r :: table7.drop (i + 1) := by rw [List.drop_eq_getElem_cons hi, hv]
  have e2 : passes wd (table7.drop i) = r :: passes wd (table7.drop (i + 1)) := by
    rw [e1]; unfold passes; rw [List.filter_cons_of_pos (by simpa using hr)]
  have e3 : passes wd table7 = passes wd (table7.take i) ++ r :: passes wd (table7.drop (i + 1)) := by
    rw [← e2]; unfold passes; rw [← List.filter_append, List.take_append_drop]
  refine ⟨by rw [e2]; rfl, ?_⟩
  rw [e3, List.length_append, List.length_cons]
  have : (passes wd (table7.take i)).length + ((passes wd (table7.drop (i + 1))).length + 1) - 1 - (passes wd (table7.drop (i + 1))).length = (passes wd (table7.take i)).length := by omega
  rw [this, List.getElem?_append_right (Nat.le_refl _), Nat.sub_self]; rfl
theorem passes_skip {wd : Int} {i : Nat} {r : Row} (e : table7[i]? = some r) (hr : ¬ r.1 < wd) : passes wd (table7.drop i) = passes wd (table7.drop (i + 1)) := by
  obtain ⟨hi, hv⟩ := List.getElem?_eq_some_iff.mp e
  rw [List.drop_eq_getElem_cons hi, hv]
  unfold passes; rw [List.filter_cons_of_neg (by simpa using hr)]

/-- facts of the written rows -/
theorem row_facts : ∀ r ∈ table7, ∀ n ∈ (List.range 25).tail, Builtin.Range.small r.2.1 (n : Nat) r.2.2.2 = true ∧ 0 ≤ Builtin.Range.rangeSize r.2.1 (n : Nat) r.2.2.2 ∧ Builtin.divisionGoesByPylong ((n : Nat) - r.2.1) r.2.2.2 = false ∧ r.2.2.2 ≠ 0 := by decide +kernel

section
variable {w : World} {A AL : Around} {E : Value → Shared → Prop} {s : Shared} {F0 aA : Addr} {h h' : Heap} {m m' : Str → Option Value} {vX vS v : Option Value}
variable {mg mb : Str → Option Value} {aT bm c P J : Addr} {ob : Obj} {B0 N1 : Nat}

theorem letGo_tup {target : PySem.Expr} {r a t : Addr} {i : Nat} {Q : Unit → Shared → Prop} (hg : IsTupIter s.heap r t i) (h : Q () s) : wpAny (model prog w) A (letOwnedTupleGo target (.ref r) (.ref a)) Q E s := by
  obtain ⟨o, ho, hc, hd⟩ := hg
  unfold letOwnedTupleGo
  split
  · refine wpAny_bind (wpAny_load ho ?_)
    rw [hc, hd]
    exact wpAny_pure h
  · refine wpAny_bind (wpAny_load ho ?_)
    rw [hc, hd]
    exact wpAny_pure h
  · exact wpAny_pure h
theorem bodyA_eq : bodyA = [stAt bodyA 0, stAt bodyA 1] := rfl
theorem yield_eq : ∃ p q, stAt bodyA 1 = .Expr (.Yield (some gexp) p) q := ⟨_, _, rfl⟩
theorem block_leaf {env : Env} : (model prog w).den (.block [] env) = leafOf (.ok .next) := rfl

set_option maxHeartbeats 4000000 in
theorem seg_rows {wd H : Int} {tw tH : Tok} {kf : Result → Sem Fin} {fc : Code} {p : Pos} (hkf : kf (.ok .next) = .pure (.done (.ret .none))) (hdep : A.depth + fc.weight < recursionLimit) (hh : A.handled = none) (hhL : AL.handled = none) (hH : 1 ≤ H ∧ H ≤ 24) :
    ∀ (k i : Nat) (s₀ s : Shared) (m : Str → Option Value) (vX vS : Option Value), i + k = 7 → AStep F0 P J N1 s₀ s → GFr F0 s.heap m vX vS → m "width" = some (.int wd tw) → m "height" = some (.int H tH) → IsTupIter s.heap J aT i → AT mg mb aT bm c P ob B0 s.heap → B0 ≤ F0 → F0 + 2 < N1 →
      Seg (model prog w) A (AdamR (AT mg mb aT bm c P ob B0) F0 P N1) (AdamY w AL mg mb aT bm c P ob B0 F0 N1 H (passes wd table7)) (passes wd (table7.drop i)).length s₀ (.forLoop tgtA (.ref J) bodyA [] (gEnv F0 aA (.ref c)))
        ((model prog w).den (.forLoop tgtA (.ref J) bodyA [] (gEnv F0 aA (.ref c)))) [.ret kf none false [] fc p []] s := by
  intro k
  induction k with
  | zero =>
    intro i s₀ s m vX vS hi S X hw hhg hit T hB hF
    have hi7 : i = 7 := by omega
    subst hi7
    show Seg _ A _ _ _ s₀ _ ((forTurn tgtA (.ref J) bodyA [] (gEnv F0 aA (.ref c))).onRaise _) _ s
    rw [Sem.onRaise_eq_wrap]
    unfold forTurn
    refine seg_bindw (wpAny_standAt ?_)
    obtain ⟨items, ht, hsz, _⟩ := T.tup
    refine seg_bindw (wpAny_onRaise (wpAny_mono (next_tuple_end (E := NoE) (show (A.over _ _).handled = none from ?_) hit ht (by simp [hsz]) fun h' he => ?_) (fun _ _ q => q) fun _ _ e => e.elim))
    · exact hh
    · show Seg _ A _ _ _ s₀ _ (.pure (.again (.block [] (gEnv F0 aA (.ref c))))) _ _
      refine seg_again rfl ?_
      rw [block_leaf]
      refine seg_leaf (.ok .next) ?_
      rw [hkf]
      have hBJ : B0 < J := Nat.lt_of_lt_of_le (Nat.lt_of_le_of_lt (Nat.le_trans hB (Nat.le_add_right _ 2)) hF) S.jn
      refine seg_end (.ok (.ret .none)) ⟨rfl, rfl, T.kept fun b o hb e => he b o (Nat.ne_of_lt (Nat.lt_trans hb hBJ)) e, J, S.step (fun b o hb e => he b o (fun q => hb (by simp [q])) e)⟩
  | succ k ih =>
    intro i s₀ s m vX vS hi S X hw hhg hit T hB hF
    have hi7 : i < 7 := by omega
    obtain ⟨items, ht, hsz, hrows⟩ := T.tup
    obtain ⟨r, hr⟩ : ∃ r, table7[i]? = some r := ⟨table7[i]'hi7, List.getElem?_eq_getElem hi7⟩
    obtain ⟨v, hv, a, t1, t2, t3, t4, rfl, ha, hta⟩ := hrows i r hr
    show Seg _ A _ _ _ s₀ _ ((forTurn tgtA (.ref J) bodyA [] (gEnv F0 aA (.ref c))).onRaise _) _ s
    rw [Sem.onRaise_eq_wrap]
    unfold forTurn
    refine seg_bindw (wpAny_standAt ?_)
    refine seg_bindw (wpAny_onRaise (wpAny_mono (next_tuple_item (E := NoE) hit ht hv fun h₁ hit₁ hs₁ => ?_) (fun _ _ q => q) fun _ _ e => e.elim))
    have hJ0 : J ∉ [F0, F0 + 1, F0 + 2] := by
      have := S.jn
      intro q
      simp only [List.mem_cons, List.not_mem_nil, or_false] at q
      rcases q with q | q | q <;> (rw [q] at this; exact Nat.lt_irrefl _ (Nat.lt_of_le_of_lt this (by first | exact hF | exact Nat.lt_of_le_of_lt (Nat.le_succ _) hF | exact Nat.lt_of_le_of_lt (Nat.le_add_right _ 2) hF)))
    have k₁ : KB [F0, F0 + 1, F0 + 2, J, P] s.heap h₁ := .same hs₁ (by simp)
    have hBJ : B0 < J := Nat.lt_of_lt_of_le (Nat.lt_of_le_of_lt (Nat.le_trans hB (Nat.le_add_right _ 2)) hF) S.jn
    have X₁ : GFr F0 h₁ m vX vS := X.on fun b hb o e => hs₁.extBut b o (fun q => hJ0 (q ▸ hb)) e
    have T₁ : AT mg mb aT bm c P ob B0 h₁ := T.kept fun b o hb e => hs₁.extBut b o (Nat.ne_of_lt (Nat.lt_trans hb hBJ)) e
    have hta₁ : IsTup h₁ a #[.int r.1 t1, .int r.2.1 t2, .int r.2.2.1 t3, .int r.2.2.2 t4] := hta.extBut hs₁.extBut (Nat.ne_of_lt (Nat.lt_trans ha hBJ))
    refine seg_bindw (letGo_tup hit₁ ?_)
    refine seg_bindw (rowA X₁ (show (A.over _ _).handled = none from hh) hta₁ fun h₂ tk₂ X₂ k₂ => ?_)
    have hit₂ : IsTupIter h₂ J aT (i + 1) := let ⟨o, ho, q⟩ := hit₁; ⟨o, k₂ J o hJ0 ho, q⟩
    have hlow : ∀ b, b < B0 → b ∉ [F0, F0 + 1, F0 + 2] := by
      intro b hb q
      have hb' := Nat.lt_of_lt_of_le hb hB
      simp only [List.mem_cons, List.not_mem_nil, or_false] at q
      rcases q with q | q | q
      · rw [q] at hb'; exact Nat.lt_irrefl _ hb'
      · rw [q] at hb'; exact Nat.lt_irrefl _ (Nat.lt_trans (Nat.lt_succ_self _) hb')
      · rw [q] at hb'; exact Nat.lt_irrefl _ (Nat.lt_trans (Nat.lt_succ_of_lt (Nat.lt_succ_self _)) hb')
    have T₂ : AT mg mb aT bm c P ob B0 h₂ := T₁.kept fun b o hb e => k₂ b o (hlow b hb) e
    have S₂ : AStep F0 P J N1 s₀ { s with heap := h₂, toks := tk₂ } := S.step (k₁.trans (k₂.mono fun b hb => by simp only [List.mem_cons, List.not_mem_nil, or_false] at hb ⊢; rcases hb with q | q | q <;> simp [q]))
    have hw₂ : (fun y : Str => if y = "ystep" then some (Value.int r.2.2.2 t4) else if y = "ystart" then some (Value.int r.2.1 t2) else m y) "width" = some (.int wd tw) := hw
    have hg₂ : (fun y : Str => if y = "ystep" then some (Value.int r.2.2.2 t4) else if y = "ystart" then some (Value.int r.2.1 t2) else m y) "height" = some (.int H tH) := hhg
    have ex : execs bodyA (gEnv F0 aA (.ref c)) = execs [stAt bodyA 0, stAt bodyA 1] (gEnv F0 aA (.ref c)) := rfl
    rw [Sem.bind_eq_wrap', Sem.wrap_wrap, ex]
    refine seg_execs_cons (seg_wrap (wpAny_mono (skipA X₂ hw₂ (E := NoE) (Q := fun f s' => f = (if wd ≤ r.1 then .cont else .next) ∧ s' = { s with heap := h₂, toks := tk₂ }) ⟨rfl, rfl⟩) (fun f s' q => ?_) fun _ _ e => e.elim))
    obtain ⟨rfl, rfl⟩ := q
    by_cases hp : r.1 < wd
    · rw [if_neg (by omega)]
      obtain ⟨hlen, hat⟩ := passes_at hr hp
      rw [hlen]
      obtain ⟨p1, p2, hye⟩ := yield_eq
      have ey : exec (stAt bodyA 1) (gEnv F0 aA (.ref c)) = exec (.Expr (.Yield (some gexp) p1) p2) (gEnv F0 aA (.ref c)) := by rw [hye]
      obtain ⟨f1, f2, f3, f4⟩ := row_facts r (List.mem_of_getElem? hr) H.toNat (by simp; omega)
      have eH : ((H.toNat : Nat) : Int) = H := Int.toNat_of_nonneg (by omega)
      rw [eH] at f1 f2 f3
      refine seg_execs_cons ?_
      rw [ey]
      refine (seg_Expr_Yield rfl rfl rfl (gexp_eval (AL := AL) X₂ T₂ hhL (show (A.over _ _).depth < recursionLimit from ?_) rfl hg₂ rfl f4 f1 (Int.toNat_of_nonneg f2).symm f3 fun G1 C I s' Z TZ => ?_))
      · show A.depth + frameCount [(fc, p)] + 0 < recursionLimit
        rw [frameCount_cons]
        exact hdep
      · intro kap hkap
        obtain ⟨oJ, hoJ, hcJ, hdJ⟩ := id hit₂
        have hJs : J < h₂.objs.size := Heap.lt_size hoJ
        have hPF : ∀ b ∈ [F0, F0 + 1, F0 + 2], b ≠ P := fun b hb q => hlow b (q ▸ T₂.pl) hb
        refine ⟨r, J, _, G1, C, I, hat, rfl, S₂, hJs, Z, TZ, X₂.nsq.kept fun b hb o e => Z.kb b o (fun q => hPF b hb (List.mem_singleton.mp q)) e, fun s'' hk => hkap .none s'' ?_⟩
        have up : ∀ b ∈ [F0, F0 + 1, F0 + 2, J], ∀ o, h₂.get? b = some o → s''.heap.get? b = some o := fun b hb o e => hk b o (.inr hb) (Z.kb b o (fun q => by
          rw [List.mem_singleton.mp q] at hb
          rcases List.mem_append.mp (show P ∈ [F0, F0 + 1, F0 + 2] ++ [J] from hb) with q | q
          · exact hPF _ q rfl
          · rw [← List.mem_singleton.mp q] at hBJ; exact Nat.lt_irrefl _ (Nat.lt_trans hBJ T₂.pl)) e)
        show Seg _ A _ _ _ s'' _ (.pure (.again (.forLoop tgtA (.ref J) bodyA [] (gEnv F0 aA (.ref c))))) _ s''
        have hJ'' : IsTupIter s''.heap J aT (i + 1) := ⟨oJ, up J (by simp) oJ hoJ, hcJ, hdJ⟩
        refine seg_again rfl (ih (i + 1) s'' s'' _ _ _ (by omega) ⟨.refl _ _, rfl, rfl, rfl, S.jn, fun o e => ?_⟩ (X₂.on fun b hb o e => up b (List.mem_append_left [J] hb) o e) hw₂ hg₂ hJ'' (TZ.kept fun b o hb e => hk b o (.inl hb) e) hB hF)
        rw [up J (by simp) oJ hoJ] at e
        cases e
        exact ⟨_, hdJ⟩
    · rw [if_pos (by omega), passes_skip hr hp]
      show Seg _ A _ _ _ s₀ _ (.pure (.again (.forLoop tgtA (.ref J) bodyA [] (gEnv F0 aA (.ref c))))) _ _
      exact seg_again rfl (ih (i + 1) s₀ _ _ _ _ (by omega) S₂ X₂ hw₂ hg₂ hit₂ T₂ hB hF)

theorem for_eq : ∃ it p, (recAt 0).body = [.For tgtA (.Name "adam7" it) bodyA [] p] := ⟨_, _, rfl⟩
set_option maxHeartbeats 4000000 in
theorem seg_adam {wd H : Int} {tw tH : Tok} (X : GFr F0 s.heap m vX vS) (hw : m "width" = some (.int wd tw)) (hhg : m "height" = some (.int H tH)) (T : AT mg mb aT bm c P ob B0 s.heap)
    (hdep : A.depth + (Code.func (recAt 0).body (gEnv F0 aA (.ref c))).weight < recursionLimit) (hh : A.handled = none) (hhL : AL.handled = none) (hH : 1 ≤ H ∧ H ≤ 24) (hB : B0 ≤ F0) (hF : F0 + 2 < N1) (hN : N1 ≤ s.heap.objs.size) :
    Seg (model prog w) A (AdamR (AT mg mb aT bm c P ob B0) F0 P N1) (AdamY w AL mg mb aT bm c P ob B0 F0 N1 H (passes wd table7)) (passes wd table7).length s (.func (recAt 0).body (gEnv F0 aA (.ref c))) ((model prog w).den (.func (recAt 0).body (gEnv F0 aA (.ref c)))) [] s := by
  refine seg_func ?_
  obtain ⟨it, p, hb⟩ := for_eq
  have ex : execs (recAt 0).body (gEnv F0 aA (.ref c)) = execs [.For tgtA (.Name "adam7" it) bodyA [] p] (gEnv F0 aA (.ref c)) := by rw [hb]
  rw [ex]
  refine seg_execs_cons ?_
  rw [exec_For]
  refine seg_bindw (wpAny_standAt ?_)
  refine seg_bindw (ga_glob T.g T.ad ?_)
  refine seg_bindw (wpAny_of_eq rfl ?_)
  refine seg_bindw (wpAny_standAt ?_)
  obtain ⟨items, ht, hsz, hrows⟩ := T.tup
  refine seg_bindw (wpAny_holding (iter_tuple ht ?_))
  refine seg_call (h := none) (l := []) (g := false) fun q => ?_
  have k₁ : ∀ b o, s.heap.get? b = some o → (s.heap.push { cls := .type "tuple_iterator", data := .fields #[.ref aT, .int 0 0] }).get? b = some o := fun b o e => Heap.get?_push_of_some _ e
  exact seg_rows (tw := tw) (tH := tH) rfl hdep hh hhL hH 7 0 s _ m vX vS rfl ⟨.ext k₁, rfl, rfl, rfl, hN, fun o e => absurd (Heap.lt_size e) (Nat.lt_irrefl _)⟩ (X.ext k₁) hw hhg ⟨_, Heap.get?_push_size _ rfl, rfl, rfl⟩ (T.kept fun b o _ e => k₁ b o e) hB hF
end
end Mine
end
section
open PySem PySem.W PyProof.Rows PySem.Calls
set_option maxRecDepth 100000
namespace Mine
section
variable {w : World} {A AL : Around} {L T N CL fa C I G1 cx cS : Addr} {g1 : Nat} {cd : Value} {hs h h' h₀ h₁ h₂ : Heap} {m m' m0 : Str → Option Value} {xs xs' xs0 : List (List Int × Addr × Value)} {s : Shared} {mg mb : Str → Option Value} {aN : Addr} {B0 : Nat} {E : Value → Shared → Prop}

theorem LinesAt.la {x st y0 ys : Int} {n₀ n : Nat} {s' : Shared} (X : LinesAt w A G1 g1 C I cx cS x st y0 ys n₀ n s) (D : Apart L T G1 C I cx cS B0) (kb : ∀ b o, b ≠ L → b ≠ T → s.heap.get? b = some o → s'.heap.get? b = some o) (hg : s'.gens = s.gens) : LinesAt w A G1 g1 C I cx cS x st y0 ys n₀ n s' := by
  refine X.kept (fun b hb o e => kb b o ?_ ?_ e) (by rw [hg])
  · rcases List.mem_cons.mp hb with rfl | hb
    · exact D.gl
    rcases List.mem_cons.mp hb with rfl | hb
    · exact D.cl
    rcases List.mem_cons.mp hb with rfl | hb
    · exact D.il
    rcases List.mem_cons.mp hb with rfl | hb
    · exact D.xl
    · rw [List.mem_singleton.mp hb]; exact D.sl
  · rcases List.mem_cons.mp hb with rfl | hb
    · exact D.gt
    rcases List.mem_cons.mp hb with rfl | hb
    · exact D.ct
    rcases List.mem_cons.mp hb with rfl | hb
    · exact D.it
    rcases List.mem_cons.mp hb with rfl | hb
    · exact D.xt
    · rw [List.mem_singleton.mp hb]; exact D.st
set_option maxHeartbeats 4000000 in
theorem turn1 {cs : List Int} {cvs : List Value} {x st y0 ys k num : Int} {tk tn : Tok} {n₀ : Nat} {items : Array Value} {J : Shared → Prop} {Q : Flow → Shared → Prop}
    (S : LA w L T s.heap s.heap m xs) (G : Gd A L T B0) (P : TopAt mg aN B0 s.heap) (X : LinesAt w A G1 g1 C I cx cS x st y0 ys n₀ n₀ s) (D : Apart L T G1 C I cx cS B0)
    (hN : s.heap.IsList N items) (hx : items[k.toNat]? = some (.int num tn)) (hC : s.heap.IsList CL cvs.toArray) (hcs : IntsAre cvs cs)
    (h1 : m "columns" = some (.ref CL)) (h5 : m "told" = some (.ref T)) (h6 : m "numbers" = some (.ref N)) (h7 : m "at" = some (.int k tk))
    (hst : st ≠ 0) (hys : 0 < ys) (hy0 : 0 ≤ y0) (h0k : 0 ≤ k) (hk : k < 2 ^ 63) (hsz : xs.length + n₀ * cs.length + cs.length ≤ sizeLine)
    (hnew : ∀ j < n₀, ∀ c ∈ cs, hitB x st c = true → [c, y0 + (j : Int) * ys] ∉ xs.map (·.1)) (hnd : cs.Nodup) (hdue : ∀ j < n₀, ∀ c ∈ cs, hitB x st c = true → num = dueOf c (y0 + (j : Int) * ys))
    (hJ : ∀ s' m' xs' tk', LA w L T s'.heap s'.heap m' xs' → (∀ z : Str, z ∉ turned → z ≠ "lines" → z ≠ "at" → m' z = m z) → m' "at" = some (.int (k + 1) tk') → xs'.map (·.1) = xs.map (·.1) ++ lineKeys x st y0 ys cs n₀ → TopAt mg aN B0 s'.heap → s'.heap.IsList N items → s'.heap.IsList CL cvs.toArray →
      Mvd [L, T, C, I] [g1] s s' → s'.gens[g1]? = some .finished → J s') :
    wpAny (model prog w) A (assign (tgtFor (stAt (recAt 2).body 6)) (lawEnv L fa cd) (.ref G1)) (fun _ s₂ => wpAny (model prog w) A (execs loop1 (lawEnv L fa cd)) (Turn J Q) NoE s₂) NoE s := by
  refine wpAny_assign_Name ?_
  refine la_st S fun h₁ X₁ => ?_
  have el : execs loop1 (lawEnv L fa cd) = execs [stAt loop1 0, stAt loop1 1, stAt loop1 2] (lawEnv L fa cd) := rfl
  rw [el]
  refine wpAny_execs_cons ?_
  refine wpAny_Assign_Name ?_
  refine UnaryOp_ (wpAny_Constant_int (neg_int ?_))
  refine la_st X₁ fun h₂ X₂ => ?_
  refine wpAny_execs_cons ?_
  refine for2 (tk := tk) (cs := cs) (num := num) X₂.now G (X₂.top G P) (X.la D X₂.kb rfl) D (X₂.list S hN) hx (X₂.list S hC) hcs rfl h1 h5 h6 h7 rfl hst hys hy0 h0k hk hsz hnew hnd hdue fun s₃ V hf => ?_
  obtain ⟨⟨m₃, xs₃, la, tl, S₃, hm₃, h8, _, hxs⟩, P₃, hN₃, hC₃, M₃⟩ := V
  refine wpAny_execs_cons ?_
  refine wpAny_AugAssign_Name ?_
  refine wpAny_loadName_local (by rfl) (by rfl) S₃.ns ((hm₃ _ (by decide)).trans h7) ?_
  refine wpAny_Constant_int (iadd_int ?_)
  refine la_st S₃ fun h₄ X₄ => ?_
  refine wpAny_execs_nil ?_
  refine hJ _ _ xs₃ _ X₄.now (fun z hz h1 h2 => ?_) (if_pos rfl) hxs (X₄.top G P₃) (X₄.list S₃ hN₃) (X₄.list S₃ hC₃) ⟨fun b o hb e => X₄.kb b o (fun q => hb (by simp [q])) (fun q => hb (by simp [q])) (M₃.heap b o hb (X₂.kb b o (fun q => hb (by simp [q])) (fun q => hb (by simp [q])) e)), M₃.gens, M₃.size, M₃.drawn, M₃.os⟩ hf
  refine (if_neg h2).trans ((hm₃ z hz).trans ?_)
  have hl : z ≠ "last" := fun q => hz (by rw [q]; decide)
  exact (if_neg hl).trans (if_neg h1)
end
end Mine
end
section
open PySem PySem.W PyProof.Rows PySem.Calls
set_option maxRecDepth 100000
namespace Mine
section
variable {w : World} {A : Around} {E : Value → Shared → Prop} {s : Shared} {mg mb : Str → Option Value} {aT bm c P F0 G0 J : Addr} {ob : Obj} {B0 N1 g0 n : Nat} {H : Int} {ps : List Row}
structure AdamAt (w : World) (A : Around) (mg mb : Str → Option Value) (aT bm c P : Addr) (ob : Obj) (B0 : Nat) (F0 : Addr) (N1 : Nat) (H : Int) (ps : List Row) (G0 : Addr) (g0 : Nat) (J : Addr) (n : Nat) (s : Shared) : Prop where
  nsq : NSq [F0, F0 + 1, F0 + 2] s.heap
  gen : s.heap.IsGen G0 g0
  go : ∃ gs, s.gens[g0]? = some gs ∧ ∀ s'' : Shared, KeepA B0 [F0, F0 + 1, F0 + 2, J] s.heap s''.heap → gs.Goes (model prog w) A.in1 (AdamR (AT mg mb aT bm c P ob B0) F0 P N1) (AdamY w A mg mb aT bm c P ob B0 F0 N1 H ps) n (.send .none) s''
theorem AdamAt.kept {s' : Shared} (X : AdamAt w A mg mb aT bm c P ob B0 F0 N1 H ps G0 g0 J n s) (k : KeepA B0 [F0, F0 + 1, F0 + 2, J] s.heap s'.heap) (kG : ∀ o, s.heap.get? G0 = some o → s'.heap.get? G0 = some o) (hg : s'.gens[g0]? = s.gens[g0]?) : AdamAt w A mg mb aT bm c P ob B0 F0 N1 H ps G0 g0 J n s' := by
  obtain ⟨hq, ⟨o, nm, qn, ho, r⟩, gs, h1, h2⟩ := X
  exact ⟨hq.kept fun b hb o e => k b o (.inr (List.mem_append_left [J] hb)) e, ⟨o, nm, qn, kG o ho, r⟩, gs, hg.trans h1, fun s'' k' => h2 s'' fun b o hb e => k' b o hb (k b o hb e)⟩

/-- what one waking of adam7_generate gives -/
structure Woken (w : World) (A : Around) (mg mb : Str → Option Value) (aT bm c P : Addr) (ob : Obj) (B0 : Nat) (F0 : Addr) (N1 : Nat) (H : Int) (ps : List Row) (G0 : Addr) (g0 n : Nat) (s s' : Shared) (r : Row) (J' : Addr) (z : Nat) (G1 C I : Addr) : Prop where
  row : ps[ps.length - 1 - n]? = some r
  lines : LinesAt w A G1 s.gens.size C I (F0 + 1) (F0 + 2) r.1 r.2.2.1 r.2.1 r.2.2.2 (nl H r) (nl H r) s'
  adam : AdamAt w A mg mb aT bm c P ob B0 F0 N1 H ps G0 g0 J' n s'
  top : AT mg mb aT bm c P ob B0 s'.heap
  kb : KB [F0, F0 + 1, F0 + 2, J', P] s.heap s'.heap
  jk : ∀ o, s.heap.get? J' = some o → ∃ vs, o.data = .fields vs
  jn : N1 ≤ J'
  jz : J' < z
  zc : z ≤ C
  zi : z ≤ I
  zg : z ≤ G1
  gc : G1 ≠ C
  gi : G1 ≠ I
  old : ∀ b o, b ∉ [F0, F0 + 1, F0 + 2, J', P] → s.heap.get? b = some o → b < z
  size : s'.gens.size = s.gens.size + 1
  gens : ∀ j < s.gens.size, j ≠ g0 → s'.gens[j]? = s.gens[j]?
  drawn : s'.drawn = s.drawn
  os : s'.os = s.os

theorem adam_next {Q : Option Value → Shared → Prop} (X : AdamAt w A mg mb aT bm c P ob B0 F0 N1 H ps G0 g0 J (n + 1) s) (hh : A.handled = none) (hroom : A.depth < recursionLimit) (hlim : s.heap.NoLimit)
    (hG : F0 + 2 < G0) (hGN : G0 < N1) (hPF : P < F0)
    (hQ : ∀ s' r J' z G1 C I, Woken w A mg mb aT bm c P ob B0 F0 N1 H ps G0 g0 n s s' r J' z G1 C I → Q (some (.ref G1)) s') :
    wpAny (model prog w) A (pyNext (.ref G0)) Q E s := by
  obtain ⟨_, hg, gs, hgs, hgo⟩ := X
  refine wpAny_pyNext_gen (P := fun n s₀ s₁ => n = 0 ∧ AT mg mb aT bm c P ob B0 s₁.heap ∧ ∃ J, AStep F0 P J N1 s₀ s₁) hh hlim hroom hg hgs (hgo _ fun _ _ _ e => e) (fun v s₂ gs' hv => ?_) (fun s₁ hp h' hk => ?_)
  · obtain ⟨r, J', s₁, G1, C, I, hrow, rfl, S, hJz, Z, TZ, hnq, hkap⟩ := hv
    have e1 : s₁.gens = (s.setGen g0 .running).gens := S.gens
    have hlt := gens_lt hgs
    have hsz : s₁.gens.size = s.gens.size := by rw [e1]; simp [Shared.setGen]
    have hz2 : s₂.gens.size = s.gens.size + 1 := by rw [Z.size, hsz]
    have hJG : G0 < J' := Nat.lt_of_lt_of_le hGN S.jn
    have hF0 : F0 < G0 := Nat.lt_of_le_of_lt (Nat.le_add_right _ 2) hG
    have hPG : P < G0 := Nat.lt_trans hPF hF0
    have hG0 : G0 ∉ [F0, F0 + 1, F0 + 2, J', P] := by
      intro q
      simp only [List.mem_cons, List.not_mem_nil, or_false] at q
      rcases q with q | q | q | q | q
      · rw [q] at hF0; exact Nat.lt_irrefl _ hF0
      · rw [q] at hG; exact Nat.lt_irrefl _ (Nat.lt_trans (Nat.lt_succ_self _) hG)
      · rw [q] at hG; exact Nat.lt_irrefl _ hG
      · rw [q] at hJG; exact Nat.lt_irrefl _ hJG
      · rw [q] at hPG; exact Nat.lt_irrefl _ hPG
    have kb2 : KB [F0, F0 + 1, F0 + 2, J', P] s.heap s₂.heap := fun b o hb e => Z.kb b o (fun q => hb (by simp [List.mem_singleton.mp q])) (S.kb b o hb e)
    have hg2 : s₂.gens[g0]? = some .running := by
      rw [Z.gens g0 (hsz ▸ hlt), e1]; exact setGen_of hgs
    have hL : LinesAt w A G1 s.gens.size C I (F0 + 1) (F0 + 2) r.1 r.2.2.1 r.2.1 r.2.2.2 (nl H r) (nl H r) s₂ := hsz ▸ Z.lines
    refine hQ (s₂.setGen g0 gs') r J' s₁.heap.objs.size G1 C I ⟨hrow, hL.kept (fun _ _ _ e => e) ?_, ⟨hnq, ?_, gs', setGen_of hg2, fun s'' k => hkap s'' k⟩, TZ, kb2, S.jk, S.jn, hJz, Z.c, Z.i, Z.g, Z.gc, Z.gi, fun b o hb e => Heap.lt_size (S.kb b o hb e), ?_, fun j hj hne => ?_, Z.drawn.trans S.drawn, Z.os.trans S.os⟩
    · simp [Shared.setGen, Nat.ne_of_lt hlt]
    · obtain ⟨o, nm, qn, ho, q⟩ := hg
      exact ⟨o, nm, qn, kb2 G0 o hG0 ho, q⟩
    · simp [Shared.setGen, hz2]
    · have : (s₂.setGen g0 gs').gens[j]? = s₂.gens[j]? := by simp [Shared.setGen, Ne.symm hne]
      rw [this, Z.gens j (hsz ▸ hj), e1]
      simp [Shared.setGen, Ne.symm hne]
  · exact absurd hp.1 (Nat.succ_ne_zero n)
theorem adam_end {Q : Option Value → Shared → Prop} (X : AdamAt w A mg mb aT bm c P ob B0 F0 N1 H ps G0 g0 J 0 s) (hh : A.handled = none) (hroom : A.depth < recursionLimit) (hlim : s.heap.NoLimit)
    (hQ : ∀ s' J', AT mg mb aT bm c P ob B0 s'.heap → KB [F0, F0 + 1, F0 + 2, J', P] s.heap s'.heap → (∀ o, s.heap.get? J' = some o → ∃ vs, o.data = .fields vs) → N1 ≤ J' → s'.gens.size = s.gens.size → (∀ j < s.gens.size, j ≠ g0 → s'.gens[j]? = s.gens[j]?) → s'.gens[g0]? = some .finished → s'.drawn = s.drawn → s'.os = s.os → Q none s') :
    wpAny (model prog w) A (pyNext (.ref G0)) Q E s := by
  obtain ⟨_, hg, gs, hgs, hgo⟩ := X
  refine wpAny_pyNext_gen (P := fun n s₀ s₁ => n = 0 ∧ AT mg mb aT bm c P ob B0 s₁.heap ∧ ∃ J, AStep F0 P J N1 s₀ s₁) hh hlim hroom hg hgs (hgo _ fun _ _ _ e => e) (fun v s₂ gs' hv => ?_) (fun s₁ hp h' hk => ?_)
  · obtain ⟨r, J', s₁, G1, C, I, hrow, rfl, S, hJz, Z, TZ, hnq, hkap⟩ := hv
    exact (hkap s₂ fun _ _ _ e => e).elim
  · obtain ⟨_, TE, J', S⟩ := hp
    have e1 : s₁.gens = (s.setGen g0 .running).gens := S.gens
    refine hQ _ J' (TE.kept fun b o _ e => hk b o e) (fun b o hb e => hk b o (S.kb b o hb e)) S.jk S.jn ?_ (fun j hj hne => ?_) ?_ S.drawn S.os
    · simp [Shared.setGen, e1]
    · simp [Shared.setGen, e1, Ne.symm hne]
    · have hlt := gens_lt hgs
      simp [Shared.setGen, e1, hlt]
end
end Mine
end
section
open PySem PySem.W PyProof.Rows PySem.Calls
set_option maxRecDepth 100000
namespace Mine
section
variable {w : World} {A : Around} {E : Value → Shared → Prop} {s : Shared} {mg mb : Str → Option Value} {aT bm c P F0 G0 J aA : Addr} {ob : Obj} {B0 N1 g0 n : Nat} {H : Int} {ps : List Row}
/-- adam7_generate as the top laid it -/
structure FA (aA c : Addr) (B0 : Nat) (h : Heap) : Prop where
  fn : ∃ o pm doc, h.get? aA = some o ∧ o.data = .func (docDef (recAt 0).name (recAt 0).params (recAt 0).body (recAt 0).scope pm (.ref c) doc)
  cd : h.CodeRec (.ref c) (recAt 0).name
  lt : aA < B0
  cl : c < B0
theorem FA.kept {h h' : Heap} (X : FA aA c B0 h) (k : ∀ b o, b < B0 → h.get? b = some o → h'.get? b = some o) : FA aA c B0 h' := by
  obtain ⟨⟨o, pm, doc, h1, h2⟩, ⟨c', oc, vs, tq, e1, e2, e3⟩, h4, h5⟩ := X
  exact ⟨⟨o, pm, doc, k _ _ h4 h1, h2⟩, ⟨c', oc, vs, tq, e1, k _ _ (by cases e1; exact h5) e2, e3⟩, h4, h5⟩
theorem func_weight {body : List Stmt} {env : Env} : (Code.func body env).weight = 1 := rfl
structure Called (w : World) (A : Around) (mg mb : Str → Option Value) (aT bm c P : Addr) (ob : Obj) (B0 : Nat) (H : Int) (ps : List Row) (G0 : Addr) (s s' : Shared) : Prop where
  keep : ∀ b o, s.heap.get? b = some o → s'.heap.get? b = some o
  adam : AdamAt w A mg mb aT bm c P ob B0 s.heap.objs.size (G0 + 1) H ps G0 s.gens.size G0 ps.length s'
  g0 : s.heap.objs.size + 2 < G0
  lt : G0 < s'.heap.objs.size
  size : s'.gens.size = s.gens.size + 1
  gens : ∀ j < s.gens.size, s'.gens[j]? = s.gens[j]?
  drawn : s'.drawn = s.drawn
  os : s'.os = s.os
set_option maxHeartbeats 4000000 in
theorem adam_call {wd : Int} {tw tH : Tok} {Q : Value → Shared → Prop} (T : AT mg mb aT bm c P ob B0 s.heap) (X : FA aA c B0 s.heap)
    (hh : A.handled = none) (hroom : A.depth + 1 < recursionLimit) (hH : 1 ≤ H ∧ H ≤ 24) (hB : B0 ≤ s.heap.objs.size)
    (hQ : ∀ s' G0, Called w A mg mb aT bm c P ob B0 H (passes wd table7) G0 s s' → Q (.ref G0) s') :
    wpAny (model prog w) A (call (.ref aA) [.int wd tw, .int H tH]) Q E s := by
  obtain ⟨o, pm, doc, ho, hd⟩ := X.fn
  refine wpAny_call (codeAny_call_generator (by omega) ho hd (by rfl) (by rfl) (by rfl) X.cd ?_)
  refine wpAny_of_eq (a := [((Str.ofString "width"), Value.int wd tw), (Str.ofString "height", Value.int H tH)]) (by rfl) ?_
  refine wpAny_newFunctionEnv_cells (by rfl) (fun x hx => .inl ?_) fun env he s₁ x => ?_
  · rcases List.mem_cons.mp hx with rfl | hx
    · rfl
    · rw [List.mem_singleton.mp hx]; rfl
  have he : env = gEnv s.heap.objs.size aA (.ref c) := he.trans (by rfl)
  subst he
  obtain ⟨h₁, tk₁, rfl, kk⟩ := x.done
  have X₁ : GFr s.heap.objs.size h₁ (bindL (gEnv s.heap.objs.size aA (.ref c)).kindOf [((Str.ofString "width"), Value.int wd tw), (Str.ofString "height", Value.int H tH)] fun _ => none) none none :=
    ⟨x.toInCall.ns, x.cell (Str.ofString "xstart") _ (by rfl), x.cell (Str.ofString "xstep") _ (by rfl)⟩
  have T₁ : AT mg mb aT bm c P ob B0 h₁ := T.kept fun b o _ e => kk b o e
  refine ⟨T₁.lim, ?_⟩
  have hs := X₁.s.lt
  have k₂ : ∀ b o, h₁.get? b = some o → (h₁.push { cls := .type "generator", data := .fields #[.int s.gens.size 0, .str (recAt 0).name tk₁, .str (recAt 0).name (tk₁ + 1)] }).get? b = some o := fun b o e => Heap.get?_push_of_some _ e
  refine hQ _ h₁.objs.size ⟨fun b o e => k₂ b o (kk b o e), ⟨X₁.nsq.kept fun b _ o e => k₂ b o e, ⟨_, _, _, Heap.get?_push_size _ rfl, rfl, rfl, rfl⟩, _, Array.getElem?_push_size .., fun s'' hk => ⟨rfl, ?_⟩⟩, hs, ?_, ?_, fun j hj => ?_, rfl, rfl⟩
  · refine seg_adam (A := A.in1) (AL := A) (tw := tw) (tH := tH) ((X₁.ext k₂).on fun b hb o e => hk b o (.inr (List.mem_append_left [h₁.objs.size] hb)) e) (by rfl) (by rfl) (T₁.kept fun b o hb e => hk b o (.inl hb) (k₂ b o e)) ?_ hh hh hH hB (Nat.lt_succ_of_lt hs) ?_
    · rw [func_weight]; exact hroom
    · exact Heap.lt_size (hk h₁.objs.size _ (.inr (by simp)) (Heap.get?_push_size _ rfl))
  · show h₁.objs.size < (h₁.push _).objs.size
    rw [Heap.size_push]; exact Nat.lt_succ_self _
  · simp
  · simp [Array.getElem?_push, Nat.ne_of_lt hj]
end
end Mine
end
section
open PySem PySem.W PyProof.Rows PySem.Calls
set_option maxRecDepth 100000
namespace Mine
def passKeys (cs : List Int) (H : Int) (r : Row) : List (List Int) := lineKeys r.1 r.2.2.1 r.2.1 r.2.2.2 cs (nl H r)
def keysOf (cs : List Int) (H : Int) (ps : List Row) : List (List Int) := ps.flatMap (passKeys cs H)
theorem keysOf_succ {cs : List Int} {H : Int} {ps : List Row} {i : Nat} {r : Row} (e : ps[i]? = some r) : keysOf cs H (ps.take (i + 1)) = keysOf cs H (ps.take i) ++ passKeys cs H r := by
  unfold keysOf
  rw [List.take_add_one, e, List.flatMap_append]; simp
/-- what the numbers must say -/
structure Plain (cs : List Int) (H : Int) (items : Array Value) (ps : List Row) : Prop where
  st : ∀ (i : Nat) (r : Row), ps[i]? = some r → r.2.2.1 ≠ 0 ∧ 0 < r.2.2.2 ∧ 0 ≤ r.2.1
  num : ∀ (i : Nat) (r : Row), ps[i]? = some r → ∃ num tn, items[i]? = some (Value.int num tn) ∧ ∀ j < nl H r, ∀ c ∈ cs, hitB r.1 r.2.2.1 c = true → num = dueOf c (r.2.1 + (j : Int) * r.2.2.2)
  new : ∀ (i : Nat) (r : Row), ps[i]? = some r → ∀ j < nl H r, ∀ c ∈ cs, hitB r.1 r.2.2.1 c = true → [c, r.2.1 + (j : Int) * r.2.2.2] ∉ keysOf cs H (ps.take i)
  nd : cs.Nodup
  sz : ∀ (i : Nat) (r : Row), ps[i]? = some r → (keysOf cs H (ps.take i)).length + nl H r * cs.length + cs.length ≤ sizeLine
  len : ps.length < 2 ^ 63
section
variable {w : World} {A : Around} {L T N CL fa : Addr} {cd : Value} {h h' : Heap} {m m' : Str → Option Value} {xs : List (List Int × Addr × Value)} {E : Value → Shared → Prop} {s : Shared} {mg mb : Str → Option Value} {aN aT bm c P F0 G0 J aA : Addr} {ob : Obj} {B0 N1 g0 n : Nat} {H : Int} {ps : List Row}
theorem LA.wake {wr : List Addr} (X : LA w L T h h m xs) (hk : KB wr h h') (hL : L ∉ wr) (hT : T ∉ wr) (hq : ∀ b ∈ wr, ∀ o items n, h.get? b = some o → o.data ≠ .seq items n) : LA w L T h' h' m xs :=
  .start (X.ns.at' fun o e => hk _ o hL e) (dict_kept X.dict (fun o e => hk _ o hT e) fun b o ⟨items, n, hd⟩ e => hk b o (fun q => hq b q o items n e hd) e) X.ne
theorem list_wake {wr : List Addr} {a : Addr} {items : Array Value} (x : h.IsList a items) (hk : KB wr h h') (hq : ∀ b ∈ wr, ∀ o items n, h.get? b = some o → o.data ≠ .seq items n) : h'.IsList a items :=
  let ⟨o, ho, hc, n, hd⟩ := x; ⟨o, hk a o (fun q => hq a q o items n ho hd) ho, hc, n, hd⟩

structure OutInv (w : World) (A : Around) (L T N CL : Addr) (mg mb : Str → Option Value) (aT bm c P : Addr) (ob : Obj) (B0 : Nat) (F0 : Addr) (N1 : Nat) (H : Int) (ps : List Row) (G0 : Addr) (g0 : Nat) (items : Array Value) (cvs : List Value) (cs : List Int) (m : Str → Option Value) (s₀ : Shared) (i : Nat) (s : Shared) : Prop where
  st : ∃ m' xs' ti, LA w L T s.heap s.heap m' xs' ∧ (∀ z : Str, z ∉ turned → z ≠ "lines" → z ≠ "at" → m' z = m z) ∧ m' "at" = some (.int i ti) ∧ xs'.map (·.1) = keysOf cs H (ps.take i)
  top : AT mg mb aT bm c P ob B0 s.heap
  nums : s.heap.IsList N items
  cols : s.heap.IsList CL cvs.toArray
  old : ∀ b o, b < B0 → b ≠ P → s₀.heap.get? b = some o → s.heap.get? b = some o
  gens : ∀ j, j ≠ g0 → ∀ x, s.gens[j]? = some x → x = .finished
  os : s.os = s₀.os

theorem ne_le {a b : Addr} (h : a < b) : a ≠ b := Nat.ne_of_lt h
set_option maxHeartbeats 4000000 in
theorem for1_turns {cs : List Int} {cvs : List Value} {items : Array Value} {s₀ : Shared} {Q : Flow → Shared → Prop}
    (G : Gd A L T B0) (hTop : ∀ h', (∀ b o, b < B0 → b ≠ P → s₀.heap.get? b = some o → h'.get? b = some o) → TopAt mg aN B0 h') (Z : Plain cs H items ps) (hcs : IntsAre cvs cs)
    (h1 : m "columns" = some (.ref CL)) (h5 : m "told" = some (.ref T)) (h6 : m "numbers" = some (.ref N))
    (hL : L < F0) (hT : T < F0) (hG : F0 + 2 < G0) (hGN : G0 < N1) (hPF : P < B0)
    (hQ : ∀ s', OutInv w A L T N CL mg mb aT bm c P ob B0 F0 N1 H ps G0 g0 items cvs cs m s₀ ps.length s' → s'.gens[g0]? = some .finished → Q .next s') :
    ∀ n s, (∃ i J, n = ps.length - i ∧ i ≤ ps.length ∧ F0 < J ∧ OutInv w A L T N CL mg mb aT bm c P ob B0 F0 N1 H ps G0 g0 items cvs cs m s₀ i s ∧ AdamAt w A mg mb aT bm c P ob B0 F0 N1 H ps G0 g0 J (ps.length - i) s) →
      wpAny (model prog w) A (pyNext (.ref G0)) (fun r s₁ => match r with
        | none => Q .next s₁
        | some v => wpAny (model prog w) A (letOwnedTupleGo (tgtFor (stAt (recAt 2).body 6)) (.ref G0) v) (fun _ s₁' => wpAny (model prog w) A (assign (tgtFor (stAt (recAt 2).body 6)) (lawEnv L fa cd) v) (fun _ s₂ =>
            wpAny (model prog w) A (execs loop1 (lawEnv L fa cd)) (Turn (Nxt (fun n s => ∃ i J, n = ps.length - i ∧ i ≤ ps.length ∧ F0 < J ∧ OutInv w A L T N CL mg mb aT bm c P ob B0 F0 N1 H ps G0 g0 items cvs cs m s₀ i s ∧ AdamAt w A mg mb aT bm c P ob B0 F0 N1 H ps G0 g0 J (ps.length - i) s) n) Q) NoE s₂) NoE s₁') NoE s₁) NoE s := by
  rintro n s ⟨i, J, rfl, hi, hJ, V, X⟩
  obtain ⟨⟨m', xs', ti, S, hm, hat, hxs⟩, TA, hN, hC, hold, hgn, hos⟩ := id V
  have hBF : B0 < F0 := Nat.lt_of_le_of_lt G.lo hL
  have hPF' : P < F0 := Nat.lt_trans hPF hBF
  have hwake : ∀ (J' : Addr) (s₁ : Shared), N1 ≤ J' → (∀ o, s.heap.get? J' = some o → ∃ vs, o.data = .fields vs) → KB [F0, F0 + 1, F0 + 2, J', P] s.heap s₁.heap →
      LA w L T s₁.heap s₁.heap m' xs' ∧ s₁.heap.IsList N items ∧ s₁.heap.IsList CL cvs.toArray ∧ (∀ b o, b < B0 → b ≠ P → s₀.heap.get? b = some o → s₁.heap.get? b = some o) := by
    intro J' s₁ hJ' jk kb
    have hFJ : F0 < J' := Nat.lt_of_lt_of_le (Nat.lt_trans (Nat.lt_of_le_of_lt (Nat.le_add_right _ 2) hG) hGN) hJ'
    have hq : ∀ b ∈ [F0, F0 + 1, F0 + 2, J', P], ∀ o items n, s.heap.get? b = some o → o.data ≠ .seq items n := by
      intro b hb o its n e ed
      rcases List.mem_append.mp (show b ∈ [F0, F0 + 1, F0 + 2] ++ [J', P] from hb) with hb | hb
      · obtain ⟨o', e', q⟩ := X.nsq b hb
        rw [e] at e'; cases e'
        exact q _ _ ed
      rcases List.mem_cons.mp hb with rfl | hb
      · obtain ⟨vs, ev⟩ := jk o e
        rw [ed] at ev; cases ev
      · rw [List.mem_singleton.mp hb] at e
        obtain ⟨ps', _, ht⟩ := TA.tab
        rw [ht.2] at e; cases e
        cases ed
    have low : ∀ b, b < F0 → b ≠ P → b ∉ [F0, F0 + 1, F0 + 2, J', P] := by
      intro b hb hp q
      simp only [List.mem_cons, List.not_mem_nil, or_false] at q
      rcases q with q | q | q | q | q
      · exact Nat.ne_of_lt hb q
      · exact Nat.ne_of_lt (Nat.lt_succ_of_lt hb) q
      · exact Nat.ne_of_lt (Nat.lt_succ_of_lt (Nat.lt_succ_of_lt hb)) q
      · exact Nat.ne_of_lt (Nat.lt_trans hb hFJ) q
      · exact hp q
    exact ⟨S.wake kb (low _ hL (Nat.ne_of_gt (Nat.lt_of_lt_of_le hPF G.lo))) (low _ hT (Nat.ne_of_gt (Nat.lt_of_lt_of_le hPF G.lt))) hq, list_wake hN kb hq, list_wake hC kb hq,
      fun b o hb hp e => kb b o (low b (Nat.lt_trans hb hBF) hp) (hold b o hb hp e)⟩
  by_cases hlt : i < ps.length
  · have e : ps.length - i = (ps.length - (i + 1)) + 1 := by omega
    have X' := X
    rw [e] at X'
    refine adam_next X' G.hh G.room TA.lim hG hGN hPF' fun s₁ r J' z G1 C I W => ?_
    obtain ⟨S₁, hN₁, hC₁, hold₁⟩ := hwake J' s₁ W.jn W.jk W.kb
    have hr : ps[i]? = some r := by
      have := W.row
      rwa [show ps.length - 1 - (ps.length - (i + 1)) = i from by omega] at this
    obtain ⟨z1, z2, z3⟩ := Z.st i r hr
    obtain ⟨num, tn, z4, z5⟩ := Z.num i r hr
    have hJ'F : F0 + 2 < J' := Nat.lt_of_lt_of_le (Nat.lt_trans hG hGN) W.jn
    have hFJ : F0 < J' := Nat.lt_of_le_of_lt (Nat.le_add_right _ 2) hJ'F
    have hFz : F0 + 2 < z := Nat.lt_trans hJ'F W.jz
    have hFz0 : F0 < z := Nat.lt_of_le_of_lt (Nat.le_add_right _ 2) hFz
    have hFz1 : F0 + 1 < z := Nat.lt_of_le_of_lt (Nat.le_succ _) hFz
    have hLz : L < z := Nat.lt_trans hL hFz0
    have hTz : T < z := Nat.lt_trans hT hFz0
    have hBz : B0 ≤ z := Nat.le_of_lt (Nat.lt_trans hBF hFz0)
    have D : Apart L T G1 C I (F0 + 1) (F0 + 2) B0 :=
      ⟨Nat.ne_of_gt (Nat.lt_of_lt_of_le hLz W.zc), Nat.ne_of_gt (Nat.lt_of_lt_of_le hTz W.zc), Nat.ne_of_gt (Nat.lt_of_lt_of_le hLz W.zg), Nat.ne_of_gt (Nat.lt_of_lt_of_le hTz W.zg), W.gc, W.gi,
        Nat.ne_of_gt (Nat.lt_succ_of_lt hL), Nat.ne_of_gt (Nat.lt_succ_of_lt hT), Nat.ne_of_gt (Nat.lt_succ_of_lt (Nat.lt_succ_of_lt hL)), Nat.ne_of_gt (Nat.lt_succ_of_lt (Nat.lt_succ_of_lt hT)),
        Nat.ne_of_gt (Nat.lt_of_lt_of_le hLz W.zi), Nat.ne_of_gt (Nat.lt_of_lt_of_le hTz W.zi), Nat.le_trans hBz W.zc, Nat.le_trans hBz W.zi⟩
    have P₁ : TopAt mg aN B0 s₁.heap := hTop _ hold₁
    have hxl : xs'.length = (keysOf cs H (ps.take i)).length := by rw [← hxs, List.length_map]
    refine letGo_gen W.adam.gen ?_
    refine turn1 (tk := ti) (cs := cs) (num := num) S₁ G P₁ W.lines D hN₁ (k := i) (by simpa using z4) hC₁ hcs
      ((hm _ (by decide) (by decide) (by decide)).trans h1) ((hm _ (by decide) (by decide) (by decide)).trans h5) ((hm _ (by decide) (by decide) (by decide)).trans h6) hat z1 z2 z3 (Int.natCast_nonneg i)
      (by have := Z.len; omega) (by rw [hxl]; exact Z.sz i r hr) (fun j hj c hc hb => by rw [hxs]; exact Z.new i r hr j hj c hc hb) Z.nd z5
      fun s₂ m₂ xs₂ tk₂ S₂ hm₂ hat₂ hxs₂ P₂ hN₂ hC₂ M hf => ?_
    have up : ∀ b o, b < z → b ≠ L → b ≠ T → s₁.heap.get? b = some o → s₂.heap.get? b = some o := by
      intro b o hb h1 h2 e
      refine M.heap b o (fun q => ?_) e
      simp only [List.mem_cons, List.not_mem_nil, or_false] at q
      rcases q with q | q | q | q
      · exact h1 q
      · exact h2 q
      · exact Nat.ne_of_lt (Nat.lt_of_lt_of_le hb W.zc) q
      · exact Nat.ne_of_lt (Nat.lt_of_lt_of_le hb W.zi) q
    have upB : ∀ b o, b < B0 → s₁.heap.get? b = some o → s₂.heap.get? b = some o := fun b o hb e =>
      up b o (Nat.lt_of_lt_of_le hb hBz) (Nat.ne_of_lt (Nat.lt_of_lt_of_le hb G.lo)) (Nat.ne_of_lt (Nat.lt_of_lt_of_le hb G.lt)) e
    have hg0 : g0 < s.gens.size := by obtain ⟨gs, e, _⟩ := X.go; exact gens_lt e
    have upK : KeepA B0 [F0, F0 + 1, F0 + 2, J'] s₁.heap s₂.heap := by
      intro b o hb e
      rcases hb with hb | hb
      · exact upB b o hb e
      · simp only [List.mem_cons, List.not_mem_nil, or_false] at hb
        rcases hb with rfl | rfl | rfl | rfl
        · exact up _ o hFz0 (Nat.ne_of_gt hL) (Nat.ne_of_gt hT) e
        · exact up _ o hFz1 (Nat.ne_of_gt (Nat.lt_succ_of_lt hL)) (Nat.ne_of_gt (Nat.lt_succ_of_lt hT)) e
        · exact up _ o hFz (Nat.ne_of_gt (Nat.lt_succ_of_lt (Nat.lt_succ_of_lt hL))) (Nat.ne_of_gt (Nat.lt_succ_of_lt (Nat.lt_succ_of_lt hT))) e
        · exact up _ o W.jz (Nat.ne_of_gt (Nat.lt_trans hL hFJ)) (Nat.ne_of_gt (Nat.lt_trans hT hFJ)) e
    have hLG : L < G0 := Nat.lt_trans hL (Nat.lt_of_le_of_lt (Nat.le_add_right _ 2) hG)
    have hTG : T < G0 := Nat.lt_trans hT (Nat.lt_of_le_of_lt (Nat.le_add_right _ 2) hG)
    refine ⟨ps.length - (i + 1), by omega, i + 1, J', rfl, hlt, hFJ, ⟨⟨m₂, xs₂, tk₂, S₂, fun x a b c => (hm₂ x a b c).trans (hm x a b c), by rw [hat₂]; rfl, ?_⟩, W.top.kept upB, hN₂, hC₂, fun b o hb hp e => upB b o hb (hold₁ b o hb hp e), fun j hj x e => ?_, M.os.trans (W.os.trans hos)⟩, ?_⟩
    · rw [hxs₂, hxs, keysOf_succ hr]; rfl
    · have hj2 : j < s₁.gens.size := by rw [M.size]; exact gens_lt e
      by_cases hj1 : j = s.gens.size
      · rw [hj1, hf] at e; cases e; rfl
      · rw [M.gens j (by simpa using hj1) hj2, W.gens j (by have := W.size; omega) hj] at e
        exact hgn j hj x e
    · refine W.adam.kept upK (fun o e => up _ o (Nat.lt_of_lt_of_le hGN (Nat.le_trans W.jn (Nat.le_of_lt W.jz))) (Nat.ne_of_gt hLG) (Nat.ne_of_gt hTG) e) (M.gens g0 (by simpa using Nat.ne_of_lt hg0) (by have := W.size; omega))
  · have hie : i = ps.length := by omega
    subst hie
    rw [Nat.sub_self] at X
    refine adam_end X G.hh G.room TA.lim fun s₁ J' TE kb jk jn hsz hgs hf hdr hos₁ => ?_
    obtain ⟨S₁, hN₁, hC₁, hold₁⟩ := hwake J' s₁ jn jk kb
    refine hQ s₁ ⟨⟨m', xs', ti, S₁, hm, hat, hxs⟩, TE, hN₁, hC₁, hold₁, fun j hj x e => ?_, hos₁.trans hos⟩ hf
    have hjl : j < s.gens.size := hsz ▸ gens_lt e
    exact hgn j hj x (hgs j hjl hj ▸ e)
end
end Mine
end
section
open PySem PySem.W PyProof.Rows PySem.Calls
set_option maxRecDepth 100000
namespace Mine
section
variable {w : World} {A : Around} {L T N CL fa : Addr} {cd : Value} {h h' : Heap} {m m' : Str → Option Value} {xs : List (List Int × Addr × Value)} {E : Value → Shared → Prop} {s : Shared} {mg mb : Str → Option Value} {aN aT bm c P F0 G0 J aA : Addr} {ob : Obj} {B0 N1 g0 n : Nat} {H : Int} {ps : List Row}
set_option maxHeartbeats 4000000 in
theorem for1 {cs : List Int} {cvs : List Value} {items : Array Value} {wd : Int} {tw tH ta : Tok} {Q : Flow → Shared → Prop}
    (S : LA w L T s.heap s.heap m []) (G : Gd A L T B0) (TA : AT mg mb aT bm c P ob B0 s.heap) (XF : FA aA c B0 s.heap) (hroom : A.depth + 1 < recursionLimit)
    (hTop : ∀ h', (∀ b o, b < B0 → b ≠ P → s.heap.get? b = some o → h'.get? b = some o) → TopAt mg aN B0 h') (Z : Plain cs H items (passes wd table7)) (hcs : IntsAre cvs cs) (hH : 1 ≤ H ∧ H ≤ 24)
    (hN : s.heap.IsList N items) (hC : s.heap.IsList CL cvs.toArray) (hga : mg "adam7_generate" = some (.ref aA))
    (hw : s.heap.IsCell (L + 1) (some (.int wd tw))) (h0 : m "height" = some (.int H tH)) (h1 : m "columns" = some (.ref CL)) (h5 : m "told" = some (.ref T)) (h6 : m "numbers" = some (.ref N)) (h7 : m "at" = some (.int 0 ta)) (hgens : s.gens = #[])
    (hQ : ∀ s' m' xs' ti, LA w L T s'.heap s'.heap m' xs' → (∀ z : Str, z ∉ turned → z ≠ "lines" → z ≠ "at" → m' z = m z) → m' "at" = some (.int (passes wd table7).length ti) → xs'.map (·.1) = keysOf cs H (passes wd table7) →
      AT mg mb aT bm c P ob B0 s'.heap → s'.heap.IsList N items → s'.heap.IsList CL cvs.toArray → (∀ b o, b < B0 → b ≠ P → s.heap.get? b = some o → s'.heap.get? b = some o) → AllBare s'.gens → s'.os = s.os → Q .next s') :
    wpAny (model prog w) A (exec (stAt (recAt 2).body 6) (lawEnv L fa cd)) Q E s := by
  obtain ⟨of, pm, doc, hof, hfd⟩ := XF.fn
  refine for_rule (Call_ ?_)
  refine la_glob TA.g hga ?_
  refine callWith_def_at hof hfd ?_
  refine args_cons ?_
  refine wpAny_Name (wpAny_loadName_cell (c := L + 1) (by rfl) (by rfl) (by rfl) hw ?_)
  refine args_cons ?_
  refine la_ld S h0 ?_
  refine args_nil ?_
  have hLs : L < s.heap.objs.size := S.ns.lt
  have hTs : T < s.heap.objs.size := by obtain ⟨o, es, ep, ho, _⟩ := S.dict; exact Heap.lt_size ho
  refine ⟨hof, adam_call TA XF G.hh hroom hH (Nat.le_of_lt (Nat.lt_of_le_of_lt G.lo hLs)) fun s₁ G0 K => ?_⟩
  refine wpAny_pyIter_gen K.adam.gen ?_
  have hG0 : s.heap.objs.size < G0 := Nat.lt_of_le_of_lt (Nat.le_add_right _ 2) K.g0
  refine ⟨_, _, ⟨0, G0, rfl, Nat.zero_le _, hG0, ⟨⟨m, [], ta, S.wake (wr := []) (fun b o _ e => K.keep b o e) (by simp) (by simp) (by simp), fun _ _ _ _ => rfl, h7, rfl⟩, TA.kept fun b o _ e => K.keep b o e, list_wake (wr := []) hN (fun b o _ e => K.keep b o e) (by simp), list_wake (wr := []) hC (fun b o _ e => K.keep b o e) (by simp), fun b o _ _ e => K.keep b o e, fun j hj x e => ?_, K.os⟩, K.adam⟩,
    for1_turns (cvs := cvs) (CL := CL) (N := N) (m := m) G hTop Z hcs h1 h5 h6 hLs hTs K.g0 (Nat.lt_succ_self _) TA.pl fun s' V hf => ?_⟩
  · obtain ⟨⟨m', xs', ti, S', hm, hat, hxs⟩, TA', hN', hC', hold, hgn, hos⟩ := V
    rw [List.take_length] at hxs
    refine hQ s' m' xs' ti S' hm hat hxs TA' hN' hC' hold (fun y hy => ?_) hos
    obtain ⟨j, hj, rfl⟩ := Array.getElem_of_mem hy
    by_cases hj0 : j = s.gens.size
    · have := hf
      rw [← hj0, Array.getElem?_eq_getElem hj] at this
      rw [Option.some.inj this]; rfl
    · rw [hgn j hj0 _ (Array.getElem?_eq_getElem hj)]; rfl
  · have := gens_lt e
    rw [K.size, hgens] at this
    rw [hgens] at hj
    exact absurd (Nat.lt_one_iff.mp this) hj
end
end Mine
end
section
open PySem PySem.W PyProof.Rows PySem.Calls
set_option maxRecDepth 100000
namespace Mine
def firsts : List Int := [0, 4, 0, 2, 0, 1, 0]
def seven : List Int := [0, 1, 2, 3, 4, 5, 6]
def early (wd : Int) (k : Int) : Bool := decide (firsts.getD k.toNat 0 < wd)
def numsOf (wd : Int) : List Int := (seven.filter (early wd)).map (· + 1)
theorem carried_ints : ∀ {ys : List Value} {ks : List Int}, CarriedAll ys (ks.map fun k => PyData.int k) → IntsAre ys ks
  | [], [], _ => .nil
  | _ :: _, _ :: _, .cons (.int _ t) r => .cons _ t (carried_ints r)
theorem one_test {M : Model} {A : Around} {E : Value → Shared → Prop} {s : Shared} {c : PySem.Expr} {env : Env} {Q : Bool → Shared → Prop} (h : wpAny M A (PySem.isTrue c env (eval c env)) Q E s) :
    wpAny M A (forIn [c] true fun c r => if r = true then do let ok ← PySem.isTrue c env (eval c env); pure (ForInStep.yield ok) else pure (ForInStep.yield r)) Q E s := by
  rw [List.forIn_cons]
  simp only [if_true]
  refine wpAny_bind (wpAny_bind (wpAny_mono h (fun b s' q => wpAny_pure ?_) fun _ _ e => e))
  dsimp only
  rw [List.forIn_nil]; exact wpAny_pure q
section
variable {w : World} {A : Around} {L T N CL fa S : Addr} {cd : Value} {h h' h₀ : Heap} {m m' : Str → Option Value} {E : Value → Shared → Prop} {s : Shared} {mg mb : Str → Option Value} {news : List (Addr × Obj)}

def compN : Stmt := stAt (recAt 2).body 4
set_option maxHeartbeats 4000000 in
theorem numbers_st {wd : Int} {tw : Tok} {oW oS oL : Obj} {fvs : List Value} {nS : Nat} {Q : Flow → Shared → Prop} (F : Fr h₀ L s.heap m) (N : News h₀ L s.heap news) (hh : A.handled = none)
    (hW : (L + 1, oW) ∈ news) (hWd : oW.data = .cell (some (.int wd tw))) (hS : (L + 2, oS) ∈ news) (hSd : oS.data = .cell (some (.ref S))) (hL : (S, oL) ∈ news) (hLc : oL.cls = .type "list") (hLd : oL.data = .seq fvs.toArray nS) (hf : IntsAre fvs firsts)
    (hg : h₀.Ns mainGlobals mg) (hn : mg "range" = none) (hb : h₀.Ns builtinsNs mb) (hv : mb "range" = some (.type "range"))
    (hQ : ∀ D ys h' tk, Fr h₀ L h' (fun z => if z = "numbers" then some (.ref D) else m z) → News h₀ L h' news → h₀.get? D = none → h'.IsList D ys.toArray → IntsAre ys (numsOf wd) → Q .next { s with heap := h', toks := tk }) :
    wpAny (model prog w) A (exec compN (lawEnv L fa cd)) Q E s := by
  refine Assign_ListComp_DCr (h₀ := h₀) (L := L) (m := m) (pz := early wd) (d := fun k => .int (k + 1)) (by rfl) (by rfl) hh (by rfl) (by decide +kernel) (by rfl) (by decide +kernel) (by rfl) (by rfl) (by rfl) ?_ (by intro _; rfl)
  refine Call_ ?_
  refine Name_function_global (by rfl) (by rfl) (loadGlobal_builtin (env := lawEnv L fa cd) (hg.keeps F.keep) hn (hb.keeps F.keep) hv ?_) (by decide)
  refine callWith_type1 ?_ (he := rfl) (hplain := rfl)
  refine args_cons ?_
  refine wpAny_Constant_int ?_
  refine args_nil ?_
  refine call_range_1 ?_
  have kp : ∀ b o, s.heap.get? b = some o → (s.heap.push { cls := .type "range", data := .fields #[.int 0 (s.toks + 1), .int 7 s.toks, .int 1 (s.toks + 1 + 1)] }).get? b = some o := fun b o e => Heap.get?_push_of_some _ e
  have seven_eq : rangeInts 0 1 7 = seven := by decide
  have cell : ∀ {s₂ : Shared}, (∀ b o, (s.heap.push { cls := .type "range", data := .fields #[.int 0 (s.toks + 1), .int 7 s.toks, .int 1 (s.toks + 1 + 1)] }).get? b = some o → s₂.heap.get? b = some o) → s₂.heap.IsCell (L + 1) (some (.int wd tw)) ∧ s₂.heap.IsCell (L + 2) (some (.ref S)) ∧ s₂.heap.IsList S fvs.toArray :=
    fun k => ⟨⟨oW, k _ _ (kp _ _ (N.get hW)), hWd⟩, ⟨oS, k _ _ (kp _ _ (N.get hS)), hSd⟩, ⟨oL, k _ _ (kp _ _ (N.get hL)), hLc, nS, hLd⟩⟩
  refine ⟨news, _, 0, 7, 1, _, _, _, 7, rfl, Heap.get?_push_size _ rfl, by decide, by decide, by size_fits, F.keeps kp, N.grown kp, ?_, ?_, ?_⟩
  · rintro C a v s₂ m₂ E' hC ha ⟨ta, rfl⟩ hn₂ hk₂ k₂
    obtain ⟨c1, c2, c3⟩ := cell k₂
    have ha7 : 0 ≤ a ∧ a < 7 := by
      rw [seven_eq] at ha
      have : ∀ a ∈ seven, 0 ≤ a ∧ a < 7 := by decide
      exact this a ha
    obtain ⟨tv, hv⟩ := hf.get a.toNat (firsts.getD a.toNat 0) (by
      have h7 : a.toNat < firsts.length := by show a.toNat < 7; omega
      simp [h7])
    refine one_test ?_
    refine wpAny_isTrue_Compare1 ?_
    refine Subscript_ ?_
    refine wpAny_Name (wpAny_loadName_cell (c := L + 2) (by rfl) (by rfl) (by rfl) c2 ?_)
    refine wpAny_Name (wpAny_loadName_local (by rfl) (by rfl) hn₂ hk₂ ?_)
    refine la_sub c3 ha7.1 (by omega) (by simpa using hv) ?_
    refine wpAny_Name (wpAny_loadName_cell (c := L + 1) (by rfl) (by rfl) (by rfl) c1 ?_)
    refine lt_int (wpAny_truthy_bool ⟨rfl, _, _, rfl, fun _ _ e => e⟩)
  · rintro C a v s₂ m₂ E' hC ha ⟨ta, rfl⟩ _ hn₂ hk₂ k₂
    refine wpAny_BinOp ?_
    refine wpAny_Name (wpAny_loadName_local (by rfl) (by rfl) hn₂ hk₂ ?_)
    refine wpAny_Constant_int (add_int ⟨.int _ _, _, _, rfl, fun _ _ e => e⟩)
  · intro D ys h' tk F' N' hD hl hp hc
    rw [seven_eq] at hc
    refine hQ D ys h' tk F' N' hD hl (carried_ints ?_)
    unfold numsOf
    rw [List.map_map]; exact hc
end
end Mine
end
section
open PySem PySem.W PyProof.Rows PySem.Calls
set_option maxRecDepth 100000
namespace Mine
section
variable {w : World} {A : Around} {L T N CL fa S : Addr} {cd : Value} {h h' h₀ : Heap} {m m' : Str → Option Value} {E : Value → Shared → Prop} {s : Shared} {mg mb : Str → Option Value} {news : List (Addr × Obj)}
theorem meets_dict_lenH (d : Addr) (hd : (d == sysModules) = false) :
    MeetsIn prog w (Builtin.«dict.__len__» ⟨[.ref d], []⟩) (fun _ R s => ∃ xs, s.heap.DictOfH (TK w) d xs ∧ R (.ok (.ret (.int xs.length s.toks))) { s with toks := s.toks + 1 }) :=
  .of_wp fun A R s ⟨kvs, hm, h⟩ => by
    obtain ⟨o, es, ep, ho, hc, hdat, he, hp, hn⟩ := hm
    show wpAny _ _ (dictSize d >>= _) _ _ s
    unfold dictSize
    refine wpAny_bind (wpAny_bind (wpAny_dictEntries ho hdat (wpAny_pure ?_)))
    show wpAny _ _ (Builtin.Dict.pendingCount d >>= _) _ _ s
    refine wpAny_bind (wpAny_pendingCount_other hd ?_)
    refine wpAny_ret_mkInt ?_
    rw [Nat.add_zero, size_of_entries he]; exact h
theorem call_len_dictH {d : Addr} {xs : List (List Int × Addr × Value)} {Q : Value → Shared → Prop} (hd : (d == sysModules) = false) (hm : s.heap.DictOfH (TK w) d xs) (hfit : (xs.length : Int) < 2 ^ 63)
    (h : Q (.int xs.length (s.toks + 1)) { s with toks := s.toks + 1 + 1 }) : wpAny (model prog w) A (call (.builtin "len") [.ref d]) Q E s := by
  refine Calls.call_function_entry kind_len plain_len entry_len (args_len1 _) ?_
  unfold Builtin.«len»
  refine wpAny_bind (m := oneArg "len" _) (wpAny_pure ?_)
  refine wpAny_bind (m := callSpecial? (.ref d) (Str.ofString "__len__")) (wpAny_callSpecial?_slot (name := Str.ofString "__len__") hm.typeIs F.slot_dict_len
    (call_meetsIn F.slot_dict_len hm.typeIs F.entry_dict_len (F.args_dict_len_1 _) (meets_dict_lenH d hd) ⟨xs, hm, ?_⟩))
  show wpAny _ _ _ _ _ { s with toks := s.toks + 1 }
  refine wpAny_bind (wpAny_holding (wpAny_pure ?_))
  refine wpAny_bind (wpAny_letGo ?_)
  show wpAny _ _ (if ((xs.length : Nat) : Int) < 0 then _ else _) _ _ _
  rw [if_neg (by omega)]
  show wpAny _ _ (if ((xs.length : Nat) : Int) ≥ 2 ^ 63 then _ else _) _ _ _
  rw [if_neg (by omega)]
  exact wpAny_bind (wpAny_mkInt (wpAny_pure ⟨_, rfl, h⟩))
theorem la_bi {x : Str} {pos : Pos} {v : Value} {Q : Value → Shared → Prop} (hg : s.heap.Ns mainGlobals mg) (hn : mg x = none) (hb : s.heap.Ns builtinsNs mb) (hv : mb x = some v) (h : Q v s)
    (hl : (lawEnv L fa cd).kindOf x = some .globalImplicit := by rfl) (hd : (x == ("__debug__" : Str)) = false := by decide) :
    wpAny (model prog w) A (eval (.Name x pos) (lawEnv L fa cd)) Q E s := Name_function_global (by rfl) hl (loadGlobal_builtin (env := lawEnv L fa cd) hg hn hb hv h) hd
theorem la_len {xs : List (List Int × Addr × Value)} {Q : Value → Shared → Prop} (X : LA w L T s.heap s.heap m xs) (hT : (T == sysModules) = false) (hfit : (xs.length : Int) < 2 ^ 63) (h : Q (.int xs.length (s.toks + 1)) { s with toks := s.toks + 1 + 1 }) :
    wpAny (model prog w) A (call (.builtin "len") [.ref T]) Q E s := call_len_dictH hT X.dict hfit h

section
local macro_rules | `(tactic| walk_at "mine go") => `(tactic| repeat' (first | walk1 | (dsimp only; walk1)))
local macro_rules | `(tactic| walk_at "eval Name") => `(tactic| first | (refine la_ld (by assumption) (by first | rfl | assumption) ?_) | (refine la_bi (by assumption) (by assumption) (by assumption) (by assumption) ?_))
local macro_rules | `(tactic| walk_at "call builtin:len") => `(tactic| first | (refine call_len_list (by assumption) (by assumption) ?_) | (refine la_len (by assumption) (by assumption) (by assumption) ?_))
set_option maxHeartbeats 4000000 in
theorem ret_st {xs : List (List Int × Addr × Value)} {k H : Int} {tk tH : Tok} {items cvs : Array Value} {Q : Flow → Shared → Prop} (X : LA w L T s.heap s.heap m xs) (hT : (T == sysModules) = false)
    (hg : s.heap.Ns mainGlobals mg) (hn : mg "len" = none) (hb : s.heap.Ns builtinsNs mb) (hv : mb "len" = some (.builtin "len"))
    (h1 : m "at" = some (.int k tk)) (h2 : m "numbers" = some (.ref N)) (h3 : m "told" = some (.ref T)) (h4 : m "columns" = some (.ref CL)) (h5 : m "height" = some (.int H tH))
    (hN : s.heap.IsList N items) (hC : s.heap.IsList CL cvs) (f1 : (items.size : Int) < 2 ^ 63) (f2 : (cvs.size : Int) < 2 ^ 63) (f3 : (xs.length : Int) < 2 ^ 63)
    (e1 : k = items.size) (e2 : (xs.length : Int) = cvs.size * H) (hQ : ∀ tk', Q (.ret (.bool true)) { s with toks := tk' }) :
    wpAny (model prog w) A (exec (stAt (recAt 2).body 7) (lawEnv L fa cd)) Q E s := by
  refine wpAny_Return_some ?_
  walk_at "mine go"
  · have e : ((xs.length : Int) == (cvs.size : Int) * H) = true := by simpa using e2
    rw [e]; exact hQ _
  · rename_i hne; exact absurd e1 hne
end
theorem ns_at {a : Addr} {m : Str → Option Value} {B0 : Nat} (x : h.Ns a m) (hl : a < B0) (k : ∀ b o, b < B0 → h.get? b = some o → h'.get? b = some o) : h'.Ns a m := x.at' fun o e => k _ o hl e

set_option maxHeartbeats 4000000 in
theorem tail5 {cs : List Int} {cvs items : List Value} {wd H : Int} {tw tH : Tok} {aN aT bm c P aA : Addr} {ob : Obj} {oW : Obj} {Q : Flow → Shared → Prop}
    (F : Fr h₀ L s.heap m) (N' : News h₀ L s.heap news) (hbig : sysModules < h₀.objs.size) (hh : A.handled = none) (hu : A.units + 1 < cLine) (hroom : A.depth + 1 < recursionLimit)
    (TA : AT mg mb aT bm c P ob h₀.objs.size h₀) (XF : FA aA c h₀.objs.size h₀) (hTop : ∀ h', (∀ b o, b < h₀.objs.size → b ≠ P → h₀.get? b = some o → h'.get? b = some o) → TopAt mg aN h₀.objs.size h') (hga : mg "adam7_generate" = some (.ref aA))
    (hn : mg "len" = none) (hv : mb "len" = some (.builtin "len"))
    (hW : (L + 1, oW) ∈ news) (hWd : oW.data = .cell (some (.int wd tw))) (hN : s.heap.IsList N items.toArray) (hC : s.heap.IsList CL cvs.toArray) (hcs : IntsAre cvs cs)
    (h0 : m "height" = some (.int H tH)) (h1 : m "columns" = some (.ref CL)) (h6 : m "numbers" = some (.ref N)) (hgens : s.gens = #[])
    (Z : Plain cs H items.toArray (passes wd table7)) (hH : 1 ≤ H ∧ H ≤ 24) (hlen : items.length = (passes wd table7).length) (hcnt : ((keysOf cs H (passes wd table7)).length : Int) = cs.length * H) (hcl : cs.length ≤ 4)
    (hQ : ∀ s', (∀ b o, b < h₀.objs.size → b ≠ P → h₀.get? b = some o → s'.heap.get? b = some o) → (∃ ps, s'.heap.TableAt c P ps) → AllBare s'.gens → s'.os = s.os → Q (.ret (.bool true)) s') :
    wpAny (model prog w) A (execs [stAt (recAt 2).body 5, stAt (recAt 2).body 6, stAt (recAt 2).body 7] (lawEnv L fa cd)) Q E s := by
  refine wpAny_execs_cons ?_
  refine Assign_Tuple_swapped ?_
  refine Tuple_ (args_cons (wpAny_Dict_empty (args_cons (wpAny_Constant_int (args_nil ?_)))))
  have hLs := F.ns.lt
  have S₁ : LA w L s.heap.objs.size (s.heap.push { cls := .type "dict", data := .dict #[] }) (s.heap.push { cls := .type "dict", data := .dict #[] }) m [] := .start (F.ns.push _) (Heap.DictOfH.new _) (Nat.ne_of_lt hLs)
  have k₁ : ∀ b o, s.heap.get? b = some o → (s.heap.push { cls := .type "dict", data := .dict #[] }).get? b = some o := fun b o e => Heap.get?_push_of_some _ e
  have hTn : (s.heap.objs.size == sysModules) = false := F.notModules hbig
  have hTk : ∀ b o, s.heap.get? b = some o → b ≠ s.heap.objs.size := fun b o e => Nat.ne_of_lt (Heap.lt_size e)
  have hBL := F.above
  generalize hHp : s.heap.push { cls := .type "dict", data := .dict #[] } = Hp at S₁ k₁
  generalize hT : s.heap.objs.size = T at S₁ hTk hTn hLs
  refine la_tuple S₁ fun D h₂ S₂ ht => ?_
  refine la_items S₂ ht hh (by rfl) fun h₃ S₃ => ?_
  refine assignInOrder_cons (bindName_ (la_st S₃ fun h₄ S₄ => ?_))
  refine assignInOrder_cons (bindName_ (la_st S₄ fun h₅ S₅ => ?_))
  refine assignInOrder_nil ?_
  have low : ∀ b o, b < h₀.objs.size → h₀.get? b = some o → h₅.get? b = some o := fun b o hb e =>
    S₅.kb b o (Nat.ne_of_lt (Nat.lt_of_lt_of_le hb hBL)) (Nat.ne_of_lt (Nat.lt_trans (Nat.lt_of_lt_of_le hb hBL) hLs)) (k₁ b o (F.keep b o e))
  have T₅ := TA.kept low
  have G : Gd A L T h₀.objs.size := ⟨by omega, hh, hu, hBL, Nat.le_of_lt (Nat.lt_of_le_of_lt hBL hLs), hTn⟩
  have hcell : h₅.IsCell (L + 1) (some (.int wd tw)) := ⟨oW, S₅.kb _ _ (N' _ hW).2.1 (hTk _ _ (N'.get hW)) (k₁ _ _ (N'.get hW)), hWd⟩
  have lst : ∀ {a its}, s.heap.IsList a its → h₅.IsList a its := fun hl => S₅.list S₁ (let ⟨o, ho, r⟩ := hl; ⟨o, k₁ _ _ ho, r⟩)
  refine wpAny_execs_cons ?_
  refine for1 (B0 := h₀.objs.size) (CL := CL) (cvs := cvs) (items := items.toArray) (tw := tw) (tH := tH) S₅.now G T₅ (XF.kept low) hroom
    (fun h' k => hTop h' fun b o hb hp e => k b o hb hp (low b o hb e)) Z hcs hH (lst hN) (lst hC) hga hcell h0 h1 (by rfl) h6 (by rfl) hgens fun s' m' xs' ti S' hm hat hxs TA' hN' hC' hold hgn hos => ?_
  have hxl : xs'.length = (keysOf cs H (passes wd table7)).length := by rw [← hxs, List.length_map]
  have hpl : (passes wd table7).length ≤ 7 := List.length_filter_le _ _
  have hcv : cvs.length = cs.length := hcs.length
  have hcH : (cs.length : Int) * H ≤ 4 * 24 := Int.mul_le_mul (by omega) hH.2 (by omega) (by omega)
  refine wpAny_execs_cons ?_
  refine ret_st (w := w) (m := m') (xs := xs') (k := (passes wd table7).length) (H := H) S' hTn TA'.g hn TA'.b hv hat ((hm _ (by decide) (by decide) (by decide)).trans h6) ((hm _ (by decide) (by decide) (by decide)).trans rfl) ((hm _ (by decide) (by decide) (by decide)).trans h1)
    ((hm _ (by decide) (by decide) (by decide)).trans h0) hN' hC' ?_ ?_ ?_ ?_ ?_ fun tk' => ?_
  · rw [List.size_toArray]; omega
  · rw [List.size_toArray]; omega
  · rw [hxl, hcnt]; omega
  · rw [List.size_toArray, hlen]
  · rw [hxl, hcnt, List.size_toArray, hcv]
  · refine hQ _ (fun b o hb hp e => hold b o hb hp (low b o hb e)) ?_ hgn hos
    obtain ⟨ps, _, ht⟩ := TA'.tab
    exact ⟨ps, ht⟩
end
end Mine
end
section
open PySem PySem.W PyProof.Rows PySem.Calls
set_option maxRecDepth 100000
namespace Mine
def lowN (p : Int) : Int := if p % 8 = 0 then 3 else if p % 4 = 0 then 2 else if p % 2 = 0 then 1 else 0
theorem noughN_low (p : Int) : noughN 3 p = lowN p := by
  simp only [noughN, lowN, Int.fmod_eq_emod_of_nonneg _ (show (0 : Int) ≤ 2 by decide), Int.fdiv_eq_ediv_of_nonneg _ (show (0 : Int) ≤ 2 by decide)]
  repeat' split
  all_goals omega
theorem due_low {c y k : Int} (h : (if lowN y ≤ lowN c then 7 - 2 * lowN y else 6 - 2 * lowN c) = k) : k = dueOf c y := by
  unfold dueOf; rw [noughN_low, noughN_low]; exact h.symm
def rowAt (k : Int) : Row := table7.getD k.toNat (0, 0, 1, 1)
theorem hit_iff {x st c : Int} : hitB x st c = true ↔ x ≤ c ∧ (c - x).fmod st = 0 := by
  unfold hitB; rw [Bool.and_eq_true, decide_eq_true_iff, decide_eq_true_iff]
theorem due_all {k : Int} (hk : k ∈ seven) {c : Int} {j : Nat} (hb : hitB (rowAt k).1 (rowAt k).2.2.1 c = true) : k + 1 = dueOf c ((rowAt k).2.1 + (j : Int) * (rowAt k).2.2.2) := by
  obtain ⟨h1, h2⟩ := hit_iff.mp hb
  have hk' : k = 0 ∨ k = 1 ∨ k = 2 ∨ k = 3 ∨ k = 4 ∨ k = 5 ∨ k = 6 := by simpa [seven] using hk
  rcases hk' with rfl | rfl | rfl | rfl | rfl | rfl | rfl
  · have e : rowAt 0 = (0, 0, 8, 8) := rfl
    rw [e] at h1 h2 ⊢; dsimp only at h1 h2 ⊢
    rw [Int.fmod_eq_emod_of_nonneg _ (by decide)] at h2
    refine due_low ?_
    unfold lowN
    repeat' split
    all_goals omega
  · have e : rowAt 1 = (4, 0, 8, 8) := rfl
    rw [e] at h1 h2 ⊢; dsimp only at h1 h2 ⊢
    rw [Int.fmod_eq_emod_of_nonneg _ (by decide)] at h2
    refine due_low ?_
    unfold lowN
    repeat' split
    all_goals omega
  · have e : rowAt 2 = (0, 4, 4, 8) := rfl
    rw [e] at h1 h2 ⊢; dsimp only at h1 h2 ⊢
    rw [Int.fmod_eq_emod_of_nonneg _ (by decide)] at h2
    refine due_low ?_
    unfold lowN
    repeat' split
    all_goals omega
  · have e : rowAt 3 = (2, 0, 4, 4) := rfl
    rw [e] at h1 h2 ⊢; dsimp only at h1 h2 ⊢
    rw [Int.fmod_eq_emod_of_nonneg _ (by decide)] at h2
    refine due_low ?_
    unfold lowN
    repeat' split
    all_goals omega
  · have e : rowAt 4 = (0, 2, 2, 4) := rfl
    rw [e] at h1 h2 ⊢; dsimp only at h1 h2 ⊢
    rw [Int.fmod_eq_emod_of_nonneg _ (by decide)] at h2
    refine due_low ?_
    unfold lowN
    repeat' split
    all_goals omega
  · have e : rowAt 5 = (1, 0, 2, 2) := rfl
    rw [e] at h1 h2 ⊢; dsimp only at h1 h2 ⊢
    rw [Int.fmod_eq_emod_of_nonneg _ (by decide)] at h2
    refine due_low ?_
    unfold lowN
    repeat' split
    all_goals omega
  · have e : rowAt 6 = (0, 1, 1, 2) := rfl
    rw [e] at h1 h2 ⊢; dsimp only at h1 h2 ⊢
    rw [Int.fmod_eq_emod_of_nonneg _ (by decide)] at h2
    refine due_low ?_
    unfold lowN
    repeat' split
    all_goals omega
theorem passes_idx (wd : Int) : passes wd table7 = (seven.filter (early wd)).map rowAt := by
  unfold passes early
  by_cases h0 : (0 : Int) < wd <;> by_cases h1 : (1 : Int) < wd <;> by_cases h2 : (2 : Int) < wd <;> by_cases h4 : (4 : Int) < wd <;>
    simp [table7, seven, firsts, rowAt, h0, h1, h2, h4]
end Mine
end
section
open PySem PySem.W PyProof.Rows PySem.Calls
set_option maxRecDepth 100000
namespace Mine
abbrev idxs (wd : Int) : List Int := seven.filter (early wd)
theorem row_ok : ∀ k ∈ seven, (rowAt k).2.2.1 ≠ 0 ∧ 0 < (rowAt k).2.2.2 ∧ 0 ≤ (rowAt k).2.1 := by decide
theorem nl_le : ∀ n ∈ (List.range 25).tail, ∀ k ∈ seven, nl (n : Nat) (rowAt k) ≤ 24 := by decide +kernel
theorem in25 {H : Int} (hH : 1 ≤ H ∧ H ≤ 24) : H.toNat ∈ (List.range 25).tail ∧ ((H.toNat : Nat) : Int) = H := by
  refine ⟨?_, Int.toNat_of_nonneg (by omega)⟩
  have : H.toNat < 25 ∧ 1 ≤ H.toNat := by omega
  generalize H.toNat = n at this
  simp; omega
theorem idx_at {wd : Int} {i : Nat} {r : Row} (e : (passes wd table7)[i]? = some r) : ∃ k, (idxs wd)[i]? = some k ∧ k ∈ seven ∧ r = rowAt k := by
  rw [passes_idx, List.getElem?_map] at e
  cases q : (idxs wd)[i]? with
  | none => rw [q] at e; cases e
  | some k => rw [q] at e; exact ⟨k, rfl, (List.mem_filter.mp (List.mem_of_getElem? q)).1, (Option.some.inj e).symm⟩
theorem idx_nodup (wd : Int) : (idxs wd).Nodup := (List.filter_sublist (l := seven)).nodup (by decide)
theorem keysOf_len {cs : List Int} {H : Int} : ∀ (ps : List Row), (∀ r ∈ ps, nl H r ≤ 24) → (keysOf cs H ps).length ≤ ps.length * (24 * cs.length)
  | [], _ => by simp [keysOf]
  | r :: ps, h => by
    have h1 := keysOf_len (cs := cs) (H := H) ps fun r hr => h r (List.mem_cons_of_mem _ hr)
    have h2 := lineKeys_len (x := r.1) (st := r.2.2.1) (y0 := r.2.1) (ys := r.2.2.2) (cs := cs) (j := nl H r)
    have h3 : nl H r * cs.length ≤ 24 * cs.length := Nat.mul_le_mul_right _ (h r (List.mem_cons_self ..))
    have e : keysOf cs H (r :: ps) = passKeys cs H r ++ keysOf cs H ps := List.flatMap_cons ..
    rw [e, List.length_append, List.length_cons, Nat.succ_mul]
    unfold passKeys
    omega
theorem plain {cs : List Int} {H wd : Int} {ys : List Value} (hys : IntsAre ys (numsOf wd)) (hH : 1 ≤ H ∧ H ≤ 24) (hnd : cs.Nodup) (hcl : cs.length ≤ 4) : Plain cs H ys.toArray (passes wd table7) := by
  obtain ⟨h25, eH⟩ := in25 hH
  have hpl : (passes wd table7).length ≤ 7 := List.length_filter_le _ _
  have hnl : ∀ k ∈ seven, nl H (rowAt k) ≤ 24 := fun k hk => eH ▸ nl_le _ h25 k hk
  refine ⟨fun i r e => ?_, fun i r e => ?_, fun i r e j hj c hc hb hmem => ?_, hnd, fun i r e => ?_, by omega⟩
  · obtain ⟨k, _, hk, rfl⟩ := idx_at e
    exact row_ok k hk
  · obtain ⟨k, hi, hk, rfl⟩ := idx_at e
    obtain ⟨t, ht⟩ := hys.get i (k + 1) (by unfold numsOf; rw [List.getElem?_map, hi]; rfl)
    refine ⟨k + 1, t, by simpa using ht, fun j _ c _ hb => due_all hk hb⟩
  · obtain ⟨k, hi, hk, rfl⟩ := idx_at e
    unfold keysOf at hmem
    obtain ⟨r', hr', hmem⟩ := List.mem_flatMap.mp hmem
    obtain ⟨i', hi', hv⟩ := List.getElem_of_mem hr'
    rw [List.length_take] at hi'
    rw [List.getElem_take] at hv
    have e' : (passes wd table7)[i']? = some r' := by rw [← hv]; exact List.getElem?_eq_getElem (by omega)
    obtain ⟨k', hi2, hk', rfl⟩ := idx_at e'
    obtain ⟨j', _, c', _, hb', eq⟩ := mem_lineKeys.mp hmem
    have e1 : c = c' := (List.cons.inj eq).1
    have e2 := (List.cons.inj (List.cons.inj eq).2).1
    have d1 := due_all (j := j) hk hb
    have d2 := due_all (j := j') hk' hb'
    rw [← e1, ← e2, ← d1] at d2
    have ek : k' = k := by omega
    subst ek
    obtain ⟨a1, b1⟩ := List.getElem?_eq_some_iff.mp hi
    obtain ⟨a2, b2⟩ := List.getElem?_eq_some_iff.mp hi2
    have := (List.getElem_inj (h₀ := a2) (h₁ := a1) (idx_nodup wd)).mp (b2.trans b1.symm)
    omega
  · obtain ⟨k, hi, hk, rfl⟩ := idx_at e
    have h1 := keysOf_len (cs := cs) (H := H) ((passes wd table7).take i) fun r hr => by
      obtain ⟨i', hi', hv⟩ := List.getElem_of_mem hr
      rw [List.length_take] at hi'
      rw [List.getElem_take] at hv
      obtain ⟨k', _, hk', rfl⟩ := idx_at (i := i') (r := r) (by rw [← hv]; exact List.getElem?_eq_getElem (by omega))
      exact hnl k' hk'
    have h2 : ((passes wd table7).take i).length ≤ 7 := by rw [List.length_take]; omega
    have h3 : ((passes wd table7).take i).length * (24 * cs.length) ≤ 7 * (24 * 4) := Nat.mul_le_mul h2 (Nat.mul_le_mul_left _ hcl)
    have h4 : nl H (rowAt k) * cs.length ≤ 24 * 4 := Nat.mul_le_mul (hnl k hk) hcl
    have : sizeLine = 16777216 := rfl
    omega
def share (H : Int) (c : Int) (r : Row) : Nat := if hitB r.1 r.2.2.1 c = true then nl H r else 0
theorem lineKeys_count {x st y0 ys : Int} {cs : List Int} : ∀ (j : Nat), (lineKeys x st y0 ys cs j).length = j * (cs.filter (hitB x st)).length
  | 0 => by simp [lineKeys]
  | j + 1 => by
    rw [lineKeys_succ, List.length_append, lineKeys_count j, Nat.succ_mul]
    unfold hitK; rw [List.length_map]
theorem keysOf_cons {c : Int} {cs : List Int} {H : Int} : ∀ (ps : List Row), (keysOf (c :: cs) H ps).length = (ps.map (share H c)).sum + (keysOf cs H ps).length
  | [] => rfl
  | r :: ps => by
    have e : ∀ cs, keysOf cs H (r :: ps) = passKeys cs H r ++ keysOf cs H ps := fun cs => List.flatMap_cons ..
    rw [e, e, List.length_append, List.length_append, keysOf_cons ps, List.map_cons, List.sum_cons]
    have : (passKeys (c :: cs) H r).length = share H c r + (passKeys cs H r).length := by
      unfold passKeys share
      rw [lineKeys_count, lineKeys_count]
      by_cases hb : hitB r.1 r.2.2.1 c = true
      · rw [List.filter_cons_of_pos hb, List.length_cons, if_pos hb, Nat.mul_succ, Nat.add_comm]
      · rw [List.filter_cons_of_neg hb, if_neg hb, Nat.zero_add]
    omega
def share8 (H : Int) (c : Int) : Nat := (table7.map (share H c)).sum
theorem share8_ok : ∀ n ∈ (List.range 25).tail, ∀ c ∈ (List.range 8), share8 (n : Nat) (c : Nat) = n := by decide +kernel
theorem hit_mod : ∀ r ∈ table7, ∀ c : Int, 0 ≤ c → hitB r.1 r.2.2.1 c = hitB r.1 r.2.2.1 (c % 8) := by
  intro r hr c hc
  have hr' : r = (0, 0, 8, 8) ∨ r = (4, 0, 8, 8) ∨ r = (0, 4, 4, 8) ∨ r = (2, 0, 4, 4) ∨ r = (0, 2, 2, 4) ∨ r = (1, 0, 2, 2) ∨ r = (0, 1, 1, 2) := by simpa [table7] using hr
  rw [Bool.eq_iff_iff, hit_iff, hit_iff]
  rcases hr' with rfl | rfl | rfl | rfl | rfl | rfl | rfl <;> dsimp only <;> rw [Int.fmod_eq_emod_of_nonneg _ (by decide), Int.fmod_eq_emod_of_nonneg _ (by decide)] <;> omega
theorem share_sum {H wd c : Int} (hH : 1 ≤ H ∧ H ≤ 24) (hc : 0 ≤ c) (hw : c < wd) : (((passes wd table7).map (share H c)).sum : Nat) = H.toNat := by
  obtain ⟨h25, eH⟩ := in25 hH
  have e1 : ∀ l : List Row, ((passes wd l).map (share H c)).sum = (l.map (share H c)).sum := by
    intro l
    induction l with
    | nil => rfl
    | cons r l ih =>
      by_cases hr : r.1 < wd
      · have : passes wd (r :: l) = r :: passes wd l := by unfold passes; rw [List.filter_cons_of_pos (by simpa using hr)]
        rw [this, List.map_cons, List.map_cons, List.sum_cons, List.sum_cons, ih]
      · have : passes wd (r :: l) = passes wd l := by unfold passes; rw [List.filter_cons_of_neg (by simpa using hr)]
        have z : share H c r = 0 := if_neg fun hb => by have := (hit_iff.mp hb).1; omega
        rw [this, List.map_cons, List.sum_cons, ih, z, Nat.zero_add]
  rw [e1]
  have e2 : table7.map (share H c) = table7.map (share H (c % 8)) := List.map_congr_left fun r hr => by unfold share; rw [hit_mod r hr c hc]
  rw [e2]
  have h8 : (c % 8).toNat ∈ List.range 8 := by simp; omega
  have := share8_ok _ h25 _ h8
  rw [eH, Int.toNat_of_nonneg (by omega)] at this
  exact this
theorem count_all {H wd : Int} (hH : 1 ≤ H ∧ H ≤ 24) : ∀ (cs : List Int), (∀ c ∈ cs, 0 ≤ c ∧ c < wd) → (((keysOf cs H (passes wd table7)).length : Nat) : Int) = (cs.length : Int) * H
  | [], _ => by
    have : keysOf [] H (passes wd table7) = [] := by
      unfold keysOf passKeys lineKeys hitK
      simp
    rw [this]; simp
  | c :: cs, h => by
    rw [keysOf_cons, share_sum hH (h c (List.mem_cons_self ..)).1 (h c (List.mem_cons_self ..)).2, Int.natCast_add, count_all hH cs fun c hc => h c (List.mem_cons_of_mem _ hc), List.length_cons, Int.natCast_succ, Int.add_mul, Int.toNat_of_nonneg (by omega)]
    omega
end Mine
end
section
open PySem PySem.W PyProof.Rows PySem.Calls
set_option maxRecDepth 100000
namespace Mine
section
variable {w : World} {A : Around} {L T N CL fa S : Addr} {cd : Value} {h h' h₀ : Heap} {m m' : Str → Option Value} {E : Value → Shared → Prop} {s : Shared} {mg mb : Str → Option Value} {news : List (Addr × Obj)}
set_option maxHeartbeats 4000000 in
theorem tail4 {cs : List Int} {cvs fvs : List Value} {wd H : Int} {tw tH : Tok} {aN aT bm c P aA : Addr} {ob : Obj} {oW oS oL oC : Obj} {nS nC : Nat} {Q : Flow → Shared → Prop}
    (F : Fr h₀ L s.heap m) (N' : News h₀ L s.heap news) (hbig : sysModules < h₀.objs.size) (hh : A.handled = none) (hu : A.units + 1 < cLine) (hroom : A.depth + 1 < recursionLimit)
    (TA : AT mg mb aT bm c P ob h₀.objs.size h₀) (XF : FA aA c h₀.objs.size h₀) (hTop : ∀ h', (∀ b o, b < h₀.objs.size → b ≠ P → h₀.get? b = some o → h'.get? b = some o) → TopAt mg aN h₀.objs.size h') (hga : mg "adam7_generate" = some (.ref aA))
    (hn : mg "len" = none) (hv : mb "len" = some (.builtin "len"))
    (hW : (L + 1, oW) ∈ news) (hWd : oW.data = .cell (some (.int wd tw))) (hS : (L + 2, oS) ∈ news) (hSd : oS.data = .cell (some (.ref S))) (hL : (S, oL) ∈ news) (hLc : oL.cls = .type "list") (hLd : oL.data = .seq fvs.toArray nS) (hf : IntsAre fvs firsts)
    (hC : (CL, oC) ∈ news) (hCc : oC.cls = .type "list") (hCd : oC.data = .seq cvs.toArray nC) (hcs : IntsAre cvs cs) (hnd : cs.Nodup) (hcl : cs.length ≤ 4) (hin : ∀ c ∈ cs, 0 ≤ c ∧ c < wd)
    (h0 : m "height" = some (.int H tH)) (h1 : m "columns" = some (.ref CL)) (hgens : s.gens = #[]) (hH : 1 ≤ H ∧ H ≤ 24)
    (hQ : ∀ s', (∀ b o, b < h₀.objs.size → b ≠ P → h₀.get? b = some o → s'.heap.get? b = some o) → (∃ ps, s'.heap.TableAt c P ps) → AllBare s'.gens → s'.os = s.os → Q (.ret (.bool true)) s') :
    wpAny (model prog w) A (execs [stAt (recAt 2).body 4, stAt (recAt 2).body 5, stAt (recAt 2).body 6, stAt (recAt 2).body 7] (lawEnv L fa cd)) Q E s := by
  refine wpAny_execs_cons ?_
  refine numbers_st F N' hh hW hWd hS hSd hL hLc hLd hf TA.g TA.rg.1 TA.b TA.rg.2 fun D ys h' tk F₁ N₁ hD hl hys => ?_
  have hlen : ys.length = (passes wd table7).length := by
    rw [hys.length, passes_idx, List.length_map]; unfold numsOf; rw [List.length_map]
  exact tail5 (tw := tw) (tH := tH) F₁ N₁ hbig hh hu hroom TA XF hTop hga hn hv hW hWd hl ⟨oC, N₁.get hC, hCc, nC, hCd⟩ hcs h0 h1 (by rfl) hgens (plain hys hH hnd hcl) hH hlen (count_all hH cs hin) hcl hQ
end
end Mine
end
section
open PySem PySem.W PyProof.Rows PySem.Calls
set_option maxRecDepth 100000
namespace Mine
def Up (l : List Nat) : Prop := l.Pairwise (· < ·)
/-- where j belongs in xs -/
def Cut (xs : Array Nat) (j p : Nat) : Prop := p ≤ xs.size ∧ (∀ i (h : i < xs.size), i < p → xs[i] < j) ∧ ∀ i (h : i < xs.size), p ≤ i → j ≤ xs[i]
theorem up_lt {xs : Array Nat} (hu : Up xs.toList) {i k : Nat} (hik : i < k) (hk : k < xs.size) : xs[i] < xs[k] := by
  have := List.pairwise_iff_getElem.mp hu i k (by simp; omega) (by simpa using hk) hik
  simpa using this
theorem below_go {xs : Array Nat} (hu : Up xs.toList) (j : Nat) : ∀ (fuel lo hi : Nat), hi ≤ xs.size → lo ≤ hi → hi - lo ≤ fuel → (∀ i (h : i < xs.size), i < lo → xs[i] < j) → (∀ i (h : i < xs.size), hi ≤ i → j ≤ xs[i]) → Cut xs j (SetTable.below.go xs j fuel lo hi)
  | 0, lo, hi, h1, h2, h3, h4, h5 => by
    have e : lo = hi := by omega
    subst e
    exact ⟨h1, h4, h5⟩
  | fuel + 1, lo, hi, h1, h2, h3, h4, h5 => by
    unfold SetTable.below.go
    by_cases hlt : lo < hi
    · rw [if_pos hlt]
      dsimp only
      have hm : (lo + hi) / 2 < xs.size := by omega
      have eg : xs.getD ((lo + hi) / 2) j = xs[(lo + hi) / 2] := by simp [Array.getD, hm]
      rw [eg]
      by_cases hj : xs[(lo + hi) / 2] < j
      · rw [if_pos hj]
        refine below_go hu j fuel _ _ h1 (by omega) (by omega) (fun i h hi' => ?_) h5
        rcases Nat.lt_or_ge i ((lo + hi) / 2) with q | q
        · exact Nat.lt_trans (up_lt hu q hm) hj
        · have : i = (lo + hi) / 2 := by omega
          subst this; exact hj
      · rw [if_neg hj]
        refine below_go hu j fuel _ _ (by omega) (by omega) (by omega) h4 fun i h hi' => ?_
        rcases Nat.lt_or_ge ((lo + hi) / 2) i with q | q
        · exact Nat.le_of_lt (Nat.lt_of_le_of_lt (Nat.le_of_not_lt hj) (up_lt hu q h))
        · have : i = (lo + hi) / 2 := by omega
          subst this; exact Nat.le_of_not_lt hj
    · rw [if_neg hlt]
      have e : lo = hi := by omega
      subst e
      exact ⟨h1, h4, h5⟩
theorem below_cut {xs : Array Nat} (hu : Up xs.toList) (j : Nat) : Cut xs j (SetTable.below xs j) :=
  below_go hu j xs.size 0 xs.size (Nat.le_refl _) (Nat.zero_le _) (by omega) (fun i h hi => absurd hi (Nat.not_lt_zero _)) fun i h hi => absurd h (Nat.not_lt.mpr hi)
/-- from one past a place to the next -/
theorem below_next {xs : Array Nat} (hu : Up xs.toList) {i : Nat} (h : i < xs.size) : SetTable.below xs (xs[i] + 1) = i + 1 := by
  obtain ⟨h1, h2, h3⟩ := below_cut hu (xs[i] + 1)
  generalize SetTable.below xs (xs[i] + 1) = p at h1 h2 h3
  have a : ¬ p ≤ i := fun q => by have := h3 i h q; omega
  have b : ¬ i + 1 < p := fun q => by
    have hp : i + 1 < xs.size := by omega
    have := h2 (i + 1) hp q
    have := up_lt hu (show i < i + 1 by omega) hp
    omega
  omega
theorem below_zero {xs : Array Nat} (hu : Up xs.toList) : SetTable.below xs 0 = 0 := by
  obtain ⟨h1, h2, h3⟩ := below_cut hu 0
  generalize SetTable.below xs 0 = p at h1 h2 h3
  rcases Nat.eq_zero_or_pos p with q | q
  · exact q
  · exact absurd (h2 0 (by omega) q) (Nat.not_lt_zero _)
theorem insertAt_list {α : Type} (xs : Array α) (p : Nat) (x : α) (hp : p ≤ xs.size) : (SetTable.insertAt xs p x).toList = xs.toList.take p ++ x :: xs.toList.drop p := by
  unfold SetTable.insertAt
  simp [List.extract]
  exact List.take_of_length_le (by simp)
theorem insert_up {xs : Array Nat} (hu : Up xs.toList) {j p : Nat} (hc : Cut xs j p) (hj : xs[p]? ≠ some j) : Up (SetTable.insertAt xs p j).toList := by
  rw [insertAt_list _ _ _ hc.1]
  have e := List.take_append_drop p xs.toList
  unfold Up at hu ⊢
  have hu' : Up xs.toList := hu
  rw [← e] at hu
  obtain ⟨h1, h2, h3⟩ := List.pairwise_append.mp hu
  have lo : ∀ a ∈ xs.toList.take p, a < j := by
    intro a ha
    obtain ⟨i, hi, rfl⟩ := List.getElem_of_mem ha
    rw [List.length_take] at hi
    rw [List.getElem_take]
    simpa using hc.2.1 i (by simp at hi; omega) (by omega)
  have hiN : ∀ a ∈ xs.toList.drop p, j < a := by
    intro a ha
    obtain ⟨i, hi, rfl⟩ := List.getElem_of_mem ha
    rw [List.length_drop] at hi
    rw [List.getElem_drop]
    have hs : p + i < xs.size := by simp at hi; omega
    have q := hc.2.2 (p + i) hs (by omega)
    have q' : j ≠ xs[p + i] := by
      intro e
      rcases Nat.eq_zero_or_pos i with z | z
      · subst z
        exact hj (by rw [Array.getElem?_eq_getElem (by omega)]; exact congrArg some e.symm)
      · have hp' : p < xs.size := by omega
        have a1 := up_lt hu' (show p < p + i by omega) hs
        have a2 := hc.2.2 p hp' (Nat.le_refl _)
        omega
    simp only [Array.getElem_toList]
    omega
  refine List.pairwise_append.mpr ⟨h1, List.pairwise_cons.mpr ⟨hiN, h2⟩, fun a ha b hb => ?_⟩
  rcases List.mem_cons.mp hb with rfl | hb
  · exact lo a ha
  · exact h3 a ha b hb
end Mine
end
section
open PySem PySem.W PyProof.Rows PySem.Calls
set_option maxRecDepth 100000
namespace Mine
/-- a small table without dummies -/
structure Tab (t : SetTable) (n : Nat) (led : Bool) : Prop where
  mask : t.mask = 7
  dum : t.dummies = #[]
  size : t.place.size = n
  up : Up t.place.toList
  plain : t.plain = true
  led : t.led = led
abbrev Live (t : SetTable) (j : Nat) : Prop := t.place[SetTable.below t.place j]? = some j
section
variable {t : SetTable} {n : Nat} {led : Bool}
theorem Tab.slot (X : Tab t n led) (j : Nat) : t.slot j = if Live t j then .live (SetTable.below t.place j) else .empty := by
  have hd : SetTable.has t.dummies j = false := by rw [X.dum]; rfl
  unfold SetTable.slot
  dsimp only
  rw [hd]
  by_cases h : Live t j
  · have hb : (t.place[SetTable.below t.place j]? == some j) = true := by rw [beq_iff_eq]; exact h
    rw [hb, if_pos rfl, if_pos h]
  · have hb : (t.place[SetTable.below t.place j]? == some j) = false := by rw [beq_eq_false_iff_ne]; exact h
    rw [hb, if_neg h]; rfl
def at8 (i p : Nat) : SetTable.Probe := { j := i, more := 0, i, perturb := p, dummy := none }
theorem Tab.start (X : Tab t n led) (h : Int) : t.probeStart h = at8 (SetTable.bits h % 8) (SetTable.bits h) := by
  unfold SetTable.probeStart at8
  rw [X.mask]
  have : SetTable.runEnd 7 (SetTable.bits h % (7 + 1)) - SetTable.bits h % (7 + 1) = 0 := by
    unfold SetTable.runEnd; rw [if_neg (by omega)]; omega
  simp [this]
theorem Tab.advance (X : Tab t n led) (i p : Nat) : t.advance (at8 i p) = at8 ((i * 5 + 1 + p / 32) % 8) (p / 32) := by
  unfold SetTable.advance at8 SetTable.leap
  rw [X.mask]
  have : ∀ k, SetTable.runEnd 7 k - k = 0 := by
    intro k; unfold SetTable.runEnd
    split <;> omega
  simp [this]
theorem Tab.step (X : Tab t n led) (h : Int) (fuel i p : Nat) : SetTable.probe.go t (fun _ => h + 1) h (fuel + 1) (at8 i p) =
    if Live t i then SetTable.probe.go t (fun _ => h + 1) h fuel (at8 ((i * 5 + 1 + p / 32) % 8) (p / 32)) else some (.empty i none) := by
  have e : SetTable.probe.go t (fun _ => h + 1) h (fuel + 1) (at8 i p) = (match t.slot i with
      | .empty => some (.empty i none)
      | .dummy => SetTable.probe.go t (fun _ => h + 1) h fuel (t.advance { at8 i p with dummy := some i })
      | .live k => if (h + 1 == h) = true then some (.candidate i k (t.advance (at8 i p))) else SetTable.probe.go t (fun _ => h + 1) h fuel (t.advance (at8 i p))) := rfl
  rw [e, X.slot, X.advance]
  by_cases hl : Live t i
  · rw [if_pos hl, if_pos hl]
    have : (h + 1 == h) = false := by simp; omega
    simp [this]
  · rw [if_neg hl, if_neg hl]
def orb : Nat → Nat → Nat
  | 0, i => i
  | k + 1, i => orb k ((i * 5 + 1) % 8)
theorem orb_all : ∀ i < 8, ∀ j < 8, ∃ k < 8, orb k i = j := by decide
theorem Tab.flat (X : Tab t n led) (h : Int) : ∀ (m fuel i : Nat), m ≤ fuel → (∃ j, ¬ Live t j ∧ SetTable.probe.go t (fun _ => h + 1) h fuel (at8 i 0) = some (.empty j none)) ∨ ∀ k < m, Live t (orb k i)
  | 0, _, _, _ => .inr fun k hk => absurd hk (Nat.not_lt_zero _)
  | m + 1, 0, _, hf => by omega
  | m + 1, fuel + 1, i, hf => by
    rw [X.step]
    by_cases hl : Live t i
    · rw [if_pos hl]
      rcases X.flat h m fuel ((i * 5 + 1 + 0 / 32) % 8) (by omega) with q | q
      · exact .inl q
      · refine .inr fun k hk => ?_
        cases k with
        | zero => exact hl
        | succ k => exact q k (by omega)
    · rw [if_neg hl]
      exact .inl ⟨i, hl, rfl⟩
theorem live_mem {j : Nat} (hl : Live t j) : j ∈ t.place.toList := by
  have := Array.mem_of_getElem? hl
  simpa using this
theorem Tab.notAll (X : Tab t n led) (hn : n ≤ 3) : ¬ ∀ j < 8, Live t j := by
  intro h
  have m0 := live_mem (h 0 (by decide))
  have m1 := live_mem (h 1 (by decide))
  have m2 := live_mem (h 2 (by decide))
  have m3 := live_mem (h 3 (by decide))
  have hlen : t.place.toList.length ≤ 3 := by have := X.size; simp; omega
  revert m0 m1 m2 m3 hlen
  generalize t.place.toList = l
  intro m0 m1 m2 m3 hlen
  match l, hlen with
  | [], _ => cases m0
  | [a], _ => simp at m0 m1 m2 m3; omega
  | [a, b], _ => simp at m0 m1 m2 m3; omega
  | [a, b, c], _ => simp at m0 m1 m2 m3; omega
  | _ :: _ :: _ :: _ :: _, hl => simp at hl
theorem Tab.find (X : Tab t n led) (hn : n ≤ 3) (h : Int) : ∀ (k fuel i p : Nat), p < 32 ^ k → k + 8 ≤ fuel → i < 8 → ∃ j, ¬ Live t j ∧ SetTable.probe.go t (fun _ => h + 1) h fuel (at8 i p) = some (.empty j none)
  | 0, fuel, i, p, hp, hf, hi => by
    have : p = 0 := by simpa using hp
    subst this
    rcases X.flat h 8 fuel i (by omega) with q | q
    · exact q
    · exact absurd (fun j hj => by obtain ⟨k, hk, e⟩ := orb_all i hi j hj; exact e ▸ q k hk) (X.notAll hn)
  | k + 1, 0, i, p, hp, hf, hi => by omega
  | k + 1, fuel + 1, i, p, hp, hf, hi => by
    rw [X.step]
    by_cases hl : Live t i
    · rw [if_pos hl]
      exact X.find hn h k fuel _ _ (by rw [Nat.pow_succ] at hp; omega) (by omega) (Nat.mod_lt _ (by decide))
    · rw [if_neg hl]
      exact ⟨i, hl, rfl⟩
theorem Tab.free (X : Tab t n led) (hn : n ≤ 3) (h : Int) : ∃ j, ¬ Live t j ∧ t.freeSlot h = some (j, false) := by
  have hb : SetTable.bits h < 32 ^ 13 := by unfold SetTable.bits; omega
  obtain ⟨j, h1, h2⟩ := X.find hn h 13 (10 * SetTable.turns 7) (SetTable.bits h % 8) (SetTable.bits h) hb (by decide) (Nat.mod_lt _ (by decide))
  refine ⟨j, h1, ?_⟩
  unfold SetTable.freeSlot SetTable.probe
  rw [X.start, X.mask, h2]
  rfl
theorem Tab.lay (X : Tab t n led) (hn : n ≤ 3) (es : Array (Int × Value)) (h : Int) (x : Value) (he : es.size = n) :
    ∃ p t', p ≤ es.size ∧ layNew t es h x = (SetTable.insertAt es p (h, x), t', false, false) ∧ Tab t' (n + 1) led ∧ t'.tooFull = false := by
  obtain ⟨j, h1, h2⟩ := X.free hn h
  have hc := below_cut X.up j
  have hd : SetTable.has t.dummies j = false := by rw [X.dum]; rfl
  have hl : (SetTable.insertAt t.place (SetTable.below t.place j) j).size = n + 1 := by
    have := congrArg List.length (insertAt_list t.place (SetTable.below t.place j) j hc.1)
    have hs := X.size
    have := hc.1
    simp at *
    omega
  have hle : (SetTable.insertAt es (SetTable.below t.place j) (h, x)).size = n + 1 := by
    have hp : SetTable.below t.place j ≤ es.size := by rw [he, ← X.size]; exact hc.1
    have := congrArg List.length (insertAt_list es (SetTable.below t.place j) (h, x) hp)
    simp at *
    omega
  have X' : Tab { t with place := SetTable.insertAt t.place (SetTable.below t.place j) j } (n + 1) led := ⟨X.mask, X.dum, hl, insert_up X.up hc h1, X.plain, X.led⟩
  have hfit : SetTable.fits { t with place := SetTable.insertAt t.place (SetTable.below t.place j) j } (n + 1) = true := by
    unfold SetTable.fits SetTable.fill
    simp [hl, X.mask, X.dum]; omega
  refine ⟨SetTable.below t.place j, { t with place := SetTable.insertAt t.place (SetTable.below t.place j) j }, by rw [he, ← X.size]; exact hc.1, ?_, X', ?_⟩
  · unfold layNew
    rw [h2]
    simp only [SetTable.put, hd, hle, SetTable.orStandIn, hfit]
    simp
    exact ⟨fun q => absurd (hfit.symm.trans q) (by decide), hfit⟩
  · unfold SetTable.tooFull SetTable.fill
    simp [hl, X.mask, X.dum]; omega
end
end Mine
end
section
open PySem PySem.W PyProof.Rows PySem.Calls
set_option maxRecDepth 100000
namespace Mine
theorem ints_insert {k : Int} {t : Tok} : ∀ {vs : List Value} {ns : List Int}, IntsAre vs ns → ∀ p, IntsAre (vs.take p ++ .int k t :: vs.drop p) (ns.take p ++ k :: ns.drop p)
  | _, _, .nil, p => by simp; exact .cons k t .nil
  | _, _, .cons n u r, 0 => .cons k t (.cons n u r)
  | _, _, .cons n u r, p + 1 => .cons n u (ints_insert r p)
abbrev byText (w : World) : Bool := w.params.followText "set-order"
/-- a set of a few ints, in the order in which it is gone through when sets are led -/
structure SetI (w : World) (o : Obj) (ns : List Int) : Prop where
  ex : o.ExactSet
  data : ∃ es ep t, o.data = .set es ep t ∧ ElemsOf (intKind prog w) es.toList ∧ IntsAre (es.toList.map (·.2)) ns ∧ Tab t ns.length (!byText w)
  nd : ns.Nodup
  len : ns.length ≤ 4
section
variable {w : World} {A : Around} {E : Value → Shared → Prop} {s : Shared}
theorem Tab.fits {t : SetTable} {n : Nat} {led : Bool} (X : Tab t n led) (hn : n ≤ 4) : t.fits n = true := by
  unfold SetTable.fits SetTable.fill
  simp [X.size, X.mask, X.dum]; omega
set_option maxHeartbeats 4000000 in
theorem set_add {a : Addr} {o : Obj} {ns : List Int} {k : Int} {tk : Tok} {Q : Bool → Shared → Prop} (ho : s.heap.get? a = some o) (X : SetI w o ns) (hn : ns.length ≤ 3)
    (h : ∀ b h' o' ns', h'.get? a = some o' → Heap.SameBut a s.heap h' → SetI w o' ns' → (∀ x ∈ ns', x = k ∨ x ∈ ns) → ns'.length ≤ ns.length + 1 → Q b { s with heap := h' }) :
    wpAny (model prog w) A (setAddHashed a (.int k tk) ((intKind prog w).hash k)) Q E s := by
  obtain ⟨hex, ⟨es, ep, t, hd, hel, hi, T⟩, hnd, hlen⟩ := id X
  have hkey : (intKind prog w).is k (.int k tk) = true := intKind_is _ _ _ _
  have hsize : es.size = ns.length := by rw [← hi.length, List.length_map, Array.length_toList]
  have hf : t.fits es.size = true := hsize ▸ T.fits (by omega)
  have hb : es.size < scanBound := by have : scanBound = 4096 := rfl; omega
  unfold setAddHashed setAddHashedIn
  refine wpAny_holding (wpAny_bind (wpAny_setState_of ho hd hf ?_))
  dsimp only
  rw [byScan_of (knd := intKind prog w) rfl hb hel]
  simp only [↓reduceIte]
  unfold setAddByScan
  refine wpAny_bind ?_
  refine wpAny_bind (wpAny_rule ?_)
  refine wpAny_bind (wpAny_setScan_of hkey ho hd hf hel ?_)
  cases hr : List.findIdx? (fun e => (intKind prog w).is k e.2) es.toList with
  | some j =>
    dsimp only
    refine wpAny_pure (wpAny_pure ?_)
    have e : s = { s with heap := s.heap } := by cases s; rfl
    rw [e]
    exact h _ s.heap o ns ho (Heap.SameBut.refl a s.heap) X (fun x hx => .inr hx) (by omega)
  | none =>
    dsimp only
    have hk : k ∉ ns := by
      intro hm
      obtain ⟨i, hil, hiv⟩ := List.getElem_of_mem hm
      obtain ⟨u, hu⟩ := hi.get i k (by rw [List.getElem?_eq_getElem hil, hiv])
      obtain ⟨e, he, hv⟩ := List.mem_map.mp (List.mem_of_getElem? hu)
      have := List.findIdx?_eq_none_iff.mp hr e he
      have hv : e.2 = Value.int k u := hv
      rw [hv, intKind_is] at this
      cases this
    obtain ⟨p, t', hp, hL, T', hfull⟩ := T.lay hn es ((intKind prog w).hash k) (.int k tk) hsize
    rw [hL]
    dsimp only
    have hlist := insertAt_list es p ((intKind prog w).hash k, Value.int k tk) hp
    have hel' : ElemsOf (intKind prog w) (SetTable.insertAt es p ((intKind prog w).hash k, Value.int k tk)).toList := by
      rw [hlist]
      intro e he
      rcases List.mem_append.mp he with he | he
      · exact hel e (List.mem_of_mem_take he)
      rcases List.mem_cons.mp he with rfl | he
      · exact ⟨⟨k, hkey, rfl⟩, rfl⟩
      · exact hel e (List.mem_of_mem_drop he)
    have hi' : IntsAre ((SetTable.insertAt es p ((intKind prog w).hash k, Value.int k tk)).toList.map (·.2)) (ns.take p ++ k :: ns.drop p) := by
      rw [hlist, List.map_append, List.map_cons, List.map_take, List.map_drop]
      exact ints_insert hi p
    have hperm : (ns.take p ++ k :: ns.drop p).Perm (k :: ns) := by
      have := List.perm_middle (a := k) (l₁ := ns.take p) (l₂ := ns.drop p)
      rwa [List.take_append_drop] at this
    have hlen' : (ns.take p ++ k :: ns.drop p).length = ns.length + 1 := hperm.length_eq
    have hsz' : (SetTable.insertAt es p ((intKind prog w).hash k, Value.int k tk)).size ≤ sizeLine := by
      have := hi'.length
      rw [List.length_map, Array.length_toList, hlen'] at this
      rw [this, sizeLine_eq]; omega
    have hpl : t.plain = true := T.plain
    refine wpAny_bind (m := (pure () : Sem Unit)) (wpAny_pure ?_)
    have hpl' : t'.plain = true := T'.plain
    rw [hpl']
    simp only [↓reduceIte]
    rw [hashByValue_scannable 8 rfl]
    refine wpAny_bind (wpAny_pure ?_)
    simp only [plainKind, ↓reduceIte]
    refine wpAny_bind (wpAny_storeSet_of ho hd ?_ hsz')
    rw [hfull]
    simp only [Bool.not_false, Bool.and_false, Bool.false_eq_true, ↓reduceIte]
    refine wpAny_pure (wpAny_pure ?_)
    have hg : (s.heap.update a (Obj.putSet (SetTable.insertAt es p ((intKind prog w).hash k, Value.int k tk)) t')).get? a = some { o with data := .set (SetTable.insertAt es p ((intKind prog w).hash k, Value.int k tk)) (ep + 1) t' } := by
      have := Heap.get?_update_self (Obj.putSet (SetTable.insertAt es p ((intKind prog w).hash k, Value.int k tk)) t') ho (by rw [putSet_of _ t' hd]; rfl)
      rw [putSet_of _ t' hd] at this; exact this
    exact h _ _ _ _ hg (Heap.SameBut.update ..) ⟨hex, ⟨_, _, _, rfl, hel', hi', hlen' ▸ T'⟩, hperm.nodup_iff.mpr (List.nodup_cons.mpr ⟨hk, hnd⟩), by omega⟩
      (fun x hx => List.mem_cons.mp (hperm.mem_iff.mp hx)) (by omega)
end
end Mine
end
section
open PySem PySem.W PyProof.Rows PySem.Calls
set_option maxRecDepth 100000
namespace Mine
section
variable {w : World} {A : Around} {R : Result → Shared → Prop} {I : Addr} {fp wr : List Addr} {G : Array GenState → Array GenState → Prop} {n : Nat} {P : Nat → Value → Prop} {St : Nat → Shared → Prop}
theorem set_loop (W : WalksS prog w A.in1 I fp wr G n P St) (S : Addr) (hSf : S ∉ fp) (val : Nat → Int) (hval : ∀ i v, P i v → ∃ t, v = .int (val i) t) (hn : n ≤ 4) :
    ∀ (k i : Nat) (s : Shared) (o : Obj) (ms : List Int), n - i = k → i ≤ n → St i s → s.heap.get? S = some o → SetI w o ms → (∀ x ∈ ms, ∃ j < n, x = val j) → ms.length ≤ i →
      (∀ s' o' ms', Moved (S :: wr) G s s' → s'.heap.get? S = some o' → SetI w o' ms' → (∀ x ∈ ms', ∃ j < n, x = val j) → ms'.length ≤ n → R (.ok (.ret .none)) s') →
      codeAny (model prog w) A (.builtin "set.update.loop" ⟨[.ref S, .ref I], []⟩) R s := by
  have hSw : S ∉ wr := fun h => hSf (W.sub _ h)
  have hsub : ∀ b ∈ wr, b ∈ S :: wr := fun b hb => List.mem_cons_of_mem _ hb
  intro k
  induction k with
  | zero =>
    intro i s o ms hk hi hst ho hS hv hl hR
    have hin : i = n := by omega
    subst hin
    refine codeAny_builtin F.entry_set_update_loop ?_
    rw [Around.under_plainId F.plain_set_update_loop _]
    show wpAny _ A.in1 (pyNext (.ref I) >>= _) _ _ s
    refine wpAny_bind (W.done s _ _ hst fun s' hm => ?_)
    show wpAny _ A.in1 (ret Value.none) _ _ s'
    exact wpAny_pure (hR s' o ms (hm.mono hsub) (hm.heap S _ hSw ho) hS hv hl)
  | succ k ih =>
    intro i s o ms hk hi hst ho hS hv hl hR
    have hlt : i < n := by omega
    refine codeAny_builtin F.entry_set_update_loop ?_
    rw [Around.under_plainId F.plain_set_update_loop _]
    show wpAny _ A.in1 (pyNext (.ref I) >>= _) _ _ s
    refine wpAny_bind (W.item i s _ _ hlt hst fun v s' hP hst' hm => ?_)
    obtain ⟨t, rfl⟩ := hval i v hP
    have ho' := hm.heap S _ hSw ho
    show wpAny _ A.in1 (holding [Value.int (val i) t] (setAdd S (.int (val i) t)) >>= _) _ _ s'
    refine wpAny_bind (wpAny_holding ?_)
    unfold setAdd
    refine wpAny_holding ?_
    refine wpAny_bind ((intKind prog w).pyHash (k := val i) (intKind_is _ _ _ _) ?_)
    refine set_add (s := { s' with toks := s'.toks + 1 }) ho' hS (by omega) fun b h' o2 ms2 ho2 hsb hS2 hv2 hl2 => ?_
    refine wpAny_pure ⟨plainId_quiet F.plain_set_update_loop _, ih (i + 1) _ o2 ms2 (by omega) hlt (W.frame _ s' _ _ hst' (Nat.le_succ _) fun b hb o e => ?_) ho2 hS2 (fun x hx => ?_) (by omega) fun s'' o'' ms'' hm'' ho'' hS'' hv'' hl'' => ?_⟩
    · rw [hsb.2 b (fun h : b = S => hSf (by rw [← h]; exact hb))]; exact e
    · rcases hv2 x hx with rfl | q
      · exact ⟨i, hlt, rfl⟩
      · exact hv x q
    · refine hR s'' o'' ms'' (Moved.trans W.gtrans ((hm.mono hsub).then_heap (Nat.le_succ _) fun b o hb e => ?_) hm'') ho'' hS'' hv'' hl''
      rw [hsb.2 b (fun h : b = S => hb (by rw [h]; exact List.mem_cons_self))]; exact e
end
section
variable {w : World} {A : Around} {E : Value → Shared → Prop} {s : Shared}
/-- an empty set, as laid -/
abbrev bare (w : World) : Obj := { cls := .type "set", dict := none, data := .set #[] 0 (.fresh 0 0 (!byText w)) }
theorem bare_few (w : World) : SetI w (bare w) [] :=
  ⟨⟨rfl, rfl, rfl⟩, ⟨#[], 0, _, rfl, fun e he => by simp at he, .nil, ⟨rfl, rfl, rfl, List.Pairwise.nil, rfl, rfl⟩⟩, List.nodup_nil, Nat.zero_le _⟩
theorem set_new {x : Value} {Q : Value → Shared → Prop} (h : Q (.ref s.heap.objs.size) { s with heap := s.heap.push (bare w) }) :
    codeAny (model prog w) A (.call (.builtin "set.__new__") ⟨[.type "set", x], []⟩) (wants Q E) s := by
  refine codeAny_of_tree ?_
  show wpAny _ A.in1 (checkBuiltinCall "set.__new__" ⟨[.type "set", x], []⟩ >>= fun _ => again (.builtin "set.__new__" ⟨[.type "set", x], []⟩)) _ _ s
  rw [F.newCall_set_1]
  refine wpAny_bind (wpAny_pure (wpAny_pure ⟨plainId_quiet F.plain_set_new _, codeAny_builtin F.entry_set_new ?_⟩))
  rw [Around.under_plainId F.plain_set_new _]
  have self := sub_set_self
  cases s
  unfold Builtin.«set.__new__» Builtin.Frozenset.newClass
  wp_walk
  exact wpAny_askSetting (wpAny_pure (wpAny_bind (wpAny_alloc (wpAny_pure (wpAny_pure h)))))
set_option maxHeartbeats 4000000 in
/-- filling an empty set from a list -/
theorem set_fill {S l : Addr} {items : Array Value} {ns : List Int} {R : Result → Shared → Prop} (hh : A.handled = none) (hl : s.heap.IsList l items) (hi : IntsAre items.toList ns) (hn : items.size ≤ 4)
    (hS : s.heap.get? S = some (bare w)) (hne : l ≠ S)
    (h : ∀ h' tk o ms, h'.get? S = some o → SetI w o ms → (∀ x ∈ ms, x ∈ ns) → (∀ b o, b ≠ S → s.heap.get? b = some o → h'.get? b = some o) → R (.ok (.ret .none)) { s with heap := h', toks := tk }) :
    codeAny (model prog w) A (.call (.builtin "set.__init__") ⟨[.ref S, .ref l], []⟩) R s := by
  have hT : s.TypeIs (.ref S) "set" := ⟨_, hS, rfl⟩
  refine codeAny_call_builtin F.called_set.init.plain F.entry_set_init (check_set_init_1 hT ?_)
  have lt : l < s.heap.objs.size := by obtain ⟨o, e, _⟩ := hl; exact Heap.lt_size e
  have St : S < s.heap.objs.size := Heap.lt_size hS
  have n1 : l ≠ s.heap.objs.size := Nat.ne_of_lt lt
  have off : S ∉ [s.heap.objs.size, l] := by
    intro q
    rcases List.mem_cons.mp q with q | q
    · exact Nat.ne_of_lt St q
    · exact hne (List.mem_singleton.mp q).symm
  have nz : items.size = ns.length := by rw [← hi.length, Array.length_toList]
  have val : ∀ (i : Nat) (v : Value), items[i]? = some v → ∃ t, v = .int (ns.getD i 0) t := fun i v e => IntsAre.int_at hi i v (by rw [Array.getElem?_toList]; exact e)
  have run : wpAny (model prog w) A.in1 (pyIter (.ref l)) (fun it => wpAny (model prog w) A.in1 (runValue (.builtin "set.update.loop" ⟨[.ref S, it], []⟩)) (fun _ s' => R (.ok (.ret .none)) s') NoE) NoE s := by
    refine wpAny_pyIter_list hl (wpAny_runValue ?_)
    refine set_loop ((Walks.list (show A.in1.in1.handled = none from hh) _ l n1 items).toS) S off (fun i => ns.getD i 0) val hn (items.size - 0) 0 _ _ [] rfl (Nat.zero_le _)
      ⟨⟨_, Heap.get?_push_size _ rfl, rfl, rfl⟩, hl.push _⟩ (Heap.get?_push_of_some _ hS) (bare_few w) (fun x hx => nomatch hx) (Nat.le_refl _) fun s' o ms mv ho X hv hz => ?_
    obtain ⟨h', g', d', tk', os'⟩ := s'
    obtain ⟨mh, rfl, rfl, rfl, _⟩ := mv
    refine h h' tk' o ms ho X (fun x hx => ?_) fun b ob hb e => mh b ob (fun q => ?_) (Heap.get?_push_of_some _ e)
    · obtain ⟨j, hj, rfl⟩ := hv x hx
      rw [nz] at hj
      simp [List.getD_eq_getElem?_getD, hj]
    · rcases List.mem_cons.mp q with q | q
      · exact hb q
      · rw [List.mem_singleton.mp q] at e; exact Nat.lt_irrefl _ (Heap.lt_size e)
  obtain ⟨⟨lc, ld, lb, ls⟩, ol, rfl, k, rfl⟩ := id hl
  have a1 := F.sub_list_set
  have a2 := F.sub_list_frozenset
  have a3 : (Value.type "list" == Value.type "dict") = false := rfl
  unfold Builtin.«set.__init__» noKeywords Builtin.Frozenset.updateFrom
  generalize hp : pyIter = walk at run ⊢
  wp_walk
  subst hp
  exact wpAny_mono run (fun it s' q => wpAny_bind (wpAny_mono q (fun _ s'' q => wpAny_pure (wpAny_pure q)) fun _ _ e => e.elim)) fun _ _ e => e.elim
set_option maxHeartbeats 4000000 in
/-- set(l), a list of at most four ints -/
theorem call_set_few {l : Addr} {items : Array Value} {ns : List Int} {Q : Value → Shared → Prop} (hh : A.handled = none) (hl : s.heap.IsList l items) (hi : IntsAre items.toList ns) (hn : items.size ≤ 4)
    (h : ∀ (h' : Heap) (tk : Nat) o ms, h'.get? s.heap.objs.size = some o → SetI w o ms → (∀ x ∈ ms, x ∈ ns) →
      (∀ b o, b < s.heap.objs.size → s.heap.get? b = some o → h'.get? b = some o) → Q (.ref s.heap.objs.size) { s with heap := h', toks := tk }) :
    wpAny (model prog w) A (call (.type "set") [.ref l]) Q E s := by
  have lt : l < s.heap.objs.size := by obtain ⟨o, e, _⟩ := hl; exact Heap.lt_size e
  have init := fun A (hA : Around.handled A = none) => set_fill (w := w) (A := A) (s := { s with heap := s.heap.push (bare w) }) (S := s.heap.objs.size) (R := wants (fun r s₂ => r = .none ∧ Q (.ref s.heap.objs.size) s₂) E) hA (hl.push _) hi hn (Heap.get?_push_size _ rfl) (Nat.ne_of_lt lt)
    fun h' tk o ms ho X hv k => ⟨rfl, h h' tk o ms ho X hv fun b o hb e => k b o (Nat.ne_of_lt hb) (Heap.get?_push_of_some _ e)⟩
  obtain ⟨c, tl, m1⟩ := F.called_set.mro
  have m2 := F.called_set.made
  have m3 := F.called_set.sub
  have m4 := F.called_set.notType
  have m5 := F.called_set.canCreate
  have m6 := F.typeCall_set_1 (.ref l)
  refine wpAny_call (codeAny_of_tree (wpAny_pure ⟨Code.quiet_builtin _ (by decide +kernel), codeAny_builtin F.entry_type_call ?_⟩))
  rw [Around.under_plain (weight_type_call_type "set" [.ref l] []) rfl]
  repeat (any_goals (first | assumption | wp_step))
  refine codeAny_mono (set_new (x := .ref l) (E := E) (Q := fun obj s₁ => obj = .ref s.heap.objs.size ∧ s₁ = { s with heap := s.heap.push (bare w) }) ⟨rfl, rfl⟩) fun r s₁ hr => ?_
  match r, hr with
  | .error e, hr => exact hr
  | .ok (.ret obj), hr =>
    obtain ⟨rfl, rfl⟩ := hr
    have hT : Shared.TypeIs { s with heap := s.heap.push (bare w) } (.ref s.heap.objs.size) "set" := ⟨_, Heap.get?_push_size _ rfl, rfl⟩
    have m7 := F.called_set.init.lookup
    have m8 := F.called_set.init.bind (.ref s.heap.objs.size)
    repeat (any_goals (first | assumption | wp_step))
    refine codeAny_mono (init A.in1 hh) fun r₂ s₂ q => ?_
    match r₂, q with
    | .error e, q => exact q
    | .ok (.ret r), q =>
      obtain ⟨rfl, q⟩ := q
      refine wpAny_pure ?_
      show wpAny _ _ (if (Value.none != Value.none) = true then _ else ret (Value.ref s.heap.objs.size)) _ _ _
      rw [if_neg (by decide)]
      exact wpAny_pure q
end
end Mine
end
section
open PySem PySem.W PyProof.Rows PySem.Calls
set_option maxRecDepth 100000
namespace Mine
theorem pick_go {α : Type} (next : Nat → Nat) : ∀ (fuel k : Nat) (left : List α) (out : Array α), fuel = left.length → ((pickOrder.go next fuel k left out).toList).Perm (out.toList ++ left)
  | 0, k, left, out, h => by
    have : left = [] := List.length_eq_zero_iff.mp h.symm
    subst this
    unfold pickOrder.go
    simp
  | fuel + 1, k, left, out, h => by
    unfold pickOrder.go
    have hl : next k % left.length < left.length := Nat.mod_lt _ (by omega)
    rw [List.getElem?_eq_getElem hl]
    dsimp only
    refine (pick_go next fuel _ _ _ (by rw [List.length_eraseIdx]; simp [hl]; omega)).trans ?_
    rw [Array.toList_push, List.append_assoc]
    refine List.Perm.append_left _ ?_
    generalize next k % left.length = i at hl
    have e := List.take_append_drop i left
    rw [List.drop_eq_getElem_cons hl] at e
    rw [List.eraseIdx_eq_take_drop_succ]
    have p := List.perm_middle (a := left[i]) (l₁ := left.take i) (l₂ := left.drop (i + 1))
    rw [e] at p
    exact p.symm
theorem pick_perm {α : Type} (next : Nat → Nat) (xs : Array α) : (pickOrder next xs).toList.Perm xs.toList := by
  have := pick_go next xs.size 0 xs.toList #[] (by simp)
  simpa [pickOrder] using this
theorem ints_perm : ∀ {vs' vs : List Value}, vs'.Perm vs → ∀ {ns : List Int}, IntsAre vs ns → ∃ ns', IntsAre vs' ns' ∧ ns'.Perm ns := by
  intro vs' vs p
  induction p with
  | nil => intro ns h; exact ⟨ns, h, .refl _⟩
  | cons x _ ih =>
    intro ns h
    cases h with
    | cons n t r => obtain ⟨ns', a, b⟩ := ih r; exact ⟨_, .cons n t a, b.cons n⟩
  | swap x y l =>
    intro ns h
    cases h with
    | cons n t r => cases r with
      | cons n' t' r => exact ⟨_, .cons n' t' (.cons n t r), .swap ..⟩
  | trans _ _ ih1 ih2 =>
    intro ns h
    obtain ⟨a, b, c⟩ := ih2 h
    obtain ⟨a', b', c'⟩ := ih1 b
    exact ⟨a', b', c'.trans c⟩
theorem slot_setiter_next : Slot "set_iterator" "__next__" "set_iterator.__next__" :=
  .of (owner := "set_iterator") (n := "__next__") (by rw [typeLookup_type, builtinLookup_eq_fast]; kernel_rfl) (by decide +kernel) (by decide +kernel) (by decide +kernel)
    (by first | exact .inl (by decide +kernel) | exact .inr (by decide +kernel)) (by rw [isSubtype_type]; kernel_rfl)
theorem entry_setiter_next : entryFor table "set_iterator.__next__" = some Builtin.«set_iterator.__next__» := entryFor_of_fast (by kernel_rfl)
theorem args_setiter_next (a : Value) : argsOk "set_iterator.__next__" ⟨[a], []⟩ := by unfold argsOk; kernel_rfl
theorem entry_set_iter : entryFor table "set.__iter__" = some Builtin.«frozenset.__iter__» :=
  entryFor_alias (id' := "frozenset.__iter__") (by kernel_rfl) rfl (by decide +kernel) (by kernel_rfl)
section
variable {w : World} {A : Around} {E : Value → Shared → Prop} {s : Shared}
/-- the order in which the set is gone through -/
def orderOf (w : World) (a : Addr) (es : Array (Int × Value)) (ep : Nat) : Array (Int × Value) := if byText w then pickOrder (w.params.setOrder a ep) es else es
theorem set_next {a : Addr} {o : Obj} {es : Array (Int × Value)} {ep : Nat} {t : SetTable} {n slot i : Nat} {Q : Option (Value × Nat) → Shared → Prop}
    (ho : s.heap.get? a = some o) (hd : o.data = .set es ep t) (T : Tab t n (!byText w)) (hn : es.size = n) (hn4 : n ≤ 4) (hslot : byText w = false → SetTable.below t.place slot = i)
    (h : ∀ slot', (byText w = false → i < n → SetTable.below t.place slot' = i + 1) → Q ((orderOf w a es ep)[i]?.map fun e => (e.2, slot')) s) :
    wpAny (model prog w) A (setNext a slot i ep) Q E s := by
  have hf : t.fits es.size = true := hn ▸ T.fits hn4
  unfold setNext
  refine wpAny_bind (wpAny_setState_of ho hd hf ?_)
  dsimp only
  unfold setsByText
  refine wpAny_bind (wpAny_bind (wpAny_askSetting (wpAny_pure ?_)))
  dsimp only
  show wpAny _ _ (if byText w = true then _ else _) _ _ _
  cases hb : byText w with
  | true =>
    rw [if_pos rfl, if_neg (by simp)]
    have ho' : orderOf w a es ep = pickOrder (w.params.setOrder a ep) es := by unfold orderOf; rw [hb]; rfl
    unfold setWalk
    refine wpAny_bind (wpAny_bind (wpAny_setState_of ho hd hf ?_))
    dsimp only
    unfold setsByText
    refine wpAny_bind (wpAny_bind (wpAny_askSetting (wpAny_pure ?_)))
    dsimp only
    show wpAny _ _ (if byText w = true then _ else _) _ _ _
    rw [hb, if_pos rfl]
    refine wpAny_bind (wpAny_askSetting (wpAny_pure ?_))
    refine wpAny_pure ?_
    have := h slot (fun q => by rw [hb] at q; cases q)
    rw [ho'] at this
    exact this
  | false =>
    rw [if_neg (by decide)]
    have ho' : orderOf w a es ep = es := by unfold orderOf; rw [hb]; rfl
    split
    · rename_i hdr
      have hdr' : (!t.plain && decide (es.size > 1)) = true := hdr
      rw [T.plain] at hdr'; cases hdr'
    · refine wpAny_bind (wpAny_of_eq (a := ()) (show (if (!t.led && !es.isEmpty) = true then (unsupported "set:maker-not-led" : Sem Unit) else pure ()) = pure () from if_neg (by simp [T.led, hb])) ?_)
      refine wpAny_pure ?_
      rw [hslot hb]
      rw [ho'] at h
      by_cases hi : i < n
      · have hpl : i < t.place.size := by rw [T.size]; exact hi
        have he : i < es.size := by rw [hn]; exact hi
        rw [Array.getElem?_eq_getElem he, Array.getElem?_eq_getElem hpl]
        have := h (t.place[i] + 1) (fun _ _ => below_next T.up hpl)
        rw [Array.getElem?_eq_getElem he] at this
        exact this
      · have he : es[i]? = none := Array.getElem?_eq_none (by rw [hn]; omega)
        rw [he]
        have := h slot (fun _ q => absurd q hi)
        rw [he] at this
        exact this
end
end Mine
end
section
open PySem PySem.W PyProof.Rows PySem.Calls
set_option maxRecDepth 100000
namespace Mine
/-- a set's iterator before its i-th item -/
def SIt (w : World) (a it : Addr) (es : Array (Int × Value)) (ep : Nat) (t : SetTable) (i : Nat) (h : Heap) : Prop :=
  ∃ oi, ∃ slot : Nat, h.get? it = some oi ∧ oi.cls = .type "set_iterator" ∧ oi.data = .fields #[rawInt slot, rawInt i, .ref a, rawInt es.size, rawInt ep] ∧ (byText w = false → SetTable.below t.place slot = i)
section
variable {w : World} {A : Around} {E : Value → Shared → Prop} {s : Shared} {a it : Addr} {o : Obj} {es : Array (Int × Value)} {ep n : Nat} {t : SetTable}
theorem setDrawn_no {Q : Bool → Shared → Prop} (ho : s.heap.get? a = some o) (hd : o.data = .set es ep t) (T : Tab t n (!byText w)) (hn : es.size = n) (hn4 : n ≤ 4) (h : Q false s) : wpAny (model prog w) A (setDrawn a) Q E s := by
  have hf : t.fits es.size = true := hn ▸ T.fits hn4
  unfold setDrawn
  refine wpAny_bind (wpAny_setState_of ho hd hf ?_)
  dsimp only
  unfold setsByText
  refine wpAny_bind (wpAny_bind (wpAny_askSetting (wpAny_pure ?_)))
  refine wpAny_pure ?_
  have e : (!byText w && (!t.plain && decide (es.size > 1))) = false := by rw [T.plain]; simp
  exact (show Q (!byText w && (!t.plain && decide (es.size > 1))) s from e ▸ h)
set_option maxHeartbeats 4000000 in
theorem set_iter {Q : Value → Shared → Prop} (ho : s.heap.get? a = some o) (hex : o.ExactSet) (hd : o.data = .set es ep t) (T : Tab t n (!byText w)) (hn : es.size = n) (hn4 : n ≤ 4)
    (h : SIt w a s.heap.objs.size es ep t 0 (s.heap.push { cls := .type "set_iterator", data := .fields #[rawInt (0 : Nat), rawInt (0 : Nat), .ref a, rawInt es.size, rawInt ep] }) →
      Q (.ref s.heap.objs.size) { s with heap := s.heap.push { cls := .type "set_iterator", data := .fields #[rawInt (0 : Nat), rawInt (0 : Nat), .ref a, rawInt es.size, rawInt ep] } }) :
    wpAny (model prog w) A (pyIter (.ref a)) Q E s := by
  have hf : t.fits es.size = true := hn ▸ T.fits hn4
  have hT : s.TypeIs (.ref a) "set" := ⟨o, ho, hex.1⟩
  refine wpAny_pyIter_slot hT F.slot_set_iter (wpAny_call_entry F.slot_set_iter hT entry_set_iter ?_ (F.args_set_iter_1 _))
  unfold Builtin.«frozenset.__iter__» Builtin.Frozenset.slot0 slotArgs
  simp only [List.isEmpty_nil, Bool.not_true, Bool.false_eq_true, ↓reduceIte, bind_assoc, List.length_nil, bne_self_eq_false]
  unfold Builtin.Frozenset.addrOf Builtin.Frozenset.sizeOf
  refine wpAny_bind (wpAny_pure ?_)
  try dsimp only
  refine wpAny_bind (wpAny_pure ?_)
  refine wpAny_bind (wpAny_bind (wpAny_setEntries_of ho hd hf (wpAny_pure ?_)))
  refine wpAny_bind (setDrawn_no ho hd T hn hn4 ?_)
  rw [if_neg (by decide)]
  refine wpAny_bind (wpAny_pure ?_)
  refine wpAny_bind (wpAny_setEpoch_of ho hd hf ?_)
  refine wpAny_bind (wpAny_newObj_type (wpAny_pure ⟨_, rfl, "set_iterator", _, ⟨_, Heap.get?_push_size _ rfl, rfl⟩, slot_setiter_next.lookup, ?_⟩))
  exact h ⟨_, 0, Heap.get?_push_size _ rfl, rfl, rfl, fun _ => below_zero T.up⟩
set_option maxHeartbeats 4000000 in
theorem set_item {i : Nat} {x : Int × Value} {Q : Option Value → Shared → Prop} (ho : s.heap.get? a = some o) (hd : o.data = .set es ep t) (T : Tab t n (!byText w)) (hn : es.size = n) (hn4 : n ≤ 4)
    (hit : SIt w a it es ep t i s.heap) (hi : i < n) (hx : (orderOf w a es ep)[i]? = some x)
    (h : ∀ h', SIt w a it es ep t (i + 1) h' → Heap.SameBut it s.heap h' → Q (some x.2) { s with heap := h' }) : wpAny (model prog w) A (pyNext (.ref it)) Q E s := by
  have hf : t.fits es.size = true := hn ▸ T.fits hn4
  obtain ⟨oi, slot, hoi, hc, hdi, hsl⟩ := hit
  have hT : s.TypeIs (.ref it) "set_iterator" := ⟨oi, hoi, hc⟩
  unfold pyNext
  refine wpAny_bind (wpAny_attempt (wpAny_callSpecial?_slot (name := Str.ofString "__next__") hT slot_setiter_next
    (wpAny_call_entry slot_setiter_next hT entry_setiter_next ?_ (args_setiter_next _))))
  unfold Builtin.«set_iterator.__next__» slotArgs
  simp only [List.isEmpty_nil, Bool.not_true, Bool.false_eq_true, ↓reduceIte, bind_assoc, List.length_nil, bne_self_eq_false]
  refine wpAny_bind (wpAny_pure ?_)
  unfold fieldsOf
  refine wpAny_bind (wpAny_bind (wpAny_load hoi ?_))
  rw [hdi]
  refine wpAny_pure ?_
  show wpAny _ _ (setEntries a >>= _) _ _ _
  refine wpAny_bind (wpAny_setEntries_of ho hd hf ?_)
  rw [if_neg (by simp)]
  show wpAny _ _ (setNext a ((slot : Int).toNat) ((i : Int).toNat) ((ep : Int).toNat) >>= _) _ _ _
  rw [Int.toNat_natCast, Int.toNat_natCast, Int.toNat_natCast]
  refine wpAny_bind (set_next ho hd T hn hn4 hsl fun slot' hs' => ?_)
  rw [hx]
  dsimp only [Option.map]
  refine wpAny_bind (wpAny_setField hoi hdi (by simp) ?_)
  have ho2 := Heap.get?_update_self (Obj.mapFields (·.setIfInBounds 0 (rawInt slot'))) hoi (Obj.isFreed_of_fields (Obj.data_mapFields hdi _))
  have hd2 := Obj.data_mapFields hdi (·.setIfInBounds 0 (rawInt slot'))
  refine wpAny_bind (wpAny_setField ho2 hd2 (by simp) ?_)
  refine wpAny_pure ⟨x.2, rfl, wpAny_pure (h _ ⟨_, slot', Heap.get?_update_self _ ho2 (Obj.isFreed_of_fields (Obj.data_mapFields hd2 _)), (Obj.cls_mapFields ..).trans ((Obj.cls_mapFields ..).trans hc), ?_, fun q => hs' q hi⟩ ((Heap.SameBut.update ..).trans (Heap.SameBut.update ..)))⟩
  rw [Obj.data_mapFields hd2]; simp [rawInt]
set_option maxHeartbeats 4000000 in
theorem set_done {Q : Option Value → Shared → Prop} (hh : A.handled = none) (ho : s.heap.get? a = some o) (hd : o.data = .set es ep t) (T : Tab t n (!byText w)) (hn : es.size = n) (hn4 : n ≤ 4)
    (hit : SIt w a it es ep t n s.heap) (hx : (orderOf w a es ep)[n]? = none)
    (h : ∀ h', Heap.ExtBut it s.heap h' → Q none { s with heap := h' }) : wpAny (model prog w) A (pyNext (.ref it)) Q E s := by
  have hf : t.fits es.size = true := hn ▸ T.fits hn4
  obtain ⟨oi, slot, hoi, hc, hdi, hsl⟩ := hit
  have hT : s.TypeIs (.ref it) "set_iterator" := ⟨oi, hoi, hc⟩
  unfold pyNext
  refine wpAny_bind (wpAny_attempt (wpAny_callSpecial?_slot (name := Str.ofString "__next__") hT slot_setiter_next
    (wpAny_call_entry slot_setiter_next hT entry_setiter_next ?_ (args_setiter_next _))))
  unfold Builtin.«set_iterator.__next__» slotArgs
  simp only [List.isEmpty_nil, Bool.not_true, Bool.false_eq_true, ↓reduceIte, bind_assoc, List.length_nil, bne_self_eq_false]
  refine wpAny_bind (wpAny_pure ?_)
  unfold fieldsOf
  refine wpAny_bind (wpAny_bind (wpAny_load hoi ?_))
  rw [hdi]
  refine wpAny_pure ?_
  show wpAny _ _ (setEntries a >>= _) _ _ _
  refine wpAny_bind (wpAny_setEntries_of ho hd hf ?_)
  rw [if_neg (by simp)]
  show wpAny _ _ (setNext a ((slot : Int).toNat) ((n : Int).toNat) ((ep : Int).toNat) >>= _) _ _ _
  rw [Int.toNat_natCast, Int.toNat_natCast, Int.toNat_natCast]
  refine wpAny_bind (set_next ho hd T hn hn4 hsl fun slot' hs' => ?_)
  rw [hx]
  dsimp only [Option.map]
  refine wpAny_bind (wpAny_setField hoi hdi (by simp) ?_)
  show wpAny _ _ (newExc (.type "StopIteration") [] >>= _) _ _ _
  refine wpAny_bind ?_
  simp only [newExc, newTuple]
  refine wpAny_bind (wpAny_newObj_type ?_ (by size_fits))
  refine wpAny_bind (m := firstArgMember _ _) (wpAny_of_eq (a := Value.none) (by first | rfl | (simp only [firstArgMember]; rfl)) ?_)
  refine wpAny_newObj_type ?_ (by size_fits)
  simp only [raiseNew]
  refine wpAny_bind (wpAny_handled ?_)
  rw [show A.in1.handled = none from hh]
  refine wpAny_bind (wpAny_pure (wpAny_throw ?_))
  refine wpAny_bind (wpAny_isInstance (T := "StopIteration") (b := true) ⟨_, Heap.get?_push_size _ rfl, rfl⟩ isSubtype_stop ?_)
  exact wpAny_pure (h _ (((Heap.SameBut.update ..).extBut.push _).push _))
end
end Mine
end
section
open PySem PySem.W PyProof.Rows PySem.Calls
set_option maxRecDepth 100000
namespace Mine
theorem slot_setiter_iter : Slot "set_iterator" "__iter__" "set_iterator.__iter__" :=
  .of (owner := "set_iterator") (n := "__iter__") (by rw [typeLookup_type, builtinLookup_eq_fast]; kernel_rfl) (by decide +kernel) (by decide +kernel) (by decide +kernel)
    (by first | exact .inl (by decide +kernel) | exact .inr (by decide +kernel)) (by rw [isSubtype_type]; kernel_rfl)
theorem entry_setiter_iter : entryFor table "set_iterator.__iter__" = some Builtin.«dict_keyiterator.__iter__» :=
  entryFor_alias (id' := "dict_keyiterator.__iter__") (by kernel_rfl) rfl (by decide +kernel) (by kernel_rfl)
theorem args_setiter_iter (a : Value) : argsOk "set_iterator.__iter__" ⟨[a], []⟩ := by unfold argsOk; kernel_rfl
section
variable {w : World} {A : Around} {E : Value → Shared → Prop} {s : Shared} {a it : Addr} {o : Obj} {es : Array (Int × Value)} {ep n : Nat} {t : SetTable}
theorem order_perm (w : World) (a : Addr) (es : Array (Int × Value)) (ep : Nat) : (orderOf w a es ep).toList.Perm es.toList := by
  unfold orderOf
  split
  · exact pick_perm _ _
  · exact .refl _
theorem set_walks (hh : A.handled = none) (hd : o.data = .set es ep t) (T : Tab t n (!byText w)) (hn : es.size = n) (hn4 : n ≤ 4) (hne : a ≠ it) :
    Walks prog w A it [it, a] [it] n (fun i v => ((orderOf w a es ep).map (·.2))[i]? = some v) (fun i h => SIt w a it es ep t i h ∧ h.get? a = some o) where
  sub := fun b hb => by simp at hb; simp [hb]
  frame := fun _ _ _ st hk => ⟨let ⟨oi, slot, h1, h2⟩ := st.1; ⟨oi, slot, hk it (by simp) oi h1, h2⟩, hk a (by simp) o st.2⟩
  item := fun i s Q E hi st hQ => by
    have hsz : (orderOf w a es ep).size = n := by rw [← hn, ← Array.length_toList, (order_perm w a es ep).length_eq, Array.length_toList]
    have hx : (orderOf w a es ep)[i]? = some (orderOf w a es ep)[i] := Array.getElem?_eq_getElem (by omega)
    refine set_item st.2 hd T hn hn4 st.1 hi hx fun h' hit' hs' => ?_
    exact hQ _ h' s.toks (by rw [Array.getElem?_map, hx]; rfl) ⟨hit', hs'.extBut a o hne st.2⟩ fun b o hb e => hs'.extBut b o (fun h => hb (by simp [h])) e
  done := fun s Q E st hQ => by
    have hsz : (orderOf w a es ep).size = n := by rw [← hn, ← Array.length_toList, (order_perm w a es ep).length_eq, Array.length_toList]
    exact set_done hh st.2 hd T hn hn4 st.1 (Array.getElem?_eq_none (by omega)) fun h' he' => hQ h' s.toks fun b o hb e => he' b o (fun h => hb (by simp [h])) e
  self := fun _ s Q E st hQ => by
    obtain ⟨oi, slot, hoi, hc, _⟩ := st.1
    have hT : s.TypeIs (.ref it) "set_iterator" := ⟨oi, hoi, hc⟩
    refine wpAny_pyIter_slot hT slot_setiter_iter (wpAny_call_entry slot_setiter_iter hT entry_setiter_iter ?_ (args_setiter_iter _))
    show wpAny _ _ (ret (.ref it)) _ _ s
    exact wpAny_pure ⟨_, rfl, "set_iterator", _, hT, slot_setiter_next.lookup, hQ⟩
set_option maxHeartbeats 4000000 in
theorem set_collect {Q : List Value → Shared → Prop} (hh : A.handled = none) (ho : s.heap.get? a = some o) (hex : o.ExactSet) (hd : o.data = .set es ep t) (T : Tab t n (!byText w)) (hn : es.size = n) (hn4 : n ≤ 4)
    (hQ : ∀ h' tk (vs : List Value), vs.Perm (es.toList.map (·.2)) → (∀ b o, s.heap.get? b = some o → h'.get? b = some o) → Q vs { s with heap := h', toks := tk }) :
    wpAny (model prog w) A (collect (.ref a)) Q E s := by
  have haS : a < s.heap.objs.size := Heap.lt_size ho
  have hSa : s.heap.objs.size ≠ a := Nat.ne_of_gt haS
  unfold collect
  refine wpAny_bind (wpAny_runValue (codeAny_builtin F.entry_proto_collect ?_))
  rw [Around.under_plainId F.plain_proto_collect _]
  show wpAny _ A.in1 (newList [] >>= fun l => again (.builtin "list.__iadd__" ⟨[l, .ref a], []⟩)) _ _ s
  refine wpAny_bind (wpAny_newObj_type ?_)
  refine wpAny_pure ⟨plainId_quiet F.plain_list_iadd _, codeAny_builtin F.entry_list_iadd ?_⟩
  rw [Around.under_plainId F.plain_list_iadd _]
  have ho₁ : (s.heap.push { cls := .type "list", data := .seq ([] : List Value).toArray }).get? a = some o := Heap.get?_push_of_some _ ho
  have hS₁ : (s.heap.push { cls := .type "list", data := .seq ([] : List Value).toArray }).get? s.heap.objs.size = some { cls := .type "list", data := .seq ([] : List Value).toArray } := Heap.get?_push_size _ rfl
  have h1 : Builtin.List.listSameRef (.ref s.heap.objs.size) (.ref a) = false := by simp [Builtin.List.listSameRef, hSa]
  show wpAny _ A.in1 (Builtin.List.listExtendWith (.ref s.heap.objs.size) (.ref a) (.ref s.heap.objs.size)) _ _ _
  generalize hH1 : s.heap.push { cls := .type "list", data := .seq ([] : List Value).toArray } = H1 at ho₁ hS₁
  have z1 : H1.objs.size = s.heap.objs.size + 1 := by rw [← hH1, Heap.size_push]
  have k1 : ∀ b o, s.heap.get? b = some o → H1.get? b = some o := fun b o e => hH1 ▸ Heap.get?_push_of_some _ e
  unfold Builtin.List.listExtendWith
  refine wpAny_bind (wpAny_typeOf (T := "set") ⟨o, ho₁, hex.1⟩ ?_)
  rw [if_neg (by rw [h1]; decide)]
  refine wpAny_bind (set_iter (s := { s with heap := H1 }) ho₁ hex hd T hn hn4 fun hit => ?_)
  refine wpAny_bind (wpAny_holding ?_)
  have ho₂ : (H1.push { cls := .type "set_iterator", data := .fields #[rawInt (0 : Nat), rawInt (0 : Nat), .ref a, rawInt es.size, rawInt ep] }).get? a = some o := Heap.get?_push_of_some _ ho₁
  have hS₂ : (H1.push { cls := .type "set_iterator", data := .fields #[rawInt (0 : Nat), rawInt (0 : Nat), .ref a, rawInt es.size, rawInt ep] }).get? s.heap.objs.size = some { cls := .type "list", data := .seq ([] : List Value).toArray } := Heap.get?_push_of_some _ hS₁
  have k2 : ∀ b o, s.heap.get? b = some o → (H1.push { cls := .type "set_iterator", data := .fields #[rawInt (0 : Nat), rawInt (0 : Nat), .ref a, rawInt es.size, rawInt ep] }).get? b = some o := fun b o e => Heap.get?_push_of_some _ (k1 b o e)
  have hit : SIt w a H1.objs.size es ep t 0 (H1.push { cls := .type "set_iterator", data := .fields #[rawInt (0 : Nat), rawInt (0 : Nat), .ref a, rawInt es.size, rawInt ep] }) := hit
  show wpAny _ _ _ _ _ { s with heap := H1.push { cls := .type "set_iterator", data := .fields #[rawInt (0 : Nat), rawInt (0 : Nat), .ref a, rawInt es.size, rawInt ep] } }
  generalize (H1.push { cls := .type "set_iterator", data := .fields #[rawInt (0 : Nat), rawInt (0 : Nat), .ref a, rawInt es.size, rawInt ep] }) = H2 at ho₂ hS₂ k2 hit
  have hT2 : Shared.TypeIs { s with heap := H2 } (.ref a) "set" := ⟨o, ho₂, hex.1⟩
  unfold Builtin.List.listLengthHint
  refine wpAny_bind (wpAny_specialOf hT2 F.slot_set_len.lookup ?_)
  generalize hid : ("set.__len__" : String) = id0
  wp_delta
  rw [show splitId id0 = some ("set", "__len__") from by subst hid; decide +kernel]
  subst hid
  refine wpAny_bind (wpAny_isInstance (b := true) hT2 (by rw [isSubtype_type]; kernel_rfl) ?_)
  show wpAny _ A.in1 (typeOf (Value.ref a) >>= _) _ _ _
  refine wpAny_bind (wpAny_typeOf hT2 ?_)
  refine wpAny_pure ?_
  show wpAny _ A.in1 (rule "list.extend.makes-room" >>= fun _ => Builtin.List.listTouch (.ref s.heap.objs.size) >>= fun _ =>
    again (.builtin "list.extend.loop" ⟨[.ref s.heap.objs.size, .ref H1.objs.size, .ref s.heap.objs.size], []⟩)) _ _ _
  refine wpAny_bind (wpAny_rule ?_)
  refine wpAny_bind ?_
  show wpAny _ A.in1 (updateSeq s.heap.objs.size (·.push .none) >>= fun _ => updateSeq s.heap.objs.size (·.pop)) _ _ _
  refine wpAny_bind (wpAny_updateSeq hS₂ rfl ?_)
  have hS₃ := Heap.get?_update_self (Obj.mapSeq (·.push Value.none)) hS₂ rfl
  refine wpAny_updateSeq hS₃ rfl ?_
  have hS₄ := Heap.get?_update_self (Obj.mapSeq (·.pop)) hS₃ rfl
  have oth : ∀ b o, b ≠ s.heap.objs.size → H2.get? b = some o → ((H2.update s.heap.objs.size (Obj.mapSeq (·.push Value.none))).update s.heap.objs.size (Obj.mapSeq (·.pop))).get? b = some o :=
    fun b o hb e => (Heap.get?_update_other _ _ (Ne.symm hb)).trans ((Heap.get?_update_other _ _ (Ne.symm hb)).trans e)
  have hIS : H1.objs.size ≠ s.heap.objs.size := by rw [z1]; exact Nat.ne_of_gt (Nat.lt_succ_self _)
  have hIa : a ≠ H1.objs.size := Nat.ne_of_lt (Nat.lt_trans haS (z1 ▸ Nat.lt_succ_self _))
  have hSf : s.heap.objs.size ∉ [H1.objs.size, a] := by
    intro hm
    rcases List.mem_cons.mp hm with e | hm
    · exact hIS e.symm
    · exact hSa (List.mem_singleton.mp hm)
  have hsz : (orderOf w a es ep).size = n := by rw [← hn, ← Array.length_toList, (order_perm w a es ep).length_eq, Array.length_toList]
  refine wpAny_pure ⟨plainId_quiet F.plain_extend_loop _, codeAny_extend_loopS ((set_walks (A := A.in1) hh hd T hn hn4 hIa).toS) (by rw [sizeLine_eq]; omega) _ hSf _ n 0 _ _ _ rfl (Nat.zero_le _)
    ⟨(let ⟨oi, slot, e1, e2⟩ := hit; ⟨oi, slot, oth _ _ hIS e1, e2⟩), oth _ _ (Ne.symm hSa) ho₂⟩ hS₄ (ItemsOf.nil _) fun s' acc' c' hm hS' hacc => ?_⟩
  show wpAny _ A (load s.heap.objs.size >>= _) _ _ s'
  refine wpAny_bind (wpAny_load hS' ?_)
  obtain ⟨h', g', d', tk', os'⟩ := s'
  have eg : g' = s.gens := hm.gens
  have ed : d' = s.drawn := hm.drawn
  have eo : os' = s.os := hm.os
  subst eg; subst ed; subst eo
  refine wpAny_pure (hQ h' tk' acc'.toList ?_ fun b o e => ?_)
  · have e : acc' = (orderOf w a es ep).map (·.2) := by
      refine Array.ext (by rw [Array.size_map, hsz]; exact hacc.1) fun i h1 h2 => ?_
      have : ((orderOf w a es ep).map (·.2))[i]? = some acc'[i] := hacc.2 i acc'[i] (Array.getElem?_eq_getElem h1)
      rw [Array.getElem?_eq_getElem h2] at this
      exact (Option.some.inj this).symm
    rw [e, Array.toList_map]
    exact (order_perm w a es ep).map _
  · have hb := Heap.lt_size e
    refine hm.heap b o (fun q => ?_) (oth b o (Nat.ne_of_lt hb) (k2 b o e))
    rcases List.mem_cons.mp q with q | q
    · exact Nat.ne_of_lt hb q
    · rw [List.mem_singleton.mp q, z1] at hb; exact Nat.lt_irrefl _ (Nat.lt_trans hb (Nat.lt_succ_self _))
end
end Mine
end
section
open PySem PySem.W PyProof.Rows PySem.Calls
set_option maxRecDepth 100000
namespace Mine
section
variable {w : World} {A : Around} {E : Value → Shared → Prop} {s : Shared} {h₀ : Heap} {L l a : Addr} {m : Str → Option Value} {news : List (Addr × Obj)} {vs : List Value} {ns : List Int} {o : Obj}
theorem sorted_set {Q : Value → Shared → Prop} (hh : A.handled = none) (ho : s.heap.get? a = some o) (X : SetI w o ns)
    (h : ∀ h' tk (out : Array Value) (ns' : List Int) D e, (∀ b o, s.heap.get? b = some o → b < D) → h'.get? D = some (seqObj "list" out e) → IntsAre out.toList ns' → ns'.Perm ns → ns'.Pairwise (· ≤ ·) →
      (∀ b o, s.heap.get? b = some o → h'.get? b = some o) → Q (.ref D) { s with heap := h', toks := tk }) :
    wpAny (model prog w) A (call (.builtin "sorted") [.ref a]) Q E s := by
  obtain ⟨hex, ⟨es, ep, t, hd, hel, hi, T⟩, hnd, hlen⟩ := X
  have hsize : es.size = ns.length := by rw [← hi.length, List.length_map, Array.length_toList]
  refine Calls.call_function_entry kind_sorted plain_sorted entry_sorted (args_sorted1 _) ?_
  unfold Builtin.«sorted»
  refine wpAny_bind (m := checkCount "sorted" 1 1 _) (wpAny_pure ?_)
  refine wpAny_bind (set_collect hh ho hex hd T hsize hlen fun h₁ tk vs hp k₁ => ?_)
  obtain ⟨ms, hI, hpm⟩ := ints_perm hp hi
  have h64 : vs.length < 64 := by rw [hI.length, hpm.length_eq]; omega
  refine wpAny_bind (wpAny_newList ?_ (by rw [sizeLine_eq]; omega))
  refine wpAny_bind (wpAny_holding (wpAny_call_entry slot_list_sort ⟨_, Heap.get?_push_size _ rfl, rfl⟩ entry_list_sort (list_sort_tree (Heap.get?_push_size _ rfl) hI h64 fun out ns' a1 a2 a3 => ⟨_, rfl, ?_⟩) (args_list_sort _)))
  obtain ⟨e, he⟩ := sortedHeap_at (h := h₁.push (seqObj "list" vs.toArray 0)) (a := h₁.objs.size) (n := 0) (vs := vs) (out := out) (Heap.get?_push_size _ rfl)
  refine wpAny_pure ⟨_, rfl, h _ _ out ns' _ e (fun b o e => Heap.lt_size (k₁ b o e)) he a1 (a2.trans hpm) a3 fun b o e => ?_⟩
  have hb := Heap.lt_size (k₁ b o e)
  rw [sortedHeap_old (Nat.ne_of_lt hb) (by rw [Heap.size_push]; exact Nat.lt_succ_of_lt hb)]
  exact Heap.get?_push_of_some _ (k₁ b o e)

theorem my_set {Q : Value → Shared → Prop} (F : Fr h₀ L s.heap m) (N : News h₀ L s.heap news) (hl : s.heap.IsList l vs.toArray) (hi : IntsAre vs ns) (hh : A.handled = none) (h4 : ns.length ≤ 4)
    (h : ∀ D o' ns' h' tk, Fr h₀ L h' m → News h₀ L h' ((D, o') :: news) → (∀ q ∈ news, q.1 < D) → SetI w o' ns' → (∀ x ∈ ns', x ∈ ns) ∧ ns'.length ≤ 4 ∧ ns'.Nodup → Q (.ref D) { s with heap := h', toks := tk }) :
    wpAny (model prog w) A (call (.type "set") [.ref l]) Q E s := by
  have hz : vs.toArray.size ≤ 4 := by rw [List.size_toArray, hi.length]; exact h4
  refine call_set_few (ns := ns) hh hl (by simpa using hi) hz fun h' tk o ms ho X hv k => ?_
  have up : ∀ b o, s.heap.get? b = some o → h'.get? b = some o := fun b o e => k b o (Heap.lt_size e) e
  exact h _ o ms h' tk (F.kept up) (N.kept_cons F up (Nat.le_refl _) ho) (fun q hq => Heap.lt_size (N q hq).1) X ⟨hv, X.len, X.nd⟩
theorem my_sorted {Q : Value → Shared → Prop} (F : Fr h₀ L s.heap m) (N : News h₀ L s.heap news) (hm : (a, o) ∈ news) (X : SetI w o ns) (hh : A.handled = none)
    (h : ∀ D vs' ns' c h' tk, Fr h₀ L h' m → News h₀ L h' ((D, PySem.W.listOf vs'.toArray c) :: news) → (∀ q ∈ news, q.1 < D) → IntsAre vs' ns' → ns'.Perm ns → Q (.ref D) { s with heap := h', toks := tk }) :
    wpAny (model prog w) A (call (.builtin "sorted") [.ref a]) Q E s := by
  refine sorted_set hh (N.get hm) X fun h' tk out ns' D e hD he a1 a2 a3 up => ?_
  obtain ⟨oL, _, _, hL, _⟩ := id F.ns
  refine h D out.toList ns' e h' tk (F.kept up) (fun p hp => ?_) (fun q hq => hD _ _ (N q hq).1) a1 a2
  rcases List.mem_cons.mp hp with rfl | hp
  · refine ⟨by rw [Array.toArray_toList]; exact he, Nat.ne_of_gt (hD _ _ hL), ?_⟩
    cases hq : h₀.get? D with
    | none => rfl
    | some o' => exact absurd (hD _ _ (F.keep _ _ hq)) (Nat.lt_irrefl _)
  · exact ⟨up _ _ (N p hp).1, (N p hp).2.1, (N p hp).2.2⟩
end
end Mine
end
section
open PySem PySem.W PyProof.Rows PySem.Calls
set_option maxRecDepth 100000
namespace Mine
section
variable {w : World} {h : Heap} {mg mb : Str → Option Value} {loose : List Str} {mean : ExcName → Option Value}
theorem tab_dict {h : Heap} {c P a : Addr} {ps : Array Value} {m : Str → Option Value} (hT : h.TableAt c P ps) (hn : h.Ns a m) : a ≠ P := by
  obtain ⟨o, es, ep, ho, hd, _⟩ := hn
  rintro rfl
  rw [hT.2] at ho; cases ho; cases hd
theorem adam7_at (KX : (hd.heap_39 w.params).In h) (G : h.Ns mainGlobals mg) : mg "adam7" = some (.ref 22) ∧ ∃ items : Array Value, IsTup h 22 items ∧ items.size = 7 ∧
    ∀ (i : Nat) (r : Row), table7[i]? = some r → ∃ v, items[i]? = some v ∧ rowOf h h.objs.size v r := by
  refine ⟨mg_of KX G (by kernel_rfl), #[.ref 15, .ref 16, .ref 17, .ref 18, .ref 19, .ref 20, .ref 21], ⟨_, KX 22 _ rfl, rfl, 0, rfl⟩, rfl, fun i r e => ?_⟩
  match i, e with
  | 0, e => cases e; exact ⟨_, rfl, 15, _, _, _, _, rfl, Heap.lt_size (KX 15 _ rfl), _, KX 15 _ rfl, rfl, 0, rfl⟩
  | 1, e => cases e; exact ⟨_, rfl, 16, _, _, _, _, rfl, Heap.lt_size (KX 16 _ rfl), _, KX 16 _ rfl, rfl, 0, rfl⟩
  | 2, e => cases e; exact ⟨_, rfl, 17, _, _, _, _, rfl, Heap.lt_size (KX 17 _ rfl), _, KX 17 _ rfl, rfl, 0, rfl⟩
  | 3, e => cases e; exact ⟨_, rfl, 18, _, _, _, _, rfl, Heap.lt_size (KX 18 _ rfl), _, KX 18 _ rfl, rfl, 0, rfl⟩
  | 4, e => cases e; exact ⟨_, rfl, 19, _, _, _, _, rfl, Heap.lt_size (KX 19 _ rfl), _, KX 19 _ rfl, rfl, 0, rfl⟩
  | 5, e => cases e; exact ⟨_, rfl, 20, _, _, _, _, rfl, Heap.lt_size (KX 20 _ rfl), _, KX 20 _ rfl, rfl, 0, rfl⟩
  | 6, e => cases e; exact ⟨_, rfl, 21, _, _, _, _, rfl, Heap.lt_size (KX 21 _ rfl), _, KX 21 _ rfl, rfl, 0, rfl⟩
  | i + 7, e => simp [table7] at e
structure Laid0 (mg mb : Str → Option Value) (aN aT bm c P aA : Addr) (ob : Obj) (h : Heap) : Prop where
  at_ : AT mg mb aT bm c P ob h.objs.size h
  fa : FA aA c h.objs.size h
  top : ∀ h', (∀ b o, b < h.objs.size → b ≠ P → h.get? b = some o → h'.get? b = some o) → TopAt mg aN h.objs.size h'
  ad : mg "adam7_generate" = some (.ref aA)
  len : mg "len" = none
  blen : mb "len" = some (.builtin "len")
  tab : h.TableAt c P #[]
theorem laid0 {p : Program} (r0 : recAt 0 ∈ recsOf p) (r1 : recAt 1 ∈ recsOf p) (KX : (hd.heap_39 w.params).In h) (T : Top p loose mean mg mb h) : ∃ aN aT bm c P aA ob, Laid0 mg mb aN aT bm c P aA ob h := by
  obtain ⟨a, o, pm, code, doc, h1, h2, h3, h4⟩ := T.fn (recAt 0) r0
  obtain ⟨a', o', fd, c, P, h1', h2', h3', h4', h5, h6⟩ := T.tab (recAt 0) r0
  rw [h1] at h1'; cases h1'
  rw [h2] at h2'; cases h2'
  rw [h3] at h3'; cases h3'
  cases h4'
  obtain ⟨e7, items, i1, i2, i3⟩ := adam7_at KX T.g
  obtain ⟨bm, ob, M⟩ := bmod_of_top T
  obtain ⟨n, on, pmn, coden, docn, n1, n2, n3, n4⟩ := T.fn (recAt 1) r1
  obtain ⟨c1, oc1, vs1, tq1, q1, q2, q3, q4⟩ := id n4
  have hcl : cStatics ≠ P ∧ cStatics < h.objs.size := by obtain ⟨mc, hn, _⟩ := T.nolimit; exact ⟨tab_dict h6 hn, hn.lt⟩
  have hg : mainGlobals ≠ P := tab_dict h6 T.g
  have hnP : n ≠ P := by rintro rfl; rw [h6.2] at n2; cases n2; cases n3
  have hcP : c1 ≠ P := by
    rintro rfl; rw [h6.2] at q2; cases q2
    have : (#[] : Array Value) = vs1 := Data.fields.inj q3
    subst this
    simp at q4
  refine ⟨n, 22, bm, c, P, a, ob, ⟨⟨T.g, T.g.lt, T.b, T.b.lt, T.nolimit, hcl.2, M, Heap.lt_size M.obj, ⟨mg_none_of KX T.g (by kernel_rfl), (T.builtins _ (by decide)).trans boot_range⟩, ⟨#[], h5, h6⟩, h5.lt.1, h5.lt.2, e7, ?_, items, i1, i2, i3⟩, ⟨⟨o, pm, doc, h2, h3⟩, h4, Heap.lt_size h2, h5.lt.1⟩, fun h' k => ?_, h1, mg_none_of KX T.g (by kernel_rfl), (T.builtins _ (by decide)).trans (by decide +kernel), h6⟩⟩
  · obtain ⟨o22, e22, _⟩ := i1; exact Heap.lt_size e22
  · refine ⟨T.g.at' fun o e => k _ o T.g.lt hg e, T.g.lt, hcl.2, noLimit_at T.nolimit fun o e => k _ o hcl.2 hcl.1 e, n1, on, pmn, coden, docn, k _ _ (Heap.lt_size n2) hnP n2, n3, ⟨c1, oc1, vs1, tq1, q1, k _ _ (Heap.lt_size q2) hcP q2, q3, q4⟩, Heap.lt_size n2, fun c' e => ?_⟩
    rw [q1] at e; cases e; exact Heap.lt_size q2
end
end Mine
end
section
open PySem PySem.W PyProof.Rows PySem.Calls
set_option maxRecDepth 100000
namespace Mine
theorem good_true {cl : Str → Option Addr} {mean : ExcName → Option Value} {args : List WData} {s₁ s' : Shared} (ho : OldK s₁.heap s'.heap) (hos : s'.os = s₁.os) (hb : AllBare s'.gens) :
    GoodWG (OpenLaw.row PySem.Challenge.rw_bq0016_01).claim cl mean args s₁ (.ok (.ret (.bool true))) s' :=
  ⟨.inl ⟨.bool true, .bool true, [], rfl, fun _ => rfl, .bool true, (by kc_post), fun _ => ⟨List.nodup_nil, fun a ha => nomatch ha⟩⟩, ho, hos, hb⟩
theorem oldK_of {h h' : Heap} {c P : Addr} {ps : Array Value} (ht : h.TableAt c P #[]) (ht' : h'.TableAt c P ps) (k : ∀ b o, b < h.objs.size → b ≠ P → h.get? b = some o → h'.get? b = some o) : OldK h h' := by
  refine ⟨fun b o e => ?_, fun b o e => ?_⟩
  · by_cases hb : b = P
    · subst hb
      rw [ht.2] at e; cases e
      exact .inr (.inl ⟨ht.isCodeTable, rfl, #[], ps, rfl, by rw [ht'.2]; simp⟩)
    · exact .inl (k b o (Heap.lt_size e) hb e)
  · by_cases hb : b = P
    · subst hb; exact ⟨_, ht'.2⟩
    · exact ⟨o, k b o (Heap.lt_size e) hb e⟩
section
variable {w : World} {A : Around} {L CL fa S : Addr} {cd : Value} {m : Str → Option Value} {E : Value → Shared → Prop} {s s₁ : Shared} {mg mb : Str → Option Value} {news : List (Addr × Obj)} {loose : List Str} {mean mean' : ExcName → Option Value} {cl : Str → Option Addr} {args : List WData}
set_option maxHeartbeats 4000000 in
theorem law_tail {cvs fvs : List Value} {cs ms ns : List Int} {x y : Int} {f : Int → Int} {tw tH : Tok} {oW oS : Obj} {nC : Nat}
    {p : Program} (r0 : recAt 0 ∈ recsOf p) (r1 : recAt 1 ∈ recsOf p) (KX : (hd.heap_39 w.params).In s₁.heap) (T : Top p loose mean' mg mb s₁.heap) (F : Fr s₁.heap L s.heap m) (N : News s₁.heap L s.heap news)
    (h0 : m "height" = some (.int (1 + y.fmod 24) tH)) (h1 : m "columns" = some (.ref CL))
    (hW : (L + 1, oW) ∈ news) (hWd : oW.data = .cell (some (.int (1 + x.fmod 2147483647) tw))) (hS : (L + 1 + 1, oS) ∈ news) (hSd : oS.data = .cell (some (.ref S))) (hL : (S, PySem.W.listOf fvs.toArray 0) ∈ news) (hf : IntsAre fvs firsts)
    (hC : (CL, PySem.W.listOf cvs.toArray nC) ∈ news) (hcs : IntsAre cvs cs) (hp : cs.Perm ms) (hm : (∀ z ∈ ms, z ∈ ns.map f) ∧ ms.length ≤ 4 ∧ ms.Nodup) (hff : ∀ k, f k = k.fmod (1 + x.fmod 2147483647))
    (hgens : s.gens = #[]) (hos : s.os = s₁.os) (hh : A.handled = none) (hu : A.units + 1 < cLine) (hroom : A.depth + 1 < recursionLimit) :
    wpAny (model prog w) A (execs [stAt (recAt 2).body 4, stAt (recAt 2).body 5, stAt (recAt 2).body 6, stAt (recAt 2).body 7] (lawEnv L fa cd))
      (fun f s' => GoodWG (OpenLaw.row PySem.Challenge.rw_bq0016_01).claim cl mean args s₁ (.ok (.ret (match f with | .ret v => v | _ => .none))) s') E s := by
  obtain ⟨aN, aT, bm, c, P, aA, ob, X⟩ := laid0 r0 r1 KX T
  have hx : 0 < 1 + x.fmod 2147483647 := by have := Int.fmod_nonneg_of_pos x (show (0 : Int) < 2147483647 by decide); omega
  have hy1 := Int.fmod_nonneg_of_pos y (show (0 : Int) < 24 by decide)
  have hy2 := Int.fmod_lt_of_pos y (show (0 : Int) < 24 by decide)
  refine tail4 (tw := tw) (tH := tH) (h₀ := s₁.heap) (H := 1 + y.fmod 24) (wd := 1 + x.fmod 2147483647) F N (Nat.lt_of_le_of_lt (by decide) (Heap.lt_size (KX 41 _ rfl))) hh hu hroom X.at_ X.fa X.top X.ad X.len X.blen hW hWd hS hSd hL rfl rfl hf hC rfl rfl hcs
    (hp.nodup_iff.mpr hm.2.2) (by rw [hp.length_eq]; exact hm.2.1) (fun z hz => ?_) h0 h1 hgens ⟨by omega, by omega⟩ fun s' k ht hb ho => ?_
  · obtain ⟨k, _, e⟩ := List.mem_map.mp (hm.1 z (hp.mem_iff.mp hz))
    rw [hff] at e
    subst e
    exact ⟨Int.fmod_nonneg_of_pos _ hx, Int.fmod_lt_of_pos _ hx⟩
  · obtain ⟨ps, ht⟩ := ht
    exact good_true (oldK_of X.tab ht k) (ho.trans hos) hb
end
end Mine
end
open PySem PySem.W PyProof.Rows
set_option maxRecDepth 100000
set_option maxHeartbeats 8000000
namespace Mine
/-- a goal that the lines leave alone -/
def Halt (P : Prop) : Prop := P
theorem Halt.mk {P : Prop} (h : Halt P) : P := h
theorem Halt.of {P : Prop} (h : P) : Halt P := h
theorem fm_absurd {y : Int} (h : 1 + y.fmod 2147483647 = 0) : False := by
  have := Int.fmod_nonneg_of_pos y (show (0 : Int) < 2147483647 by decide)
  omega
end Mine
local macro_rules | `(tactic| walk_at "call type:set cons nil") => `(tactic| (k_here; (with_reducible show wpAny _ _ (call (Value.type _) [Value.ref _]) _ _ _); (with_unfolding_all refine' Mine.my_set ?k1 ?k2 ?k3 ?k4 ?k5 ?k6 ?_; (case k1 => k_asm); (case k2 => k_asm); (case k3 => kso_list); (case k4 => l_ints); (case k5 => rfl); (case k6 => (simp only [List.length_map, List.length_drop, List.length_append, List.length_take, Int.toNat_natCast, List.length_cons, List.length_nil]; omega)); k_whole); intro D' o' n' h' tk' F' N' l1 X' e'; (try k_lt l1)))
local macro_rules | `(tactic| walk_at "call builtin:sorted") => `(tactic| (k_here; (with_reducible show wpAny _ _ (call (Value.builtin _) [Value.ref _]) _ _ _); (with_unfolding_all refine' Mine.my_sorted ?k1 ?k2 ?k3 ?k4 ?k5 ?_; (case k1 => k_asm); (case k2 => k_asm); (case k3 => k_mem); (case k4 => k_asm); (case k5 => rfl); k_whole); intro D' v' n' c' h' tk' F' N' l1 i' e'; (try k_lt l1)))
local macro_rules | `(tactic| walk_at "execs cons") => `(tactic| ((with_reducible show wpAny _ _ (execs (PySem.Stmt.Assign [PySem.Expr.Name (PySem.Str.ofString "numbers") _] _ _ :: _) _) _ _ _); refine Mine.Halt.mk ?_))
theorem PySem.Challenge.cw_bq0016_01_holds : PySem.Challenge.rw_bq0016_01.Holds :=
  Mine.hd (by
  w_strict (
    k_fill
    intro w s₀ s₁ mg mb G Y fa o pm cd doc dV kV ho hdat hcd hD hmg hg args vals as hpre hlay hrd hwl hlo
    have KX := kIn_of Y
    have X := (Ground.X G).1
    have V := (Ground.X G).2
    try w_nolog (first | (have GL := glob_more (Ground.glob G (by first | k_qdec | decide +kernel) (by first | k_qdec | decide +kernel)) V) | (have GL := glob_more (Ground.glob G (by decide +kernel)) V))
    refine Ground.open G ?_
    intro T B D TE TW
    try (refine guard_noD D (by decide +kernel) ?_; clear D)
    obtain ⟨_, _, M⟩ := bmod_of_top T
    have TA := at_of_top T
    clear hmg
    wrow_args hpre hlay hrd hwl hlo
    all_goals (
      first | refine callC_kw (enter_call ?_) | refine enter_call ?_ | refine callC_kw (enter_callW ?_) | refine enter_callW ?_ | w_how
      w_top on
      have K0 := below_caller (Top.heap T)
      w_call any ho hdat hcd hD T F
      clear hdat TA
      k_drop
      skip)
    all_goals try k_fold
    all_goals repeat' (first | (k_unfold; (try dsimp only)) | (k_end; kc_close) | walk1 | (dsimp only; walk1) | (leave1; walk_say "STEP leave1"; (try dsimp only)) | fail "no step"))
  · exact (Mine.fm_absurd (by assumption)).elim
  · refine Mine.Halt.of (Mine.law_tail (mg := mg) (mb := mb) ?r0 ?r1 KX T (by assumption) (by assumption) (by rfl) (by rfl) (by repeat (first | exact List.Mem.head _ | refine List.Mem.tail _ ?_)) (by assumption)
      (by repeat (first | exact List.Mem.head _ | refine List.Mem.tail _ ?_)) (by assumption) (by repeat (first | exact List.Mem.head _ | refine List.Mem.tail _ ?_)) ?hf
      (by repeat (first | exact List.Mem.head _ | refine List.Mem.tail _ ?_)) (by assumption) (by assumption) (by assumption) ?hff ?hgens ?hos ?hh ?hu ?hroom)
    case hf => exact .cons 0 _ (.cons 4 _ (.cons 0 _ (.cons 2 _ (.cons 0 _ (.cons 1 _ (.cons 0 _ .nil))))))
    case hff => intro k; exact if_pos (fun e => Mine.fm_absurd e)
    case r0 => exact List.mem_of_getElem? (i := 0) (by rfl)
    case r1 => exact List.mem_of_getElem? (i := 1) (by rfl)
    case hgens => exact hg
    case hos => rfl
    case hh => rfl
    case hu => exact of_decide_eq_true (by with_unfolding_all rfl)
    case hroom => exact of_decide_eq_true (by with_unfolding_all rfl))
