import PyProof.Rows.All
import Wide.All
import OpenK.AllK
import Wide.FinOn
import PySem.Challenge.RW_rl0158_01
open PySem PySem.W PyProof.Rows
set_option Elab.async false
set_option linter.all false
namespace Mine
set_option maxRecDepth 100000 in
set_option maxHeartbeats 8000000 in
open_top hd for PySem.Challenge.rw_rl0158_01
theorem topOff : True := by
  w_top off
  trivial
end Mine
open PySem.Calls PySem.Spec
set_option maxRecDepth 100000
namespace Mine

abbrev Led := List (Addr × Obj)
abbrev tupO (vs : List Value) (n : Nat) : Obj := { cls := .type "tuple", data := .seq vs.toArray n }
abbrev lstO (vs : List Value) (n : Nat) : Obj := { cls := .type "list", data := .seq vs.toArray n }
/-- a mark: here the walk stands still -/
def Stop (P : Prop) : Prop := P
theorem Stop.go {P : Prop} (h : Stop P) : P := h
theorem Stop.on {P : Prop} (h : P) : Stop P := h
/-- what was made lies above what stood -/
def Grew (news tl : Led) : Prop := ∀ q ∈ news, ∀ p ∈ tl, q.1 < p.1
theorem Grew.nil {news : Led} : Grew news [] := fun _ _ _ h => nomatch h
theorem Grew.one {news : Led} {a : Addr} {o : Obj} (h : AllLt a news) : Grew news [(a, o)] := ktn_ord1 h
theorem Grew.app {news tl tl' : Led} (h : Grew news tl) (k : Grew (news ++ tl) tl') : Grew news (tl ++ tl') := ktn_ordA h k

abbrev nl : Str := Str.ofString "\n"

theorem strs_of {vs : List Value} {xs : List Str} (h : StrsAre vs xs) : ∃ l : List (Str × Tok), vs = strValues l ∧ l.map (·.1) = xs := by
  induction h with
  | nil => exact ⟨[], rfl, rfl⟩
  | cons y t _ ih =>
    obtain ⟨l, e1, e2⟩ := ih
    exact ⟨(y, t) :: l, by rw [e1]; rfl, by rw [← e2]; rfl⟩
theorem strs_drop {vs : List Value} {xs : List Str} (h : StrsAre vs xs) (k : Nat) : StrsAre (vs.drop k) (xs.drop k) := by
  induction h generalizing k with
  | nil => simp; exact .nil
  | cons y t r ih => cases k with
    | zero => exact .cons y t r
    | succ k => exact ih k
theorem strs_take {vs : List Value} {xs : List Str} (h : StrsAre vs xs) (k : Nat) : StrsAre (vs.take k) (xs.take k) := by
  induction h generalizing k with
  | nil => simp; exact .nil
  | cons y t r ih => cases k with
    | zero => exact .nil
    | succ k => exact .cons y t (ih k)
theorem strs_get {vs : List Value} {xs : List Str} (h : StrsAre vs xs) : ∀ {i : Nat} {x : Str}, xs[i]? = some x → ∃ t, vs[i]? = some (.str x t) := by
  induction h with
  | nil => intro i x e; simp at e
  | cons y t r ih => intro i x e; cases i with
    | zero => simp at e; subst e; exact ⟨t, rfl⟩
    | succ i => exact ih (by simpa using e)

theorem getD_of {α : Type} {l : List α} {i : Nat} {x : α} (h : l[i]? = some x) (d : α) : l.getD i d = x := by
  rw [List.getD_eq_getElem?_getD, h]; rfl
theorem pick_from (items : Array Value) (k : Nat) : slicePick items (some (k : Int)) none none = (items.toList.drop k).toArray := by
  rw [kms_pick_eq]
  unfold kms_pick kms_lo kms_hi
  simp only [show ¬ ((k : Int) < 0) by omega, if_false, Int.toNat_natCast]
  rw [kmk_drop_min, List.take_of_length_le (by rw [List.length_drop]; omega)]
theorem pick_to (items : Array Value) (k : Nat) : slicePick items none (some (k : Int)) none = (items.toList.take k).toArray := by
  rw [kms_pick_eq]
  unfold kms_pick kms_lo kms_hi
  simp only [show ¬ ((k : Int) < 0) by omega, if_false, Int.toNat_natCast, List.drop_zero, Nat.sub_zero]
  rw [kmk_take_min]
theorem pick_all (items : Array Value) : slicePick items none none none = items := by
  rw [kms_pick_eq]
  unfold kms_pick kms_lo kms_hi
  rw [List.drop_zero, Nat.sub_zero, List.take_length, Array.toArray_toList]

section
variable {prog : Program} {w : World} {A : Around} {E : Value → Shared → Prop} {s : Shared} {h₀ : Heap} {L D : Addr} {m : Str → Option Value} {news : Led} {Q : Value → Shared → Prop} {items : Array Value} {n : Nat} {texts : List Str} {sep : Str} {t : Tok}
theorem join_ok (hm : s.heap.IsList D items) (hs : StrsAre items.toList texts) (hB : ∀ y ∈ texts, y.length ≤ 2000) (hC : texts.length ≤ 2010) (hsep : sep.length ≤ 1)
    (h : ∀ t' k, Q (.str (Txt.join sep texts) t') { s with toks := k }) : wpAny (model prog w) A (call (.builtin "str.join") [.str sep t, .ref D]) Q E s := by
  obtain ⟨l, e1, e2⟩ := strs_of hs
  have e3 : items = (strValues l).toArray := by rw [← e1]
  subst e3
  refine SC.join hm e2 ?_ h
  unfold JoinOk
  rw [StrLaws.joinFits (B := 2000) hB]
  · rfl
  · have h1 : texts.length * 2000 ≤ 2010 * 2000 := Nat.mul_le_mul_right _ hC
    have h2 : texts.length * sep.length ≤ 2010 * 1 := Nat.mul_le_mul hC hsep
    omega
end

set_option maxRecDepth 100000 in
theorem bind_rest (fd : FuncData) (x y : Arg) (h1 : fd.params = { posonlyargs := [], args := [x], vararg := some y, kwonlyargs := [], kw_defaults := [], kwarg := none, defaults := [] }) (h2 : fd.defaults = .none) (v0 : Value) (vs : List Value) :
   bindArgs fd ⟨v0 :: vs, []⟩ = (newTuple vs).bind fun d => pure [(x.arg, v0), (y.arg, d)] := by
  unfold bindArgs
  rw [h1, h2]
  simp only [List.map_nil, List.map_cons, List.nil_append, List.append_nil, List.length_cons, List.length_nil, Option.isNone_some, Bool.and_false, List.forIn_nil, pure_bind, List.zip_cons_cons, List.zip_nil_left]
  show (do let r ← (pure none : Sem (Option (Array Value))); _) = _
  simp only [pure_bind, Option.getD_none, List.lookup_cons, beq_self_eq_true, List.filterMap_cons, List.filterMap_nil, Option.map_some]
  simp only [Bool.false_eq_true, if_false, List.length_nil, List.drop_nil, Nat.zero_sub, Nat.zero_add, Nat.sub_zero, List.take_succ_cons, List.take_zero, List.filter_cons, List.filter_nil, beq_self_eq_true, Option.isNone_some, List.isEmpty_nil, Bool.not_true, List.zip_nil_right, List.forIn_nil, pure_bind, List.drop_succ_cons, List.drop_zero, List.lookup_cons, Option.map_some]
  rfl

section
variable {prog : Program} {w : World} {A A₀ : Around} {s : Shared} {K : Frag} {L : Addr} {h₀ base : Heap} {m mg mb : Str → Option Value} {news : Led} {p : Program} {loose : List Str} {mean : ExcName → Option Value}
/-- entering a def with one parameter and a rest, any number of further arguments -/
theorem rest_enter {env : Env} {outer : List Env} {R : Result → Shared → Prop} {name qual : Str} {x y : Arg} {body : List Stmt} {scope : Scope} {kV doc pm cdv ct oc : Value} {an od : Option Addr} {osl : Array (Option Value)} {f : Addr} {v0 : Value} {vs : List Value}
    (B : Below A₀ base outer h₀) (F : Fr h₀ L s.heap m) (X₀ : K.In h₀) (N : News h₀ L s.heap news) (T : Top p loose mean mg mb h₀) (hA : A.frames = some (env :: outer)) (hf : env.frame = some L) (hke : env.scope.kind = .function)
    (ho : K.lookup f = some ⟨oc, od, .func (fnOf name qual { posonlyargs := [], args := [x], vararg := some y, kwonlyargs := [], kw_defaults := [], kwarg := none, defaults := [] } body scope .none kV doc pm an cdv ct), osl⟩) (hcd : codeIn K cdv qual = true) (hroom : A.depth < recursionLimit)
    (hvs : vs.length ≤ 1000) (hloc : ∀ D, ∀ z ∈ [(x.arg, v0), (y.arg, Value.ref D)], scope.names.lookup z.1 = some .local)
    (h : ∀ D g L' h₁, (∀ p ∈ news, p.1 < D) → Fr h₀ L g m → Fr g L' h₁ (fun z => [(x.arg, v0), (y.arg, Value.ref D)].reverse.lookup z) → News g L' h₁ ((D, ({ cls := .type "tuple", data := .seq vs.toArray } : Obj)) :: news) → Below A base (env :: outer) g → K.In g → Top p loose mean mg mb g →
      wpAny (model prog w) (A.deeper (envOf qual scope L' f cdv)) (execs body (envOf qual scope L' f cdv))
        (fun fl s' => LeaveK h₀ L m g R (match fl with | .ret v => v | _ => .none) s')
        (fun e s' => wpAny (model prog w) (A.deeper (envOf qual scope L' f cdv)) (leaving (envOf qual scope L' f cdv) e) (fun _ s'' => R (.error e) s'') (fun e' s'' => R (.error e') s'') s')
        { s with heap := h₁, toks := s.toks + 2 })
    (hco : scope.isCoroutine = false) (hgen : scope.isGenerator = false) (hk : scope.kind = .function)
    (hcell : ∀ x ∈ scope.names, x.2 ≠ .cell) : codeAny (model prog w) A (.call (.ref f) ⟨v0 :: vs, []⟩) R s := by
  refine codeAny_call_function (fd := fnOf name qual _ body scope .none kV doc pm an cdv ct) (body := body) hroom ((X₀.keeps F.keep) _ _ ho) rfl hco hgen rfl (codeRec_of (X₀.keeps F.keep) hcd) ?_
  rw [bind_rest _ x y rfl rfl]
  have l : ∀ p ∈ news, p.1 < s.heap.objs.size := fun p hp => Heap.lt_size (N p hp).1
  refine wpAny_bind (wpAny_newTuple ?_ (Nat.le_trans hvs (by decide)))
  refine wpAny_pure ?_
  exact kp_frame (cl := []) (s := { s with heap := s.heap.push { cls := .type "tuple", data := .seq vs.toArray } }) B (F.push _) (News.push F N _ rfl) T.nolimit hA hf hke (hloc s.heap.objs.size) (fun g L' h₁ FG FL NG BG st => h s.heap.objs.size g L' h₁ l FG FL NG BG (X₀.keeps st) (T.keeps st)) hcell hk
end

/-- splitdoc, as the code has it -/
def splitdocF (doc : Str) : Str × Str :=
  if (Txt.split (Txt.strip doc) nl).length = 1 then ((Txt.split (Txt.strip doc) nl).getD 0 Str.empty, Str.empty)
  else if (Txt.rstrip ((Txt.split (Txt.strip doc) nl).getD 1 Str.empty)).length = 0 then ((Txt.split (Txt.strip doc) nl).getD 0 Str.empty, Txt.join nl ((Txt.split (Txt.strip doc) nl).drop 2))
  else (Str.empty, Txt.join nl (Txt.split (Txt.strip doc) nl))


/-- replace, as the code has it: the pairs one behind the other -/
def replF : Str → List Str → Str
  | text, p0 :: p1 :: r => replF (Txt.join p1 (Txt.split text p0)) r
  | text, _ => text
/-- a list of pairs: the first of each is not empty, the second has one sign at most -/
def EvenL : List Str → Prop
  | [] => True
  | [_] => False
  | p0 :: p1 :: r => p0.length ≠ 0 ∧ p1.length ≤ 1 ∧ EvenL r
theorem join_len_le (z x y : Str) (hy : 1 ≤ y.length) (hz : z.length ≤ 1) : (Txt.join z (Txt.split x y)).length ≤ x.length := by
  have h1 := congrArg Str.length (StrLaws.join_split x y)
  rw [← StrLaws.glued_eq_join, size_glued] at h1
  show (Builtin.Str.glued z _).length ≤ _
  rw [size_glued]
  have h2 : ((Txt.split x y).length - 1) * z.length ≤ ((Txt.split x y).length - 1) * y.length := Nat.mul_le_mul_left _ (Nat.le_trans hz hy)
  omega
theorem replF_len : ∀ (ps : List Str) (x : Str), EvenL ps → (replF x ps).length ≤ x.length
  | [], _, _ => Nat.le_refl _
  | [_], _, h => h.elim
  | p0 :: p1 :: r, x, h => by
    show (replF _ r).length ≤ _
    exact Nat.le_trans (replF_len r _ h.2.2) (join_len_le p1 x p0 (Nat.pos_of_ne_zero h.1) h.2.1)
/-- a frame of two names -/
def frm2 (x1 : Str) (v1 : Value) (x2 : Str) (v2 : Value) : Str → Option Value := fun y => if y = x1 then some v1 else if y = x2 then some v2 else none
theorem frm2_upd {x1 x2 : Str} {v1 v2 w1 w2 : Value} : (fun y => if y = x1 then some w1 else if y = x2 then some w2 else frm2 x1 v1 x2 v2 y) = frm2 x1 w1 x2 w2 := by
  funext y
  unfold frm2
  by_cases h1 : y = x1
  · simp [h1]
  · by_cases h2 : y = x2
    · simp [h2]
    · simp [h1, h2]
section
variable {prog : Program} {w : World} {A : Around} {E : Value → Shared → Prop} {s : Shared} {h₀ : Heap} {L a : Addr} {news : Led}
theorem truthy_tup {vs : List Value} {n : Nat} {Q : Bool → Shared → Prop} (N : News h₀ L s.heap news) (hm : (a, tupO vs n) ∈ news) (hz : vs.length ≤ 100000)
    (h : Q (!vs.isEmpty) { s with toks := s.toks + 1 + 1 }) : wpAny (model prog w) A (truthy (.ref a)) Q E s := by
  refine ktl_truthy (N _ hm).1 (by rw [List.size_toArray]; omega) ?_
  rw [List.isEmpty_toArray]; exact h
theorem truthy_lst {vs : List Value} {n : Nat} {Q : Bool → Shared → Prop} (N : News h₀ L s.heap news) (hm : (a, lstO vs n) ∈ news) (hz : vs.length ≤ 100000)
    (h : Q (!vs.isEmpty) { s with toks := s.toks + 1 + 1 }) : wpAny (model prog w) A (truthy (.ref a)) Q E s := kgr_truthy N hm rfl rfl (by omega) h
end

section
variable {prog : Program} {w : World} {A : Around} {E : Value → Shared → Prop} {s : Shared} {h₀ : Heap} {L a : Addr} {m : Str → Option Value} {news : Led} {vs : List Value} {n : Nat} {v : Value} {value slice : Expr} {Q : Value → Shared → Prop}
theorem seqIndex_nat {k : Int} {len : Nat} (h0 : 0 ≤ k) (h1 : k.toNat < len) : seqIndex? k len = some k.toNat := by
  unfold seqIndex?
  simp only [if_neg (show ¬ (k < 0) by omega)]
  rw [if_pos]
  simp only [Bool.and_eq_true, decide_eq_true_eq]
  omega
theorem lt_of_some {α : Type} {l : List α} {i : Nat} {x : α} (h : l[i]? = some x) : i < l.length := by
  rcases Nat.lt_or_ge i l.length with h1 | h1
  · exact h1
  · rw [List.getElem?_eq_none h1] at h; cases h
theorem item_tup {k : Int} {u : Tok} (N : News h₀ L s.heap news) (hm : (a, tupO vs n) ∈ news) (h0 : 0 ≤ k) (h1 : k < 2 ^ 62) (hx : vs[k.toNat]? = some v) (h : Q v s)
    (hs : subscripted slice false (.ref a) (.int k u) = operate [.ref a, .int k u] (getItem (.ref a) (.int k u)) := by with_unfolding_all rfl) :
    wpAny (model prog w) A (subscriptTail value slice (.ref a) (.int k u)) Q E s :=
  item_tupleT (t := a) (l := vs) ⟨_, (N _ hm).1, rfl, n, rfl⟩ (by omega) (by omega) (seqIndex_nat h0 (lt_of_some hx)) hx h hs
theorem item_lst {k : Int} {u : Tok} (N : News h₀ L s.heap news) (hm : (a, lstO vs n) ∈ news) (h0 : 0 ≤ k) (h1 : k < 2 ^ 62) (hx : vs[k.toNat]? = some v) (h : Q v s)
    (hs : subscripted slice false (.ref a) (.int k u) = operate [.ref a, .int k u] (getItem (.ref a) (.int k u)) := by with_unfolding_all rfl) :
    wpAny (model prog w) A (subscriptTail value slice (.ref a) (.int k u)) Q E s :=
  have hL : s.heap.IsList a vs.toArray := ⟨_, (N _ hm).1, rfl, n, rfl⟩
  tail_any hL.typeIs slot_list_getitem.lookup (wpAny_getItem_list hL h0 (by omega) (by simpa using hx) h) hs
theorem slice_tup {b : Nat} {u : Tok} (F : Fr h₀ L s.heap m) (N : News h₀ L s.heap news) (hm : (a, tupO vs n) ∈ news) (h1 : 1 ≤ b) (hb : b ≤ vs.length) (hz : vs.length ≤ 100000)
    (h : ∀ D h', Fr h₀ L h' m → News h₀ L h' ((D, tupO (vs.drop b) 0) :: news) → (∀ p ∈ news, p.1 < D) → Q (.ref D) { s with heap := h' })
    (hs : subscripted slice false (.ref a) (.ref s.heap.objs.size) = operate [.ref s.heap.objs.size, .ref a] (getItem (.ref a) (.ref s.heap.objs.size)) := by with_unfolding_all rfl)
    (hg : ∀ r, letTemporaryGo value (.ref a) r = pure () := by intro _; with_unfolding_all rfl) :
    wpAny (model prog w) A (subscriptTail value slice (.ref a) (.ref s.heap.objs.size)) Q E { s with heap := s.heap.push { cls := .type "slice", data := .fields #[.int b u, .none, .none] } } :=
  slice_tuple_from F N (items := vs.toArray) ⟨_, (N _ hm).1, rfl, n, rfl⟩ h1 (by simpa using hb) (fun h' F' N' => h _ h' F' N' fun p hp => Nat.lt_succ_of_lt (Heap.lt_size (N p hp).1)) hs hg (by rw [List.size_toArray, sizeLine_eq]; omega)
theorem split_ok {x y : Str} {t u : Tok} (F : Fr h₀ L s.heap m) (N : News h₀ L s.heap news) (hy : y.length ≠ 0) (hx : x.length ≤ 100000)
    (h : ∀ D vs h' k, StrsAre vs (Txt.split x y) → Fr h₀ L h' m → News h₀ L h' ((D, lstO vs 0) :: news) → (∀ p ∈ news, p.1 < D) → Q (.ref D) { s with heap := h', toks := k }) :
    wpAny (model prog w) A (call (.builtin "str.split") [.str x t, .str y u]) Q E s := by
  refine splitN1 F N (by simpa using hy) (fun l h' k e F' N' => h _ (strValues l) h' k ?_ F' N' fun p hp => Heap.lt_size (N p hp).1) (by rw [sizeLine_eq]; omega)
  rw [← e]; exact strsAre_of_values l
end

section
variable {prog : Program} {w : World} {A : Around} {E : Value → Shared → Prop} {s : Shared} {h₀ : Heap} {L D : Addr} {m : Str → Option Value} {news : Led} {Q : Value → Shared → Prop} {vs : List Value} {n : Nat} {texts : List Str} {sep : Str} {t : Tok}
theorem join_led (N : News h₀ L s.heap news) (hm : (D, lstO vs n) ∈ news) (hs : StrsAre vs texts) (hB : ∀ y ∈ texts, y.length ≤ 2000) (hC : texts.length ≤ 2010) (hsep : sep.length ≤ 1)
    (h : ∀ t' k, Q (.str (Txt.join sep texts) t') { s with toks := k }) : wpAny (model prog w) A (call (.builtin "str.join") [.str sep t, .ref D]) Q E s :=
  join_ok (items := vs.toArray) ⟨_, (N _ hm).1, rfl, n, rfl⟩ hs hB hC hsep h
end

section
variable {prog : Program} {w : World} {A : Around} {E : Value → Shared → Prop} {s : Shared} {env : Env} {h₀ : Heap} {x : Str} {body : List Stmt} {Q : Flow → Shared → Prop}
/-- the end of a turn of a loop over a list of the ledger's -/
def TurnE (h₀ : Heap) (L : Addr) (J : (Str → Option Value) → Led → Prop) (I : Addr) (oI : Obj) (s₁ : Shared) (Q : Flow → Shared → Prop) (f : Flow) (s₂ : Shared) : Prop :=
  match f with
  | .ret v => Q (.ret v) s₂
  | .brk => Q .next s₂
  | _ => ∃ h' tk m' nx, s₂ = { s₁ with heap := h', toks := tk } ∧ Fr h₀ L h' m' ∧ News h₀ L h' ((I, oI) :: nx) ∧ (∀ p ∈ nx, p.1 ≠ I) ∧ J m' nx
theorem iter_led {ax : Addr} {vs : List Value} {k : Nat} {m₀ : Str → Option Value} {news : Led} (J : Nat → (Str → Option Value) → Led → Prop)
    (hh : A.handled = none) (hm : (ax, lstO vs k) ∈ news) (F : Fr h₀ env.locals s.heap m₀) (N : News h₀ env.locals s.heap news) (hj : J 0 m₀ news)
    (hJm : ∀ i m nx, J i m nx → (ax, lstO vs k) ∈ nx)
    (turn : ∀ i v m₁ nx h tk I oI, vs[i]? = some v → J i m₁ nx → (∀ p ∈ nx, p.1 ≠ I) → Fr h₀ env.locals h (fun y => if y = x then some v else m₁ y) → News h₀ env.locals h ((I, oI) :: nx) →
      wpAny (model prog w) A (execs body env) (TurnE h₀ env.locals (J (i + 1)) I oI { s with heap := h, toks := tk } Q) E { s with heap := h, toks := tk })
    (done : ∀ m₁ nx h tk, J vs.length m₁ nx → Fr h₀ env.locals h m₁ → News h₀ env.locals h nx → Q .next { s with heap := h, toks := tk }) :
    wpAny (model prog w) A (pyIter (.ref ax)) (fun it s₂ => LoopAtV prog w A h₀ env x body Q E it s₂) E s := by
  have hls : s.heap.IsList ax vs.toArray := ⟨_, (N _ hm).1, rfl, k, rfl⟩
  have hax := N _ hm
  have hlt : ax < s.heap.objs.size := Heap.lt_size hax.1
  have hne : ax ≠ s.heap.objs.size := Nat.ne_of_lt hlt
  refine wpAny_pyIter_list hls ?_
  have W := Walks.list (prog := prog) (w := w) hh s.heap.objs.size ax hne vs.toArray
  have hlen : vs.toArray.size = vs.length := by simp
  rw [hlen] at W
  refine ⟨_, _, _, vs.length, _, _, m₀, news, J, rfl, W, ?_, ?_, ?_, ⟨⟨_, Heap.get?_push_size _ rfl, rfl, rfl⟩, hls.at fun o e => Heap.get?_push_of_some _ e⟩, F.push _, (fun p hp => ⟨Heap.get?_push_of_some _ (N p hp).1, (N p hp).2⟩), hj, ?_, ?_⟩
  · intro hm'
    rcases List.mem_cons.mp hm' with e | hm'
    · exact absurd F.ns.lt (e ▸ Nat.lt_irrefl _)
    · exact hax.2.1 (List.mem_singleton.mp hm').symm
  · intro b hb
    rw [List.mem_singleton.mp hb]
    exact next_is_new F
  · intro p hp hI
    exact absurd (Heap.lt_size (N p hp).1) ((List.mem_singleton.mp hI) ▸ Nat.lt_irrefl _)
  · rintro i v m₁ news₁ s₁ own ⟨hh', tk', rfl⟩ hin hP hJ hoff hown hget hmem hst F₁ N₁
    obtain ⟨⟨oi, hoi, _⟩, _⟩ := hst
    have hI : (s.heap.objs.size, oi) ∈ own := hmem _ (.head _) (next_is_new F) oi hoi
    have hsrc := hJm i m₁ news₁ hJ
    have hP' : vs[i]? = some v := by simpa using hP
    have N₂ : News h₀ env.locals hh' ((s.heap.objs.size, oi) :: news₁) := fun p hp => by
      rcases List.mem_cons.mp hp with rfl | hp
      · exact N₁ _ (List.mem_append_left _ hI)
      · exact N₁ _ (List.mem_append_right _ hp)
    have hoff' : ∀ p ∈ news₁, p.1 ≠ s.heap.objs.size := fun p hp e => hoff p hp (List.mem_singleton.mpr e)
    refine wpAny_mono (turn i v m₁ news₁ hh' tk' _ oi hP' hJ hoff' F₁ N₂) (fun f s₂ p => ?_) fun _ _ e => e
    have fin : (∃ h' tk m' nx, s₂ = { s with heap := h', toks := tk } ∧ Fr h₀ env.locals h' m' ∧ News h₀ env.locals h' ((s.heap.objs.size, oi) :: nx) ∧ (∀ p ∈ nx, p.1 ≠ s.heap.objs.size) ∧ J (i + 1) m' nx) →
        LoopStepU h₀ env.locals [s.heap.objs.size] own (J (i + 1)) { s with heap := hh', toks := tk' } .next s₂ := by
      rintro ⟨h', tk, m', nx, rfl, F', N', hn, hJ'⟩
      have hsrc' := hJm _ _ _ hJ'
      refine ⟨rfl, h', tk, m', nx, rfl, F', fun q hq => ?_, fun q hq he => hn q hq (List.mem_singleton.mp he), hJ'⟩
      rcases List.mem_append.mp hq with hq | hq
      · have hq0 := N₁ q (List.mem_append_left _ hq)
        rcases List.mem_cons.mp (hown q hq) with e | e
        · have e2 : q.2 = oi := by
            have h1 := hq0.1
            rw [e] at h1
            have h2 := hoi
            rw [h1] at h2
            exact Option.some.inj h2
          have e3 : q = (s.heap.objs.size, oi) := Prod.ext e e2
          rw [e3]
          exact N' _ (.head _)
        · have e := List.mem_singleton.mp e
          have e2 : q.2 = lstO vs k := by
            have h1 := hq0.1
            have h2 := (N₁ _ (List.mem_append_right _ hsrc)).1
            rw [e] at h1
            rw [h1] at h2
            exact Option.some.inj h2
          have e3 : q = (ax, lstO vs k) := Prod.ext e e2
          rw [e3]
          exact N' _ (.tail _ hsrc')
      · exact N' q (.tail _ hq)
    cases f with
    | ret v => exact .ret p
    | brk => exact .brk p
    | next => exact .next (fin p)
    | cont => exact .cont (fin p)
  · rintro h' tk m' news' F' N' _ hJ
    exact done m' news' h' tk hJ F' N'
end

section
variable {prog : Program} {w : World} {A : Around} {E : Value → Shared → Prop} {s : Shared} {h₀ : Heap} {L a : Addr} {m : Str → Option Value} {news : Led} {vs : List Value} {n : Nat} {v : Value} {value slice : Expr} {Q : Value → Shared → Prop}
theorem pick_fromI (items : Array Value) {x : Int} (h0 : 0 ≤ x) : slicePick items (some x) none none = (items.toList.drop x.toNat).toArray := by
  obtain ⟨k, rfl⟩ := Int.eq_ofNat_of_zero_le h0
  exact pick_from items k
theorem pick_toI (items : Array Value) {x : Int} (h0 : 0 ≤ x) : slicePick items none (some x) none = (items.toList.take x.toNat).toArray := by
  obtain ⟨k, rfl⟩ := Int.eq_ofNat_of_zero_le h0
  exact pick_to items k
theorem slice_lst {vl vu : Value} {lo hi : Option Int} {zs : List Value} (F : Fr h₀ L s.heap m) (N : News h₀ L s.heap news) (hm : (a, lstO vs n) ∈ news) (pl : IsPart vl lo) (pu : IsPart vu hi) (e : slicePick vs.toArray lo hi none = zs.toArray) (hz : vs.length ≤ 100000)
    (h : ∀ D h', Fr h₀ L h' m → News h₀ L h' ((D, lstO zs 0) :: news) → (∀ p ∈ news, p.1 < D) → Q (.ref D) { s with heap := h' })
    (hs : subscripted slice false (.ref a) (.ref s.heap.objs.size) = operate [.ref s.heap.objs.size, .ref a] (getItem (.ref a) (.ref s.heap.objs.size)) := by with_unfolding_all rfl)
    (ht : ∀ r, letTemporaryGo value (.ref a) r = pure () := by intro _; with_unfolding_all rfl) :
    wpAny (model prog w) A (subscriptTail value slice (.ref a) (.ref s.heap.objs.size)) Q E { s with heap := s.heap.push { cls := .type "slice", data := .fields #[vl, vu, .none] } } :=
  kmk_slice F N (its := vs.toArray) ⟨_, (N _ hm).1, rfl, n, rfl⟩ pl pu (fun D h' F' N' l => h D h' F' (by rw [e] at N'; exact N') l) hs ht (by rw [List.size_toArray, sizeLine_eq]; omega)
theorem add_lsts {l b : Addr} {vs ws : List Value} {n n' : Nat} {Q : Value → Shared → Prop} (F : Fr h₀ L s.heap m) (N : News h₀ L s.heap news) (hl : (l, lstO vs n) ∈ news) (hb : (b, lstO ws n') ∈ news)
    (h : ∀ D h', Fr h₀ L h' m → News h₀ L h' ((D, lstO (vs ++ ws) 0) :: news) → (∀ p ∈ news, p.1 < D) → Q (.ref D) { s with heap := h' }) (hz : vs.length + ws.length ≤ 100000) :
    wpAny (model prog w) A (binaryOp .Add (.ref l) (.ref b)) Q E s :=
  add_lists F N ⟨_, (N _ hl).1, rfl, n, rfl⟩ ⟨_, (N _ hb).1, rfl, n', rfl⟩ (fun h' F' N' => h _ h' F' N' fun p hp => Heap.lt_size (N p hp).1) (by rw [sizeLine_eq]; omega)
theorem append_led {D : Addr} {pre post : Led} {vs : List Value} {n : Nat} {x : Value} {Q : Value → Shared → Prop} (F : Fr h₀ L s.heap m) (N : News h₀ L s.heap (pre ++ (D, lstO vs n) :: post)) (h1 : ∀ p ∈ pre, p.1 ≠ D) (h2 : ∀ p ∈ post, p.1 ≠ D) (hz : vs.length ≤ 100000)
    (h : ∀ h', Fr h₀ L h' m → News h₀ L h' (pre ++ (D, lstO (vs ++ [x]) (n + 1)) :: post) → Q .none { s with heap := h' }) : wpAny (model prog w) A (call (.builtin "list.append") [.ref D, x]) Q E s := by
  have z := N (D, lstO vs n) (List.mem_append.mpr (.inr (.head _)))
  refine append_at (hsz := by show vs.toArray.size ≤ sizeLine; rw [List.size_toArray, sizeLine_eq]; omega) z.1 fun h' hs ho' => h h' (F.change hs z.2.1 z.2.2) (news_set N h1 h2 hs ?_)
  rw [ho']
  show some (listOf (vs.toArray.push x) (n + 1)) = some (lstO (vs ++ [x]) (n + 1))
  rw [List.push_toArray]
end

theorem ite_same {x : Str} {a b : Option Value} {c : Str → Option Value} : (fun y => if y = x then a else (fun y => if y = x then b else c y) y) = fun y => if y = x then a else c y := by
  funext y
  by_cases h : y = x
  · simp [h]
  · simp [h]
theorem strs_at {vs : List Value} {xs : List Str} (h : StrsAre vs xs) : ∀ {i : Nat} {v : Value}, vs[i]? = some v → ∃ y t, v = .str y t ∧ xs[i]? = some y := by
  induction h with
  | nil => intro i v e; simp at e
  | cons y t r ih => intro i v e; cases i with
    | zero => simp at e; exact ⟨y, t, e.symm, rfl⟩
    | succ i => exact ih (by simpa using e)
theorem strs_len {vs : List Value} {xs : List Str} (h : StrsAre vs xs) : vs.length = xs.length := StrsAre.len_eq h
theorem strs_snoc {vs : List Value} {xs : List Str} (h : StrsAre vs xs) (y : Str) (t : Tok) : StrsAre (vs ++ [.str y t]) (xs ++ [y]) := by
  induction h with
  | nil => exact .cons y t .nil
  | cons z u _ ih => exact .cons z u ih
theorem strs_append {vs ws : List Value} {xs ys : List Str} (h : StrsAre vs xs) (k : StrsAre ws ys) : StrsAre (vs ++ ws) (xs ++ ys) := by
  induction h with
  | nil => exact k
  | cons z u _ ih => exact .cons z u ih
theorem take_snoc {α : Type} {l : List α} {i : Nat} {x : α} (h : l[i]? = some x) : l.take (i + 1) = l.take i ++ [x] := by
  rw [List.take_add_one, h]; rfl

section
variable {prog : Program} {w : World} {A : Around} {E : Value → Shared → Prop} {s : Shared} {h₀ : Heap} {L D : Addr} {m : Str → Option Value} {post : Led} {q r : Addr × Obj} {vs : List Value} {n : Nat} {x : Value} {Q : Value → Shared → Prop}
theorem append_led1 (F : Fr h₀ L s.heap m) (N : News h₀ L s.heap (q :: (D, lstO vs n) :: post)) (h1 : q.1 ≠ D) (h2 : ∀ p ∈ post, p.1 ≠ D) (hz : vs.length ≤ 100000)
    (h : ∀ h', Fr h₀ L h' m → News h₀ L h' (q :: (D, lstO (vs ++ [x]) (n + 1)) :: post) → Q .none { s with heap := h' }) : wpAny (model prog w) A (call (.builtin "list.append") [.ref D, x]) Q E s :=
  append_led (pre := [q]) F N (fun p hp => by rw [List.mem_singleton.mp hp]; exact h1) h2 hz h
theorem append_led2 (F : Fr h₀ L s.heap m) (N : News h₀ L s.heap (q :: r :: (D, lstO vs n) :: post)) (h1 : q.1 ≠ D) (h1' : r.1 ≠ D) (h2 : ∀ p ∈ post, p.1 ≠ D) (hz : vs.length ≤ 100000)
    (h : ∀ h', Fr h₀ L h' m → News h₀ L h' (q :: r :: (D, lstO (vs ++ [x]) (n + 1)) :: post) → Q .none { s with heap := h' }) : wpAny (model prog w) A (call (.builtin "list.append") [.ref D, x]) Q E s :=
  append_led (pre := [q, r]) F N (fun p hp => by
    rcases List.mem_cons.mp hp with rfl | hp
    · exact h1
    · rw [List.mem_singleton.mp hp]; exact h1') h2 hz h
theorem offC {P : Addr × Obj → Prop} {a : Addr × Obj} {l : Led} (h1 : P a) (h2 : ∀ p ∈ l, P p) : ∀ p ∈ a :: l, P p := fun p hp => by
  rcases List.mem_cons.mp hp with rfl | hp
  · exact h1
  · exact h2 p hp
end

/-- the texts' order, as the code has it -/
def ltS (x y : Str) : Bool := decide (x.cps.toList < y.cps.toList)
/-- _law_risen, as the code has it; the first argument is room for the recursion -/
def risenN : Nat → List Str → List Str
  | 0, _ => []
  | _ + 1, [] => []
  | n + 1, x :: r => risenN n (r.filter fun y => ltS y x) ++ [x] ++ risenN n (r.filter fun y => !ltS y x)

theorem news_snoc {h₀ h : Heap} {L : Addr} {l : Led} {q : Addr × Obj} (N : News h₀ L h (l ++ [q])) : News h₀ L h (q :: l) := fun p hp => N p (by
  rcases List.mem_cons.mp hp with rfl | hp
  · exact List.mem_append_right _ (List.mem_singleton.mpr rfl)
  · exact List.mem_append_left _ hp)
theorem filter_le {α : Type} (g : α → Bool) (l : List α) : (l.filter g).length ≤ l.length := List.length_filter_le g l

theorem filter_two {α : Type} (g : α → Bool) : ∀ l : List α, (l.filter g).length + (l.filter fun x => !g x).length = l.length
  | [] => rfl
  | a :: r => by
    have ih := filter_two g r
    cases h : g a with
    | true => rw [List.filter_cons_of_pos h, List.filter_cons_of_neg (by simp [h])]; simp only [List.length_cons]; omega
    | false => rw [List.filter_cons_of_neg (by simp [h]), List.filter_cons_of_pos (by simp [h])]; simp only [List.length_cons]; omega
theorem risenN_le : ∀ (n : Nat) (xs : List Str), (risenN n xs).length ≤ xs.length
  | 0, _ => Nat.zero_le _
  | _ + 1, [] => Nat.le_refl _
  | n + 1, x :: r => by
    have h1 := risenN_le n (r.filter fun y => ltS y x)
    have h2 := risenN_le n (r.filter fun y => !ltS y x)
    have h3 := filter_two (fun y => ltS y x) r
    show (risenN n _ ++ [x] ++ risenN n _).length ≤ _
    simp only [List.length_append, List.length_cons, List.length_nil]
    omega

theorem news_sub {h₀ h : Heap} {L : Addr} {l l' : Led} (N : News h₀ L h l) (k : ∀ p ∈ l', p ∈ l) : News h₀ L h l' := fun p hp => N p (k p hp)
theorem Grew.of_sub {l l' tl : Led} (h : Grew l tl) (k : ∀ p ∈ l', p ∈ l) : Grew l' tl := fun q hq p hp => h q (k q hq) p hp
theorem Grew.add {news tl tl' : Led} (h : Grew news tl) (k : Grew news tl') : Grew news (tl ++ tl') := fun q hq p hp => (List.mem_append.mp hp).elim (h q hq p) (k q hq p)

theorem le_sum_of_mem : ∀ {l : List Str} {y : Str}, y ∈ l → y.length ≤ (l.map (·.length)).sum
  | a :: r, y, h => by
    simp only [List.map_cons, List.sum_cons]
    rcases List.mem_cons.mp h with rfl | h
    · omega
    · have := le_sum_of_mem h; omega

set_option maxRecDepth 100000 in
set_option maxHeartbeats 4000000 in
theorem splitdoc_ok {w : World} {dp un : Nat} {gd : Option (List Code)} {cn : Str} {cs : Scope} {a : Addr} {ccd : Value} {cl : List (Str × Addr)} {outer : List Env} {A₀ : Around} {base h₀ : Heap} {L : Addr} {m : Str → Option Value} {news : List (Addr × Obj)} {s : Shared} {Q E : Value → Shared → Prop}
  {p : Program} {loose : List Str} {mean : ExcName → Option Value} {mg mb : Str → Option Value} {doc : Str} {t : Tok}
  (B : Below A₀ base outer h₀) (F : Fr h₀ L s.heap m) (X : (Mine.hd.heap_39 w.params).In h₀) (N : News h₀ L s.heap news) (T : Top p loose mean mg mb h₀) (hk : cs.kind = .function) (hd : dp + 1 < recursionLimit) (hu : un + 8 < cLine) (hlen : doc.length ≤ 1000)
  (ret : ∀ D ta tb n h' tk', Fr h₀ L h' m → News h₀ L h' (news ++ [(D, tupO [.str (splitdocF doc).1 ta, .str (splitdocF doc).2 tb] n)]) → AllLt D news → Q (.ref D) { s with heap := h', toks := tk' }) :
  wpAny (model PySem.Challenge.rw_rl0158_01.row.prog w) (ktrTop dp un gd cn cs L a ccd cl outer) (call (.ref 21) [.str doc t]) Q E s := by
  revert X; k_fill; intro X
  refine wpAny_call ?_
  k_dflt ktr_enter
  k_steps
  · rename ((_ : Int) = 1) => hl1
    rename (_ = Txt.split _ _) => he1
    rename (_ = some _) => hy1
    rename (_ ∧ AllLt _ _) => ha1
    rename (News h₀ L _ _) => kN
    rename (Fr h₀ L _ m) => kF
    have e1 : splitdocF doc = ((Txt.split (Txt.strip doc) nl).getD 0 Str.empty, Str.empty) := by
      unfold splitdocF
      rw [if_pos]
      rw [← he1, List.length_map]; omega
    rw [he1] at hy1
    rw [e1] at ret
    have e2 := getD_of hy1 Str.empty
    rw [show Int.toNat 0 = 0 from rfl] at e2
    rw [e2] at ret
    exact ret _ _ _ _ _ _ kF (fun p hp => kN p (by
      rcases List.mem_append.mp hp with hp | hp
      · exact .tail _ (.tail _ hp)
      · rw [List.mem_singleton.mp hp]; exact .head _)) ha1.2
  · rename (_ = some _) => hy1
    rename (∀ a, a ∈ _ → _ ≤ _) => hb1
    have hyl := hb1 _ (List.mem_of_getElem? hy1)
    rename (Txt.strip doc).length ≤ _ => hs1
    rename List (Str × Tok) => ls
    rename (StrsAre _ _) => hsa
    rename (_ = Txt.split _ _) => he1
    have he0 := he1
    k_steps
    · refine join_ok (News.isList (by assumption) (by k_mem)) hsa ?_ ?_ (by decide) ?_
      · exact fun y hy => Nat.le_trans (hb1 y hy) (by omega)
      · rw [he0]; have := split_le (Txt.strip doc) nl; exact Nat.le_trans this (by omega)
      intro t9 k9
      rw [he0]
      k_steps
      rename ((_ : Int) ≠ 0) => hr1
      rename ((_ : Int) ≤ _) => hr2
      rename (_ ∧ AllLt _ _) => ha1
      rename (News h₀ L _ _) => kN
      rename (Fr h₀ L _ m) => kF
      have a2 : ¬ (ls.length = 1) := fun e => by
        have r2 : (2 : Int) ≤ (ls.length : Int) := hr2
        omega
      have e9 := congrArg List.length he0
      rw [List.length_map] at e9
      rw [he0] at hy1
      have e2 := getD_of hy1 Str.empty
      rw [show Int.toNat 1 = 1 from rfl] at e2
      have e1 : splitdocF doc = (Str.empty, Txt.join nl (Txt.split (Txt.strip doc) nl)) := by
        unfold splitdocF
        rw [if_neg (by rw [← e9]; exact a2), if_neg]
        rw [e2]
        intro e
        exact hr1 (by rw [e]; rfl)
      rw [e1] at ret
      exact ret _ _ _ _ _ _ kF (fun p hp => kN p (by
        rcases List.mem_append.mp hp with hp | hp
        · exact .tail _ (.tail _ hp)
        · rw [List.mem_singleton.mp hp]; exact .head _)) ha1.2
    · rename (_ = Txt.split _ _) => he0
      refine join_ok (texts := (ls.map (·.1)).drop 2) (News.isList (by assumption) (by k_mem)) (by show StrsAre (slicePick _ (some ((2 : Nat) : Int)) none none).toList _; rw [pick_from _ 2]; exact strs_drop hsa 2) ?_ ?_ (by decide) ?_
      · exact fun y hy => Nat.le_trans (hb1 y (List.mem_of_mem_drop hy)) (by omega)
      · rw [List.length_drop, he0]; have := split_le (Txt.strip doc) nl; exact Nat.le_trans (Nat.sub_le _ _) (Nat.le_trans this (by omega))
      intro t9 k9
      rw [he0]
      rename ((ls.map _)[Int.toNat 0]? = some _) => hy0
      k_steps
      rename ((_ : Int) = 0) => hr1
      rename ((_ : Int) ≤ _) => hr2
      rename (_ ∧ _ ∧ AllLt _ _) => ha1
      rename (News h₀ L _ _) => kN
      rename (Fr h₀ L _ m) => kF
      have a2 : ¬ (ls.length = 1) := fun e => by
        have r2 : (2 : Int) ≤ (ls.length : Int) := hr2
        omega
      have e9 := congrArg List.length he0
      rw [List.length_map] at e9
      rw [he0] at hy1 hy0
      have e2 := getD_of hy1 Str.empty
      rw [show Int.toNat 1 = 1 from rfl] at e2
      have e3 := getD_of hy0 Str.empty
      rw [show Int.toNat 0 = 0 from rfl] at e3
      have e1 : splitdocF doc = ((Txt.split (Txt.strip doc) nl).getD 0 Str.empty, Txt.join nl ((Txt.split (Txt.strip doc) nl).drop 2)) := by
        unfold splitdocF
        rw [if_neg (by rw [← e9]; exact a2), if_pos]
        rw [e2]
        exact Int.ofNat.inj hr1
      rw [e1, e3] at ret
      exact ret _ _ _ _ _ _ kF (fun p hp => kN p (by
        rcases List.mem_append.mp hp with hp | hp
        · exact .tail _ (.tail _ (.tail _ hp))
        · rw [List.mem_singleton.mp hp]; exact .head _)) ha1.2.2
  · exfalso
    rename (¬ ((_ : Int) ≤ _)) => hl1
    rename ((_ : Int) ≠ _) => hl2
    rename (_ = Txt.split _ _) => he1
    rename List (Str × Tok) => ls
    have a1 : ¬ ((2 : Int) ≤ (ls.length : Int)) := hl1
    have a2 : ¬ ((ls.length : Int) = 1) := hl2
    clear hl1 hl2
    have h3 := split_pos (Txt.strip doc) (Str.ofString "\n")
    have h4 := congrArg List.length he1
    rw [List.length_map] at h4
    omega
end Mine
namespace Mine
local macro_rules | `(tactic| k_mem) => `(tactic| first | exact List.mem_cons_self | (refine List.mem_cons_of_mem _ ?_; k_mem) | ktr_member)
local macro_rules | `(tactic| walk_at "truthy ref") => `(tactic| (k_here; (with_reducible show wpAny _ _ (truthy (Value.ref _)) _ _ _); k_dflt (first
  | (refine' truthy_tup ?N ?m ?z ?_; (case N => k_asm); (case m => k_mem); (case z => first | omega | (simp only [List.length_cons, List.length_nil] at *; omega)); k_whole)
  | (refine' truthy_lst ?N ?m ?z ?_; (case N => k_asm); (case m => k_mem); (case z => first | omega | (simp only [List.length_cons, List.length_nil] at *; omega)); k_whole)); (try simp only [List.isEmpty_cons, List.isEmpty_nil, Bool.not_false, Bool.not_true])))
local macro_rules | `(tactic| walk_at "subscriptTail") => `(tactic| (k_here; (with_reducible show wpAny _ _ (subscriptTail _ _ (Value.ref _) (Value.int _ _)) _ _ _); k_dflt (first
  | (refine' item_tup ?N ?m ?a ?b ?x ?_ ?s; (case N => k_asm); (case m => k_mem); (case a => first | decide | omega); (case b => first | decide | omega); (case x => first | exact rfl | assumption); (case s => with_unfolding_all rfl); k_whole)
  | (refine' item_lst ?N ?m ?a ?b ?x ?_ ?s; (case N => k_asm); (case m => k_mem); (case a => first | decide | omega); (case b => first | decide | omega); (case x => first | exact rfl | assumption); (case s => with_unfolding_all rfl); k_whole))))
local macro_rules | `(tactic| walk_at "call builtin:str.split") => `(tactic| (k_here; (with_reducible show wpAny _ _ (call (Value.builtin "str.split") [Value.str _ _, Value.str _ _]) _ _ _); k_dflt (refine' split_ok ?F ?N ?y ?x ?_; (case F => k_asm); (case N => k_asm); (case y => first | decide | assumption | omega); (case x => omega); k_whole); intro D' vs' h' k' e' F' N' l1; (try k_lt l1); (try k_sweep)))
local macro_rules | `(tactic| walk_at "call builtin:str.join") => `(tactic| (k_here; (with_reducible show wpAny _ _ (call (Value.builtin "str.join") [Value.str _ _, Value.ref _]) _ _ _); k_dflt (refine' join_led ?N ?m ?s ?B ?C ?e ?_; (case N => k_asm); (case m => k_mem); (case s => assumption); (case B => first | assumption | exact fun _ hy => Nat.le_trans (part_short hy) (by omega)); (case C => first | omega | exact Nat.le_trans (split_le _ _) (by omega)); (case e => first | decide | assumption | omega); k_whole); intro _ _))
local macro_rules | `(tactic| walk_at "subscriptTail Name Slice ref ref") => `(tactic| (k_here; k_dflt (first
  | (refine' slice_lst (lo := some _) (hi := none) ?F ?N ?m ?p ?q ?e ?z ?_ ?s ?t; (case F => k_asm); (case N => k_asm); (case m => k_mem); (case p => exact IsPart.int _ _); (case q => exact IsPart.none); (case e => exact pick_fromI _ (by first | decide | omega)); (case z => first | omega | (simp only [List.length_cons] at *; omega)); (case s => with_unfolding_all rfl); (case t => (intro _; with_unfolding_all rfl)); k_whole)
  | (refine' slice_lst (lo := none) (hi := some _) ?F ?N ?m ?p ?q ?e ?z ?_ ?s ?t; (case F => k_asm); (case N => k_asm); (case m => k_mem); (case p => exact IsPart.none); (case q => exact IsPart.int _ _); (case e => exact pick_toI _ (by first | decide | omega)); (case z => first | omega | (simp only [List.length_cons] at *; omega)); (case s => with_unfolding_all rfl); (case t => (intro _; with_unfolding_all rfl)); k_whole)
  | (refine' slice_lst (lo := none) (hi := none) ?F ?N ?m ?p ?q ?e ?z ?_ ?s ?t; (case F => k_asm); (case N => k_asm); (case m => k_mem); (case p => exact IsPart.none); (case q => exact IsPart.none); (case e => exact pick_all _); (case z => first | omega | (simp only [List.length_cons] at *; omega)); (case s => with_unfolding_all rfl); (case t => (intro _; with_unfolding_all rfl)); k_whole)); intro D' h' F' N' l1; (try dsimp only [Array.toList_toArray] at N'); (try k_lt l1); (try k_sweep)))
local macro_rules | `(tactic| walk_at "binaryOp Add ref ref") => `(tactic| (k_here; (with_reducible show wpAny _ _ (binaryOp _ (Value.ref _) (Value.ref _)) _ _ _); k_dflt (refine' add_lsts ?F ?N ?a ?b ?_ ?z; (case F => k_asm); (case N => k_asm); (case a => k_mem); (case b => k_mem); (case z => first | omega | (simp only [List.length_cons, List.length_append, List.length_nil] at *; omega)); k_whole); intro D' h' F' N' l1; (try k_lt l1); (try k_sweep)))
local macro_rules | `(tactic| k_all) => `(tactic| assumption)
local macro_rules | `(tactic| walk_at "pyIter ref") => `(tactic| (k_extra "pyIter ref"))
local macro_rules | `(tactic| walk_at "call ref") => `(tactic| (k_here; kn_here; k_dflt (refine wpAny_call ?_; (refine' kla_code ?k1 ?k2 ?k3 ?k4 ?k5 ?kA ?kF ?kK ?k6 ?k7 ?k8 ?k9 ?kB ?_ ?c2 ?c3 ?c4 ?c5; (case kA => exact rfl); (case kF => exact rfl); (case kK => first | exact rfl | assumption); (case k1 => k_asm); (case k2 => k_asm); (case k3 => k_asm); (case k4 => k_asm); (case k5 => k_asm); (case k6 => k_mem); (case k7 => exact codeRec_news (by k_asm) (by k_mem) (by assumption) (by assumption)); (case k8 => ktr_room); (case k9 => exact rfl); (case c5 => decide); (case kB => exact locs rfl); (case c2 => exact rfl); (case c3 => exact rfl); (case c4 => exact rfl); k_whole; intro g' L' h' FG' F' N' B' X' T'; (try dsimp only); (try k_lift B'); (try k_fold)))))
local macro_rules | `(tactic| walk_at "callWith ref") => `(tactic| (k_here; (fail_if_success (first
  | (with_reducible show wpAny _ _ (callWith _ (Value.ref 42) _ _ _) _ _ _)
  | (with_reducible show wpAny _ _ (callWith _ (Value.ref 28) _ _ _) _ _ _)
  | (with_reducible show wpAny _ _ (callWith _ (Value.ref 21) _ _ _) _ _ _)
  | (with_reducible show wpAny _ _ (callWith _ (Value.ref 35) _ _ _) _ _ _)
  | (with_reducible show wpAny _ _ (callWith _ (Value.ref 47) _ _ _) _ _ _)
  | (with_reducible show wpAny _ _ (callWith _ (Value.ref 52) _ _ _) _ _ _)
  | (with_reducible show wpAny _ _ (callWith _ (Value.ref 57) _ _ _) _ _ _)
  | (with_reducible show wpAny _ _ (callWith _ (Value.ref 64) _ _ _) _ _ _))); k_dflt (refine' callWith_F ?k1 ?_; (case k1 => exact FnAt.of (by k_asm) (by k_mem)); k_whole)))
local macro_rules | `(tactic| walk_at "call builtin:list.append") => `(tactic| (k_here; (with_reducible show wpAny _ _ (call (Value.builtin _) [Value.ref _, _]) _ _ _); k_dflt (first
  | (refine' append_led1 ?F ?N ?a ?b ?z ?_; (case F => k_asm); (case N => k_asm); (case a => assumption); (case b => first | assumption | exact offC (by assumption) (by assumption)); (case z => omega); k_whole)
  | (refine' append_led2 ?F ?N ?a ?a2 ?b ?z ?_; (case F => k_asm); (case N => k_asm); (case a => assumption); (case a2 => assumption); (case b => first | assumption | exact offC (by assumption) (by assumption)); (case z => omega); k_whole)); intro h' F' N'; (try k_sweep)))
local macro_rules | `(tactic| walk_at "call ref") => `(tactic| ((first
  | (with_reducible show wpAny _ _ (call (Value.ref 42) _) _ _ _)
  | (with_reducible show wpAny _ _ (call (Value.ref 28) _) _ _ _)
  | (with_reducible show wpAny _ _ (call (Value.ref 21) _) _ _ _)
  | (with_reducible show wpAny _ _ (call (Value.ref 35) _) _ _ _)
  | (with_reducible show wpAny _ _ (call (Value.ref 47) _) _ _ _)
  | (with_reducible show wpAny _ _ (call (Value.ref 52) _) _ _ _)
  | (with_reducible show wpAny _ _ (call (Value.ref 57) _) _ _ _)
  | (with_reducible show wpAny _ _ (call (Value.ref 64) _) _ _ _)); refine Stop.go ?_))
local macro_rules | `(tactic| walk_at "call ref") => `(tactic| (k_extra "call ref"))
local macro_rules | `(tactic| walk_at "exec Assign cons ListComp") => `(tactic| (k_here; k_dflt (refine LCg.Assign_ListComp_U (F₀ := by k_asm) (by rfl) (by with_unfolding_all rfl) (by with_unfolding_all rfl) (by decide) (by rfl) (by decide) (by rfl) (by rfl) (by rfl) ?_)))
local macro_rules | `(tactic| walk_at "eval ListComp") => `(tactic| (k_here; k_dflt (refine LCg.ListComp_U (F₀ := by k_asm) (by with_unfolding_all rfl) (by decide) (by rfl) (by decide) (by rfl) ?_)))
local macro_rules | `(tactic| walk_at "CompSrc") => `(tactic| (refine Stop.go ?_))
local macro_rules | `(tactic| walk_at "CompEnd") => `(tactic| (refine Stop.go ?_))
local macro_rules | `(tactic| walk_at "StarOf ref") => `(tactic| (k_here; k_dflt (refine' star_seq ?k1 ?k2 ?m ?c ?d ?T ?e ?z ?_; (case k1 => k_asm); (case k2 => k_asm); (case m => k_mem); (case c => exact rfl); (case d => exact rfl); (case T => first | exact .inl rfl | exact .inr rfl); (case e => exact rfl); (case z => first | exact Nat.le_of_ble_eq_true rfl | (rw [List.size_toArray, sizeLine_eq]; omega)); k_whole); intro h' F' N'; (try k_sweep); try dsimp only [List.nil_append, List.cons_append]))
section
local macro_rules | `(tactic| walk_at "subscriptTail Name Slice ref ref") => `(tactic| (k_here; k_dflt (refine' slice_tup (b := 2) ?F ?N ?m ?a ?b ?z ?_ ?s ?t; (case F => k_asm); (case N => k_asm); (case m => k_mem); (case a => decide); (case b => (simp only [List.length_cons]; omega)); (case z => first | omega | (simp only [List.length_cons] at *; omega)); (case s => with_unfolding_all rfl); (case t => (intro _; with_unfolding_all rfl)); k_whole); intro D' h' F' N' l1; (try k_lt l1); (try k_sweep)))
set_option maxRecDepth 100000 in
set_option maxHeartbeats 4000000 in
theorem replace_ok {w : World} {dp un : Nat} {gd : Option (List Code)} {cn : Str} {cs : Scope} {a : Addr} {ccd : Value} {cl : List (Str × Addr)} {outer : List Env} {A₀ : Around} {base h₀ : Heap} {L : Addr} {m : Str → Option Value} {news : List (Addr × Obj)} {s : Shared} {Q E : Value → Shared → Prop}
  {p : Program} {loose : List Str} {mean : ExcName → Option Value} {mg mb : Str → Option Value} {text : Str} {t : Tok}  {vs : List Value} {ps : List Str}
  (B : Below A₀ base outer h₀) (F : Fr h₀ L s.heap m) (X : (Mine.hd.heap_39 w.params).In h₀) (N : News h₀ L s.heap news) (T : Top p loose mean mg mb h₀) (hk : cs.kind = .function) (hd : dp + 1 < recursionLimit) (hu : un + 8 < cLine) (hlen : text.length ≤ 1000)
  (hps : StrsAre vs ps) (hvs : vs.length ≤ 1000)
  (hev : EvenL ps)
  (ret : ∀ ta h' tk', Fr h₀ L h' m → News h₀ L h' news → Q (.str (replF text ps) ta) { s with heap := h', toks := tk' }) :
  wpAny (model PySem.Challenge.rw_rl0158_01.row.prog w) (ktrTop dp un gd cn cs L a ccd cl outer) (call (.ref 28) (.str text t :: vs)) Q E s := by
  revert X; k_fill; intro X
  refine wpAny_call ?_
  k_dflt (refine' rest_enter ?k1 ?k2 ?k3 ?k4 ?k5 ?kA ?kF ?kK ?k6 ?k7 ?k8 ?kV ?kB ?_ ?c2 ?c3 ?c4 ?c5; (case kA => exact rfl); (case kF => exact rfl); (case kK => assumption); (case k1 => k_asm); (case k2 => k_asm); (case k3 => k_asm); (case k4 => k_asm); (case k5 => k_asm); (case k6 => k_is); (case k7 => k_is); (case k8 => ktr_room); (case kV => assumption); (case kB => exact fun _ => locs rfl); (case c5 => decide); (case c2 => exact rfl); (case c3 => exact rfl); (case c4 => exact rfl); k_whole; intro D' g' L' h' l1 FG' F' N' B' X' T'; (try k_lt l1); (try dsimp only); (try k_lift B'); (try k_fold))
  refine wpAny_execs_cons ?_
  refine While_inv2 (fun n m₁ nx => ∃ (txt : Str) (tt : Tok) (D : Addr) (vs' : List Value) (k : Nat) (ps' : List Str), m₁ = frm2 (Str.ofString "pairs") (.ref D) (Str.ofString "text") (.str txt tt) ∧ (D, tupO vs' k) ∈ nx ∧ StrsAre vs' ps' ∧ (vs'.length ≤ n ∧ vs'.length ≤ 1000) ∧ EvenL ps' ∧ txt.length ≤ 1000 ∧ replF txt ps' = replF text ps ∧ ∀ p ∈ news, p ∈ nx) (n₀ := vs.length)
    F' N' ?_ ?_
  · refine ⟨text, t, D', vs, 0, ps, ?_, .head _, hps, ⟨Nat.le_refl _, hvs⟩, hev, hlen, rfl, fun p hp => .tail _ hp⟩
    funext y
    unfold frm2
    by_cases h1 : y = Str.ofString "pairs"
    · subst h1; rfl
    · by_cases h2 : y = Str.ofString "text"
      · subst h2; rfl
      · simp [h1, h2]
  · rintro n m₁ nx h₁ tk₁ F₁ N₁ ⟨txt, tt, D, vs', k, ps', rfl, hm1, hs1, ⟨hn1, hn2⟩, he1, hl1, hr1, hsub⟩
    clear F' N'
    cases hs1 with
    | nil =>
      k_steps
      rename (News h₀ L _ _) => kN
      rename (Fr h₀ L _ m) => kF
      rw [← hr1] at ret
      exact ret _ _ _ kF (fun p hp => kN p (hsub p hp))
    | cons p0 t0 r0 =>
      cases r0 with
      | nil => exact he1.elim
      | cons p1 t1 r1 =>
        obtain ⟨hp0, hp1, he2⟩ := he1
        k_steps
        rename (StrsAre _ _) => r9
        rename (News _ _ _ _) => kN
        rename (Fr _ _ _ _) => kF
        rw [frm2_upd] at kF
        refine ⟨_, _, _, _, n - 1, rfl, kF, kN, by simp only [List.length_cons] at hn1; omega, _, _, _, _, _, _, rfl, .head _, r1, ⟨?_, ?_⟩, he2, Nat.le_trans (join_len_le p1 txt p0 (Nat.pos_of_ne_zero hp0) hp1) hl1, hr1, fun p hp => .tail _ (.tail _ (hsub p hp))⟩
        · simp only [List.length_cons] at hn1; simp only [List.drop_succ_cons, List.drop_zero]; omega
        · simp only [List.length_cons] at hn2; simp only [List.drop_succ_cons, List.drop_zero]; omega
end
section
/-- a callable that asks one text, leaves all as it stands, and answers by g -/
def PredOk (w : World) (base : Heap) (f : Addr) (news0 : Led) (g : Str → Bool) : Prop := ∀ (dp un : Nat) (gd : Option (List Code)) (cn : Str) (cs : Scope) (a : Addr) (ccd : Value) (cl : List (Str × Addr)) (outer : List Env) (A₀ : Around) (h₀ : Heap) (L : Addr) (m : Str → Option Value) (news : List (Addr × Obj)) (s : Shared) (Q E : Value → Shared → Prop)
  (p : Program) (loose : List Str) (mean : ExcName → Option Value) (mg mb : Str → Option Value) (y : Str) (t : Tok),
  Below A₀ base outer h₀ → Fr h₀ L s.heap m → (Mine.hd.heap_39 w.params).In h₀ → News h₀ L s.heap news → Top p loose mean mg mb h₀ → cs.kind = .function → dp + 2 < 910 → un + 8 * 2 < 9100 → (∀ q ∈ news0, q ∈ news) →
  (∀ h' tk', Fr h₀ L h' m → News h₀ L h' news → Q (.bool (g y)) { s with heap := h', toks := tk' }) →
  wpAny (model PySem.Challenge.rw_rl0158_01.row.prog w) (ktrTop dp un gd cn cs L a ccd cl outer) (call (.ref f) [.str y t]) Q E s

theorem PredOk.use {w : World} {base : Heap} {f : Addr} {news0 : Led} {g : Str → Bool} (hp : PredOk w base f news0 g) {dp un : Nat} {gd : Option (List Code)} {cn : Str} {cs : Scope} {a : Addr} {ccd : Value} {cl : List (Str × Addr)} {outer : List Env} {A₀ : Around} {h₀ : Heap} {L : Addr} {m : Str → Option Value} {news : List (Addr × Obj)} {s : Shared} {Q E : Value → Shared → Prop}
  {p : Program} {loose : List Str} {mean : ExcName → Option Value} {mg mb : Str → Option Value} {y : Str} {t : Tok}
  (B : Below A₀ base outer h₀) (F : Fr h₀ L s.heap m) (X : (Mine.hd.heap_39 w.params).In h₀) (N : News h₀ L s.heap news) (T : Top p loose mean mg mb h₀) (hk : cs.kind = .function) (hd : dp + 2 < 910) (hu : un + 8 * 2 < 9100) (hs : ∀ q ∈ news0, q ∈ news)
  (ret : ∀ h' tk', Fr h₀ L h' m → News h₀ L h' news → Q (.bool (g y)) { s with heap := h', toks := tk' }) :
  wpAny (model PySem.Challenge.rw_rl0158_01.row.prog w) (ktrTop dp un gd cn cs L a ccd cl outer) (call (.ref f) [.str y t]) Q E s :=
  hp dp un gd cn cs a ccd cl outer A₀ h₀ L m news s Q E p loose mean mg mb y t B F X N T hk hd hu hs ret

set_option maxRecDepth 100000 in
set_option maxHeartbeats 4000000 in
theorem splitlist_ok {w : World} {dp un : Nat} {gd : Option (List Code)} {cn : Str} {cs : Scope} {a : Addr} {ccd : Value} {cl : List (Str × Addr)} {outer : List Env} {A₀ : Around} {base h₀ : Heap} {L : Addr} {m : Str → Option Value} {news : List (Addr × Obj)} {s : Shared} {Q E : Value → Shared → Prop}
  {p : Program} {loose : List Str} {mean : ExcName → Option Value} {mg mb : Str → Option Value} {R f : Addr} {vs : List Value} {k : Nat} {xs : List Str} (g : Str → Bool)
  (B : Below A₀ base outer h₀) (F : Fr h₀ L s.heap m) (X : (Mine.hd.heap_39 w.params).In h₀) (N : News h₀ L s.heap news) (T : Top p loose mean mg mb h₀) (hk : cs.kind = .function) (hd : dp + 3 < 910) (hu : un + 8 * 3 < 9100)
  (hm : (R, lstO vs k) ∈ news) (hs : StrsAre vs xs) (hn : vs.length ≤ 1000) (hf : ∃ oc od fd sl, (f, (⟨oc, od, .func fd, sl⟩ : Obj)) ∈ news) (hp : PredOk w base f news g)
  (ret : ∀ D Y Z ys zs ky kz kt h' tk', Fr h₀ L h' m → News h₀ L h' ((D, tupO [.ref Y, .ref Z] kt) :: (Z, lstO zs kz) :: (Y, lstO ys ky) :: news) → (∀ q ∈ news, q.1 < Y) → Y < Z → Z < D → StrsAre ys (xs.filter g) → StrsAre zs (xs.filter fun x => !g x) → Q (.ref D) { s with heap := h', toks := tk' }) :
  wpAny (model PySem.Challenge.rw_rl0158_01.row.prog w) (ktrTop dp un gd cn cs L a ccd cl outer) (call (.ref 35) [.ref R, .ref f]) Q E s := by
  revert X; k_fill; intro X
  refine wpAny_call ?_
  k_dflt (refine' code_def ?k1 ?k2 ?k3 ?k4 ?k5 ?kA ?kF ?kK ?k6 ?k7 ?k8 ?k9 ?kB ?_ ?c2 ?c3 ?c4 ?c5; (case kA => exact rfl); (case kF => exact rfl); (case kK => first | assumption | exact rfl); (case k1 => k_asm); (case k2 => k_asm); (case k3 => k_asm); (case k4 => k_asm); (case k5 => k_asm); (case k6 => k_is); (case k7 => k_is); (case k8 => ktr_room); (case k9 => exact BindsTo.of_eq rfl); (case c5 => decide); (case kB => exact locs rfl); (case c2 => exact rfl); (case c3 => exact rfl); (case c4 => exact rfl); k_whole)
  intro g1 L1 h1 FG1 F1 N1 B1 X1 T1
  (try dsimp only)
  (try k_lift B1)
  (try k_fold)
  obtain ⟨foc, fod, ffd, fsl, hf⟩ := hf
  k_with_none
  k_with "call ref" => (k_dflt (refine' hp.use ?B ?F ?X ?N ?T ?k ?d ?u ?s ?_; (case B => k_asm); (case F => k_asm); (case X => k_asm); (case N => k_asm); (case T => k_asm); (case k => exact rfl); (case d => ktr_room); (case u => ktr_units); (case s => intro q hq; first | exact hq | exact List.mem_cons_of_mem _ (List.mem_cons_of_mem _ (List.mem_cons_of_mem _ hq))); k_whole); intro h' tk' F' N'; (try k_sweep))
  k_steps
  rename_i t0 Y hA lY hB Z hC lYZ hD lF lN
  obtain ⟨lYZ, lZ⟩ := lYZ
  have hYn : ∀ q ∈ news, q.1 ≠ Y := fun q hq => Nat.ne_of_lt (lY q hq)
  have hZn : ∀ q ∈ news, q.1 ≠ Z := fun q hq => Nat.ne_of_lt (ktn_ltOf lZ q hq)
  have hYZ : Z ≠ Y := (Nat.ne_of_lt lYZ).symm
  (with_unfolding_all refine' For_invVF lF ?k1 ?k2 ?_; (case k1 => exact rfl); (case k2 => exact rfl); k_whole)
  k_steps
  refine iter_led (fun i m₁ nx => (∃ u, m₁ = fun y => if y = Str.ofString "x" then u else (fun y => if y = Str.ofString "no" then some (Value.ref Z) else if y = Str.ofString "yes" then some (Value.ref Y) else if y = Str.ofString "predicate" then some (.ref f) else if y = Str.ofString "s" then some (.ref R) else none) y) ∧
      ∃ ys zs ky kz, nx = (Z, lstO zs kz) :: (Y, lstO ys ky) :: news ∧ StrsAre ys ((xs.take i).filter g) ∧ StrsAre zs ((xs.take i).filter fun x => !g x) ∧ ys.length ≤ i ∧ zs.length ≤ i ∧ i ≤ vs.length) rfl (.tail _ (.tail _ hm)) lF lN ?_ ?_ ?_ ?_
  · refine ⟨⟨none, ?_⟩, [], [], 0, 0, rfl, .nil, .nil, Nat.le_refl _, Nat.le_refl _, Nat.zero_le _⟩
    funext y
    by_cases h1 : y = Str.ofString "x"
    · subst h1; rfl
    by_cases h2 : y = Str.ofString "no"
    · subst h2; rfl
    by_cases h3 : y = Str.ofString "yes"
    · subst h3; rfl
    by_cases h4 : y = Str.ofString "predicate"
    · subst h4; rfl
    by_cases h5 : y = Str.ofString "s"
    · subst h5; rfl
    simp only [if_neg h1, if_neg h2, if_neg h3, if_neg h4, if_neg h5]
    show List.lookup y [(Str.ofString "predicate", Value.ref f), (Str.ofString "s", Value.ref R)] = none
    simp only [List.lookup_cons, beq_eq_false_iff_ne.mpr h4, beq_eq_false_iff_ne.mpr h5, List.lookup_nil]
  · rintro i m₁ nx ⟨_, ys, zs, ky, kz, rfl, _⟩
    exact .tail _ (.tail _ hm)
  · rintro i v m₁ nx h tk I oI hv ⟨⟨u, rfl⟩, ys, zs, ky, kz, rfl, hys, hzs, ly, lz, li⟩ hoI F2 N2
    obtain ⟨y, t, rfl, hy⟩ := strs_at hs hv
    rw [ite_same] at F2
    have hoI' : ∀ (ys zs : List Value) (ky kz : Nat), ∀ p ∈ ((Z, lstO zs kz) :: (Y, lstO ys ky) :: news : Led), p.1 ≠ I := fun ys' zs' ky' kz' => offC (P := fun p => p.1 ≠ I) (show Z ≠ I from hoI (Z, lstO zs kz) (.head _)) (offC (P := fun p => p.1 ≠ I) (show Y ≠ I from hoI (Y, lstO ys ky) (.tail _ (.head _))) fun p hp => hoI p (.tail _ (.tail _ hp)))
    have hIZ : I ≠ Z := (hoI _ (.head _)).symm
    have hIY : I ≠ Y := (hoI _ (.tail _ (.head _))).symm
    have hZY : Y ≠ Z := hYZ.symm
    have hlt := lt_of_some hv
    k_steps
    · rename (g y = true) => hg
      rename (Fr g1 _ _ _) => eF
      rename (News g1 _ _ _) => eN
      refine ⟨_, _, _, _, rfl, eF, eN, hoI' _ _ _ _, ⟨_, rfl⟩, ys ++ [.str y t], zs, ky + 1, kz, rfl, ?_, ?_, ?_, ?_, hlt⟩
      · rw [take_snoc hy, List.filter_append, List.filter_cons_of_pos hg]; exact strs_snoc hys y t
      · rw [take_snoc hy, List.filter_append, List.filter_cons_of_neg (by simp [hg]), List.filter_nil, List.append_nil]; exact hzs
      · rw [List.length_append]; exact Nat.add_le_add_right ly 1
      · exact Nat.le_succ_of_le lz
    · rename (g y = false) => hg
      rename (Fr g1 _ _ _) => eF
      rename (News g1 _ _ _) => eN
      refine ⟨_, _, _, _, rfl, eF, eN, hoI' _ _ _ _, ⟨_, rfl⟩, ys, zs ++ [.str y t], ky, kz + 1, rfl, ?_, ?_, ?_, ?_, hlt⟩
      · rw [take_snoc hy, List.filter_append, List.filter_cons_of_neg (by simp [hg]), List.filter_nil, List.append_nil]; exact hys
      · rw [take_snoc hy, List.filter_append, List.filter_cons_of_pos (by simp [hg])]; exact strs_snoc hzs y t
      · exact Nat.le_succ_of_le ly
      · rw [List.length_append]; exact Nat.add_le_add_right lz 1
  · rintro m₁ nx h tk ⟨⟨u, rfl⟩, ys, zs, ky, kz, rfl, hys, hzs, ly, lz, li⟩ F2 N2
    rw [List.take_of_length_le (Nat.le_of_eq (strs_len hs).symm)] at hys hzs
    k_steps
    rename (News h₀ L _ _) => kN
    rename (Fr h₀ L _ m) => kF
    rename (_ ∧ _ ∧ AllLt _ _) => ha1
    exact ret _ _ _ _ _ _ _ _ _ _ kF kN lY lYZ ha1.1 hys hzs
end
section
set_option maxRecDepth 100000 in
set_option maxHeartbeats 4000000 in
theorem risen_hit {w : World} {c0 : Addr} {oc0 : Obj} {vsC : Array Value} {tq : Tok} (n : Nat) : ∀ {dp un : Nat} {gd : Option (List Code)} {cn : Str} {cs : Scope} {a : Addr} {ccd : Value} {cl : List (Str × Addr)} {outer : List Env} {A₀ : Around} {base h₀ : Heap} {L : Addr} {m : Str → Option Value} {news : List (Addr × Obj)} {s : Shared} {Q E : Value → Shared → Prop} {p : Program} {loose : List Str} {mean : ExcName → Option Value} {mg mb : Str → Option Value} {R : Addr} {vs : List Value} {k : Nat} {xs : List Str}
  (B : Below A₀ base outer h₀) (F : Fr h₀ L s.heap m) (X : (Mine.hd.heap_39 w.params).In h₀) (T : Top p loose mean mg mb h₀) (hk : cs.kind = .function) (N : News h₀ L s.heap news) (hd : dp + n + 4 < 900) (hu : un + 8 * (n + 4) < 9000)
  (C : CodeHd base 41 37) (h37 : (37, tabObj #[rawInt 27, rawInt 38, .ref c0]) ∈ news) (hc0 : (c0, oc0) ∈ news) (hd0 : oc0.data = .fields vsC) (hv0 : vsC[1]? = some (.str (Str.ofString "_law_risen" ++ Str.ofString ".<locals>." ++ Str.ofString "<lambda>") tq))
  (hm : (R, lstO vs k) ∈ news) (hs : StrsAre vs xs) (hn : vs.length ≤ n) (hn2 : n ≤ 100)
  (ret : ∀ D ws h' tk', Fr h₀ L h' m → News h₀ L h' (news ++ [(D, lstO ws 0)]) → AllLt D news → StrsAre ws (risenN (n + 1) xs) → Q (.ref D) { s with heap := h', toks := tk' }),
  wpAny (model PySem.Challenge.rw_rl0158_01.row.prog w) (ktrTop dp un gd cn cs L a ccd cl outer) (call (.ref 42) [.ref R]) Q E s := by
  induction n with
  | zero =>
    intro dp un gd cn cs a ccd cl outer A₀ base h₀ L m news s Q E p loose mean mg mb R vs k xs B F X T hk N hd hu C h37 hc0 hd0 hv0 hm hs hn hn2 ret
    revert X; k_fill; intro X
    refine wpAny_call ?_
    k_dflt (refine' code_defC ?k1 ?k2 ?k3 ?k4 ?k5 ?kA ?kF ?kK ?k6 ?k7 ?k8 ?k9 ?kB ?kD ?_ ?c2 ?c3 ?c4; (case kA => exact rfl); (case kF => exact rfl); (case kK => first | assumption | exact rfl); (case k1 => k_asm); (case k2 => k_asm); (case k3 => k_asm); (case k4 => k_asm); (case k5 => k_asm); (case k6 => k_is); (case k7 => k_is); (case k8 => ktr_room); (case k9 => exact BindsTo.of_eq rfl); (case kB => exact rfl); (case kD => decide +kernel); (case c2 => exact rfl); (case c3 => exact rfl); (case c4 => exact rfl); k_whole)
    intro g1 L1 h1 tk1 cells1 FG1 F1 N1 Y1 B1 X1 T1 lc1
    (try k_lt lc1)
    k_cells Y1
    (try simp only [List.cons_append, List.nil_append] at N1)
    (try dsimp only)
    (try k_lift B1)
    (try k_unmd)
    (try k_fold)
    cases hs with
    | cons x0 t0 hs => simp at hn
    | nil =>
      k_steps
      rename (News h₀ L _ _) => kN
      rename (Fr h₀ L _ m) => kF
      rename (_ ∧ AllLt _ _) => ha1
      exact ret _ [] _ _ kF (fun p hp => kN p (by
        rcases List.mem_append.mp hp with hp | hp
        · exact .tail _ (.tail _ hp)
        · rw [List.mem_singleton.mp hp]; exact .head _)) ha1.2 .nil
  | succ n ih =>
    intro dp un gd cn cs a ccd cl outer A₀ base h₀ L m news s Q E p loose mean mg mb R vs k xs B F X T hk N hd hu C h37 hc0 hd0 hv0 hm hs hn hn2 ret
    revert X; k_fill; intro X
    refine wpAny_call ?_
    k_dflt (refine' code_defC ?k1 ?k2 ?k3 ?k4 ?k5 ?kA ?kF ?kK ?k6 ?k7 ?k8 ?k9 ?kB ?kD ?_ ?c2 ?c3 ?c4; (case kA => exact rfl); (case kF => exact rfl); (case kK => first | assumption | exact rfl); (case k1 => k_asm); (case k2 => k_asm); (case k3 => k_asm); (case k4 => k_asm); (case k5 => k_asm); (case k6 => k_is); (case k7 => k_is); (case k8 => ktr_room); (case k9 => exact BindsTo.of_eq rfl); (case kB => exact rfl); (case kD => decide +kernel); (case c2 => exact rfl); (case c3 => exact rfl); (case c4 => exact rfl); k_whole)
    intro g1 L1 h1 tk1 cells1 FG1 F1 N1 Y1 B1 X1 T1 lc1
    (try k_lt lc1)
    k_cells Y1
    (try simp only [List.cons_append, List.nil_append] at N1)
    (try dsimp only)
    (try k_lift B1)
    (try k_unmd)
    (try k_fold)
    rename Obj => oc1
    rename (oc1.data = _) => d1
    replace d1 : oc1.data = .cell (some (.ref R)) := d1
    replace F1 : Fr g1 L1 h1 (fun _ => none) := F1
    cases hs with
    | nil =>
      k_steps
      rename (News h₀ L _ _) => kN
      rename (Fr h₀ L _ m) => kF
      rename (_ ∧ AllLt _ _) => ha1
      exact ret _ [] _ _ kF (fun p hp => kN p (by
        rcases List.mem_append.mp hp with hp | hp
        · exact .tail _ (.tail _ hp)
        · rw [List.mem_singleton.mp hp]; exact .head _)) ha1.2 .nil
    | cons x0 t0 hs =>
      k_steps
      rename_i vs0 xs0 D1 hA FA NA lD f1 ct1 hB tkB FB NB lf
      refine Stop.on (splitlist_ok (g := fun y => ltS y x0) (B := B1) (F := FB) (X := X1) (N := NB) (T := T1) (hk := rfl) (hd := ?_) (hu := ?_) (hm := .tail _ (.head _)) (hs := hs) (hn := ?_) (hf := ⟨_, _, _, _, .head _⟩) (hp := ?_) (ret := ?_))
      · ktr_room
      · ktr_units
      · simp only [List.length_cons] at hn; show vs0.length ≤ 1000; omega
      · intro dp2 un2 gd2 cn2 cs2 a2 ccd2 cl2 outer2 A2 h2 L2 m2 news2 s2 Q2 E2 p2 loose2 mean2 mg2 mb2 y2 t2 B2 F2 X2 N2 T2 hk2 hd2 hu2 hsub2 ret2
        simp only [List.forall_mem_cons] at hsub2
        obtain ⟨mf, mD, mcell, hsub2⟩ := hsub2
        have mR := hsub2 _ hm
        have mc := hsub2 _ hc0
        k_steps
        rename (Fr h2 L2 _ m2) => kF
        rename (News h2 L2 _ _) => kN
        exact ret2 _ _ kF kN
      · intro D2 Y Z ys zs ky kz kt hC tkC FC NC lY lYZ lZD hys hzs
        have ly : ys.length ≤ n := by
          rw [strs_len hys]
          have := filter_le (fun y => ltS y x0) xs0
          rw [← strs_len hs] at this
          simp only [List.length_cons] at hn; omega
        have lz : zs.length ≤ n := by
          rw [strs_len hzs]
          have := filter_le (fun y => !ltS y x0) xs0
          rw [← strs_len hs] at this
          simp only [List.length_cons] at hn; omega
        have lYn : ∀ q ∈ news, q.1 < Y := fun q hq => lY q (.tail _ (.tail _ (.tail _ hq)))
        clear lY
        k_steps
        rename (News g1 L1 _ _) => NC
        replace NC : News g1 L1 _ ((Z, lstO zs kz) :: (Y, lstO ys ky) :: (L1 + 1, oc1) :: news) := fun p hp => NC p (by
          rcases List.mem_cons.mp hp with rfl | hp
          · exact .tail _ (.head _)
          · rcases List.mem_cons.mp hp with rfl | hp
            · exact .tail _ (.tail _ (.head _))
            · exact .tail _ (.tail _ (.tail _ (.tail _ (.tail _ hp)))))
        refine Stop.on (ih (B := B1) (F := by k_asm) (X := X1) (T := T1) (hk := rfl) (N := NC) (hd := by ktr_room) (hu := by ktr_units) (C := C) (h37 := by k_mem) (hc0 := by k_mem) hd0 hv0 (hm := by k_mem) (hs := hys) (hn := ly) (hn2 := by omega) (ret := ?_))
        intro Dl wl hD tkD FD ND lD sl
        replace ND := news_snoc ND
        try clear NC
        have lw : wl.length ≤ n := by
          rw [strs_len sl]
          exact Nat.le_trans (risenN_le _ _) (by rw [← strs_len hys]; exact ly)
        k_steps
        refine Stop.on (ih (B := B1) (F := by k_asm) (X := X1) (T := T1) (hk := rfl) (N := by k_asm) (hd := by ktr_room) (hu := by ktr_units) (C := C) (h37 := by k_mem) (hc0 := by k_mem) hd0 hv0 (hm := by k_mem) (hs := hzs) (hn := lz) (hn2 := by omega) (ret := ?_))
        intro Dh wh hDh tkDh FDh NDh lDh sh
        replace NDh := news_snoc NDh
        have lwh : wh.length ≤ n := by
          rw [strs_len sh]
          exact Nat.le_trans (risenN_le _ _) (by rw [← strs_len hzs]; exact lz)
        k_steps
        rename (News h₀ L _ _) => kN
        rename (Fr h₀ L _ m) => kF
        refine ret _ (wl ++ [.str x0 t0] ++ wh) _ _ kF (fun p hp => kN p ?_) (by tbn_find) ?_
        · rcases List.mem_append.mp hp with hp | hp
          · simp only [List.mem_cons, List.mem_append]
            simp only [hp, or_true, true_or]
          · rw [List.mem_singleton.mp hp]; exact .head _
        · exact strs_append (strs_append sl (.cons x0 t0 .nil)) sh
end
section
def LamOk (ps : Array Value) (news : Led) : Prop := ps = #[] ∨ ∃ c' oc vs t, ps = #[rawInt 27, rawInt 38, .ref c'] ∧ (c', oc) ∈ news ∧ oc.data = .fields vs ∧ vs[1]? = some (.str (Str.ofString "_law_risen" ++ Str.ofString ".<locals>." ++ Str.ofString "<lambda>") t)
theorem LamOk.mono {ps : Array Value} {news news' : Led} (h : LamOk ps news) (k : ∀ p ∈ news, p ∈ news') : LamOk ps news' := by
  rcases h with h | ⟨c, oc, vs, t, h1, h2, h3, h4⟩
  · exact .inl h
  · exact .inr ⟨c, oc, vs, t, h1, k _ h2, h3, h4⟩
theorem LamOk.step {ps ps' ps'' : Array Value} {tl tl' : Led} (h : ps' = ps ∨ LamOk ps' tl) (k : ps'' = ps' ∨ LamOk ps'' tl') : ps'' = ps ∨ LamOk ps'' (tl ++ tl') := by
  rcases k with rfl | k
  · exact h.imp id fun h => h.mono fun _ hp => List.mem_append_left _ hp
  · exact .inr (k.mono fun _ hp => List.mem_append_right _ hp)
theorem LamOk.here {ps ps' : Array Value} {tl news news' : Led} (h : LamOk ps news) (k : ps' = ps ∨ LamOk ps' tl) (h1 : ∀ p ∈ news, p ∈ news') (h2 : ∀ p ∈ tl, p ∈ news') : LamOk ps' news' := by
  rcases k with rfl | k
  · exact h.mono h1
  · exact k.mono h2
set_option maxRecDepth 100000 in
set_option maxHeartbeats 4000000 in
theorem risen_fresh {w : World} {dp un : Nat} {gd : Option (List Code)} {cn : Str} {cs : Scope} {a : Addr} {ccd : Value} {cl : List (Str × Addr)} {outer : List Env} {A₀ : Around} {base h₀ : Heap} {L : Addr} {m : Str → Option Value} {news : List (Addr × Obj)} {s : Shared} {Q E : Value → Shared → Prop} {p : Program} {loose : List Str} {mean : ExcName → Option Value} {mg mb : Str → Option Value} {R : Addr} {vs : List Value} {k : Nat} {xs : List Str}
  (B : Below A₀ base outer h₀) (F : Fr h₀ L s.heap m) (X : (Mine.hd.heap_39 w.params).In h₀) (T : Top p loose mean mg mb h₀) (hk : cs.kind = .function) (N : News h₀ L s.heap ((37, tabObj #[]) :: news)) (hd : dp + vs.length + 6 < 900) (hu : un + 8 * (vs.length + 6) < 9000)
  (C : CodeHd base 41 37) (hoff : ∀ q ∈ news, q.1 ≠ 37)
  (hm : (R, lstO vs k) ∈ news) (hs : StrsAre vs xs) (hn2 : vs.length ≤ 100)
  (ret : ∀ D ws ps tl h' tk', Fr h₀ L h' m → News h₀ L h' ((37, tabObj ps) :: (news ++ tl)) → Grew news tl → (∀ q ∈ tl, 37 < q.1) → (ps = #[] ∨ LamOk ps tl) → (D, lstO ws 0) ∈ tl → StrsAre ws (risenN (xs.length + 1) xs) → Q (.ref D) { s with heap := h', toks := tk' }) :
  wpAny (model PySem.Challenge.rw_rl0158_01.row.prog w) (ktrTop dp un gd cn cs L a ccd cl outer) (call (.ref 42) [.ref R]) Q E s := by
  revert X; k_fill; intro X
  refine wpAny_call ?_
  k_dflt (refine' code_defC ?k1 ?k2 ?k3 ?k4 ?k5 ?kA ?kF ?kK ?k6 ?k7 ?k8 ?k9 ?kB ?kD ?_ ?c2 ?c3 ?c4; (case kA => exact rfl); (case kF => exact rfl); (case kK => first | assumption | exact rfl); (case k1 => k_asm); (case k2 => k_asm); (case k3 => k_asm); (case k4 => k_asm); (case k5 => k_asm); (case k6 => k_is); (case k7 => k_is); (case k8 => ktr_room); (case k9 => exact BindsTo.of_eq rfl); (case kB => exact rfl); (case kD => decide +kernel); (case c2 => exact rfl); (case c3 => exact rfl); (case c4 => exact rfl); k_whole)
  intro g1 L1 h1 tk1 cells1 FG1 F1 N1 Y1 B1 X1 T1 lc1
  (try k_lt lc1)
  k_cells Y1
  (try simp only [List.cons_append, List.nil_append] at N1)
  (try dsimp only)
  (try k_lift B1)
  (try k_unmd)
  (try k_fold)
  rename Obj => oc1
  rename (oc1.data = _) => d1
  replace d1 : oc1.data = .cell (some (.ref R)) := d1
  replace F1 : Fr g1 L1 h1 (fun _ => none) := F1
  cases hs with
  | nil =>
    k_steps
    rename (News h₀ L _ _) => kN
    rename (Fr h₀ L _ m) => kF
    rename (_ ∧ _ ∧ AllLt _ _) => ha1
    refine ret _ [] #[] [(_, lstO [] 0)] _ _ kF (fun p hp => kN p ?_) (Grew.one ha1.2.2) (fun q hq => by rw [List.mem_singleton.mp hq]; exact ha1.2.1) (.inl rfl) (.head _) .nil
    rcases List.mem_cons.mp hp with rfl | hp
    · exact .tail _ (.tail _ (.head _))
    · rcases List.mem_append.mp hp with hp | hp
      · exact .tail _ (.tail _ (.tail _ hp))
      · rw [List.mem_singleton.mp hp]; exact .head _
  | cons x0 t0 hs =>
    k_steps
    rename_i vs0 xs0 D1 hA FA NA lD f1 c1 oc2 vsC tq ct1 hB tkB FB NB dc1 dc2 lcc lf
    refine Stop.on (splitlist_ok (g := fun y => ltS y x0) (B := B1) (F := FB) (X := X1) (N := NB) (T := T1) (hk := rfl) (hd := ?_) (hu := ?_) (hm := .tail _ (.tail _ (.head _))) (hs := hs) (hn := ?_) (hf := ⟨_, _, _, _, .head _⟩) (hp := ?_) (ret := ?_))
    · simp only [List.length_cons] at hd; ktr_room
    · simp only [List.length_cons] at hu; ktr_units
    · simp only [List.length_cons] at hn2; show vs0.length ≤ 1000; omega
    · intro dp2 un2 gd2 cn2 cs2 a2 ccd2 cl2 outer2 A2 h2 L2 m2 news2 s2 Q2 E2 p2 loose2 mean2 mg2 mb2 y2 t2 B2 F2 X2 N2 T2 hk2 hd2 hu2 hsub2 ret2
      simp only [List.forall_mem_cons] at hsub2
      obtain ⟨mf, mc, mD, mcell, m37, hsub2⟩ := hsub2
      have mR := hsub2 _ hm
      k_steps
      rename (Fr h2 L2 _ m2) => kF
      rename (News h2 L2 _ _) => kN
      exact ret2 _ _ kF kN
    · intro D2 Y Z ys zs ky kz kt hC tkC FC NC lY lYZ lZD hys hzs
      have ln : vs0.length + 1 ≤ 100 := by simpa only [List.length_cons] using hn2
      have ly : ys.length ≤ vs0.length := by
        rw [strs_len hys]
        have := filter_le (fun y => ltS y x0) xs0
        rw [← strs_len hs] at this
        exact this
      have lz : zs.length ≤ vs0.length := by
        rw [strs_len hzs]
        have := filter_le (fun y => !ltS y x0) xs0
        rw [← strs_len hs] at this
        exact this
      have lYn : ∀ q ∈ news, q.1 < Y := fun q hq => lY q (.tail _ (.tail _ (.tail _ (.tail _ (.tail _ hq)))))
      have lc1' : AllLt c1 news := by tbn_find
      have lc37 : 37 < c1 := lcc.2.2.1
      clear lY
      have hdx : dp + vs0.length + 7 < 900 := by simp only [List.length_cons] at hd; omega
      have hux : un + 8 * (vs0.length + 7) < 9000 := by simp only [List.length_cons] at hu; omega
      k_steps
      rename (News g1 L1 _ _) => NC
      replace NC : News g1 L1 _ ((Z, lstO zs kz) :: (Y, lstO ys ky) :: (L1 + 1, oc1) :: (c1, oc2) :: (37, tabObj #[rawInt 27, rawInt 38, .ref c1]) :: news) := fun p hp => NC p (by
        rcases List.mem_cons.mp hp with rfl | hp
        · exact .tail _ (.head _)
        · rcases List.mem_cons.mp hp with rfl | hp
          · exact .tail _ (.tail _ (.head _))
          · rcases List.mem_cons.mp hp with rfl | hp
            · exact .tail _ (.tail _ (.tail _ (.tail _ (.tail _ (.tail _ (.head _))))))
            · rcases List.mem_cons.mp hp with rfl | hp
              · exact .tail _ (.tail _ (.tail _ (.tail _ (.head _))))
              · rcases List.mem_cons.mp hp with rfl | hp
                · exact .tail _ (.tail _ (.tail _ (.tail _ (.tail _ (.tail _ (.tail _ (.head _)))))))
                · exact .tail _ (.tail _ (.tail _ (.tail _ (.tail _ (.tail _ (.tail _ (.tail _ hp))))))))
      refine Stop.on (risen_hit vs0.length (B := B1) (F := by k_asm) (X := X1) (T := T1) (hk := rfl) (N := NC) (hd := by ktr_room) (hu := by ktr_units) (C := C) (h37 := by k_mem) (hc0 := by k_mem) dc1 dc2 (hm := by k_mem) (hs := hys) (hn := ly) (hn2 := by omega) (ret := ?_))
      intro Dl wl hD tkD FD ND lD sl
      replace ND := news_snoc ND
      try clear NC
      have lw : wl.length ≤ vs0.length := by
        rw [strs_len sl]
        exact Nat.le_trans (risenN_le _ _) (by rw [← strs_len hys]; exact ly)
      k_steps
      refine Stop.on (risen_hit vs0.length (B := B1) (F := by k_asm) (X := X1) (T := T1) (hk := rfl) (N := by k_asm) (hd := by ktr_room) (hu := by ktr_units) (C := C) (h37 := by k_mem) (hc0 := by k_mem) dc1 dc2 (hm := by k_mem) (hs := hzs) (hn := lz) (hn2 := by omega) (ret := ?_))
      intro Dh wh hDh tkDh FDh NDh lDh sh
      replace NDh := news_snoc NDh
      have lwh : wh.length ≤ vs0.length := by
        rw [strs_len sh]
        exact Nat.le_trans (risenN_le _ _) (by rw [← strs_len hzs]; exact lz)
      k_steps
      rename (News h₀ L _ _) => kN
      rename (Fr h₀ L _ m) => kF
      refine ret _ (wl ++ [.str x0 t0] ++ wh) _ [(c1, oc2), (_, lstO (wl ++ [.str x0 t0] ++ wh) 0)] _ _ kF (fun p hp => kN p ?_) ?_ ?_ (.inr (.inr ⟨c1, oc2, vsC, tq, rfl, .head _, dc1, dc2⟩)) (.tail _ (.head _)) ?_
      · rcases List.mem_cons.mp hp with rfl | hp
        · k_mem
        · rcases List.mem_append.mp hp with hp | hp
          · simp only [List.mem_cons, List.mem_append]
            simp only [hp, or_true, true_or]
          · rcases List.mem_cons.mp hp with rfl | hp
            · k_mem
            · rw [List.mem_singleton.mp hp]; exact .head _
      · intro q hq p hp
        rcases List.mem_cons.mp hp with rfl | hp
        · exact ktn_ltOf lc1' q hq
        · rw [List.mem_singleton.mp hp]; exact ktn_ltOf (by tbn_find) q hq
      · intro q hq
        rcases List.mem_cons.mp hq with rfl | hq
        · exact lc37
        · rw [List.mem_singleton.mp hq]; show (37 : Nat) < _; omega
      · rw [← strs_len (StrsAre.cons x0 t0 hs)]
        exact strs_append (strs_append sl (.cons x0 t0 .nil)) sh
end
section
/-- risen, in one -/
theorem risen_ok {w : World} {dp un : Nat} {gd : Option (List Code)} {cn : Str} {cs : Scope} {a : Addr} {ccd : Value} {cl : List (Str × Addr)} {outer : List Env} {A₀ : Around} {base h₀ : Heap} {L : Addr} {m : Str → Option Value} {news : List (Addr × Obj)} {s : Shared} {Q E : Value → Shared → Prop} {p : Program} {loose : List Str} {mean : ExcName → Option Value} {mg mb : Str → Option Value} {R : Addr} {vs : List Value} {k : Nat} {xs : List Str} {ps : Array Value}
  (B : Below A₀ base outer h₀) (F : Fr h₀ L s.heap m) (X : (Mine.hd.heap_39 w.params).In h₀) (T : Top p loose mean mg mb h₀) (hk : cs.kind = .function) (N : News h₀ L s.heap ((37, tabObj ps) :: news)) (hlam : LamOk ps news) (hd : dp + vs.length + 6 < 900) (hu : un + 8 * (vs.length + 6) < 9000)
  (C : CodeHd base 41 37) (hoff : ∀ q ∈ news, q.1 ≠ 37)
  (hm : (R, lstO vs k) ∈ news) (hs : StrsAre vs xs) (hn2 : vs.length ≤ 100)
  (ret : ∀ D ws ps' tl h' tk', Fr h₀ L h' m → News h₀ L h' ((37, tabObj ps') :: (news ++ tl)) → Grew news tl → (∀ q ∈ tl, 37 < q.1) → (ps' = ps ∨ LamOk ps' tl) → (D, lstO ws 0) ∈ tl → StrsAre ws (risenN (xs.length + 1) xs) → Q (.ref D) { s with heap := h', toks := tk' }) :
  wpAny (model PySem.Challenge.rw_rl0158_01.row.prog w) (ktrTop dp un gd cn cs L a ccd cl outer) (call (.ref 42) [.ref R]) Q E s := by
  rcases hlam with rfl | ⟨c0, oc0, vsC, tq, rfl, hc, hd0, hv0⟩
  · exact risen_fresh B F X T hk N hd hu C hoff hm hs hn2 ret
  · refine risen_hit vs.length B F X T hk N (by omega) (by omega) C (.head _) (.tail _ hc) hd0 hv0 (.tail _ hm) hs (Nat.le_refl _) hn2 ?_
    intro D ws h' tk' F' N' lD hw
    rw [strs_len hs] at hw
    refine ret D ws _ [(D, lstO ws 0)] h' tk' F' N' (Grew.one lD.2) (fun q hq => ?_) (.inl rfl) (.head _) hw
    rw [List.mem_singleton.mp hq]; exact lD.1

/-- the trees -/
inductive T where
  | node (n : Str) (ks : List T)
mutual
def T.size : T → Nat
  | .node _ ks => 1 + sizes ks
def sizes : List T → Nat
  | [] => 0
  | k :: r => k.size + sizes r
end
mutual
/-- every name has three signs at most -/
def Short : T → Prop
  | .node n ks => n.length ≤ 3 ∧ Shorts ks
def Shorts : List T → Prop
  | [] => True
  | k :: r => Short k ∧ Shorts r
end
mutual
/-- the ledger bears the tree at v -/
inductive TreeIn (news : Led) : Value → T → Prop
  | node {a l : Addr} {nm : Str} {tk : Tok} {ks : List T} {vs : List Value} {n1 n2 : Nat} : (a, tupO [.str nm tk, .ref l] n1) ∈ news → (l, lstO vs n2) ∈ news → ForestIn news vs ks → TreeIn news (.ref a) (.node nm ks)
inductive ForestIn (news : Led) : List Value → List T → Prop
  | nil : ForestIn news [] []
  | cons {v : Value} {vs : List Value} {t : T} {ts : List T} : TreeIn news v t → ForestIn news vs ts → ForestIn news (v :: vs) (t :: ts)
end
mutual
theorem TreeIn.mono {news news' : Led} (k : ∀ p ∈ news, p ∈ news') : ∀ {v : Value} {t : T}, TreeIn news v t → TreeIn news' v t
  | _, _, .node h1 h2 h3 => .node (k _ h1) (k _ h2) (ForestIn.mono k h3)
theorem ForestIn.mono {news news' : Led} (k : ∀ p ∈ news, p ∈ news') : ∀ {v : List Value} {t : List T}, ForestIn news v t → ForestIn news' v t
  | _, _, .nil => .nil
  | _, _, .cons h1 h3 => .cons (TreeIn.mono k h1) (ForestIn.mono k h3)
end
theorem ForestIn.len {news : Led} : ∀ {vs : List Value} {ts : List T}, ForestIn news vs ts → vs.length = ts.length
  | _, _, .nil => rfl
  | _, _, .cons _ h => by simp only [List.length_cons, ForestIn.len h]
theorem ForestIn.at {news : Led} : ∀ {vs : List Value} {ts : List T}, ForestIn news vs ts → ∀ {i : Nat} {v : Value}, vs[i]? = some v → ∃ t, ts[i]? = some t ∧ TreeIn news v t
  | _, _, .nil, i, v, h => by simp at h
  | _, _, .cons (t := t) h1 h2, i, v, h => by
    cases i with
    | zero => simp at h; subst h; exact ⟨t, rfl, h1⟩
    | succ i => exact h2.at (i := i) (by simpa using h)
theorem size_of_mem : ∀ {ks : List T} {i : Nat} {t : T}, ks[i]? = some t → t.size ≤ sizes ks
  | [], i, t, h => by simp at h
  | k :: r, i, t, h => by
    rw [sizes]
    cases i with
    | zero => simp at h; subst h; omega
    | succ i => have := size_of_mem (ks := r) (i := i) (by simpa using h); omega
theorem short_of_mem : ∀ {ks : List T} {i : Nat} {t : T}, Shorts ks → ks[i]? = some t → Short t
  | [], i, t, _, h => by simp at h
  | k :: r, i, t, hs, h => by
    rw [Shorts] at hs
    cases i with
    | zero => simp at h; subst h; exact hs.1
    | succ i => exact short_of_mem (ks := r) (i := i) hs.2 (by simpa using h)
theorem len_le_sizes : ∀ ks : List T, ks.length ≤ sizes ks
  | [] => Nat.zero_le _
  | .node n ks :: r => by
    have := len_le_sizes r
    rw [sizes, T.size, List.length_cons]; omega
mutual
/-- _law_page, as the code has it -/
def pageF (pad : Str) (up : List Str) : T → Str
  | .node n [] => n
  | .node n (k :: r) => n ++ nl ++ pad ++ nl ++ Txt.join nl (risenN ((rowsF pad up (k :: r)).length + 1) (rowsF pad up (k :: r)))
def rowsF (pad : Str) (up : List Str) : List T → List Str
  | [] => []
  | k :: r => replF (pageF pad up k) up :: rowsF pad up r
end
theorem rowsF_len (pad : Str) (up : List Str) : ∀ ks : List T, (rowsF pad up ks).length = ks.length
  | [] => by rw [rowsF]; rfl
  | k :: r => by rw [rowsF, List.length_cons, List.length_cons, rowsF_len pad up r]
theorem rowsF_at (pad : Str) (up : List Str) : ∀ {ks : List T} {i : Nat} {t : T}, ks[i]? = some t → (rowsF pad up ks)[i]? = some (replF (pageF pad up t) up)
  | [], i, t, h => by simp at h
  | k :: r, i, t, h => by
    rw [rowsF]
    cases i with
    | zero => simp at h; subst h; rfl
    | succ i => exact rowsF_at pad up (ks := r) (i := i) (by simpa using h)
theorem join_len (sep : Str) (hs : sep.length ≤ 1) (xs : List Str) : (Txt.join sep xs).length ≤ (xs.map (·.length)).sum + xs.length := by
  have h := StrLaws.join_length_le sep xs
  show (Builtin.Str.glued sep xs).length ≤ _
  rw [StrLaws.glued_eq_join]
  have : xs.length * sep.length ≤ xs.length * 1 := Nat.mul_le_mul_left _ hs
  omega
theorem sum_two (g : Str → Bool) : ∀ l : List Str, ((l.filter g).map (·.length)).sum + ((l.filter fun x => !g x).map (·.length)).sum = (l.map (·.length)).sum
  | [] => rfl
  | a :: r => by
    have ih := sum_two g r
    cases h : g a with
    | true => rw [List.filter_cons_of_pos h, List.filter_cons_of_neg (by simp [h])]; simp only [List.map_cons, List.sum_cons]; omega
    | false => rw [List.filter_cons_of_neg (by simp [h]), List.filter_cons_of_pos (by simp [h])]; simp only [List.map_cons, List.sum_cons]; omega
theorem risenN_sum : ∀ (n : Nat) (xs : List Str), ((risenN n xs).map (·.length)).sum ≤ (xs.map (·.length)).sum
  | 0, _ => Nat.zero_le _
  | _ + 1, [] => Nat.le_refl _
  | n + 1, x :: r => by
    have h1 := risenN_sum n (r.filter fun y => ltS y x)
    have h2 := risenN_sum n (r.filter fun y => !ltS y x)
    have h3 := sum_two (fun y => ltS y x) r
    show ((risenN n _ ++ [x] ++ risenN n _).map (·.length)).sum ≤ _
    simp only [List.map_append, List.sum_append, List.map_cons, List.map_nil, List.sum_cons, List.sum_nil]
    omega
mutual
theorem pageF_len {pad : Str} {up : List Str} (hp : pad.length ≤ 3) (he : EvenL up) : ∀ t : T, Short t → (pageF pad up t).length + 1 ≤ 10 * t.size
  | .node n [] => fun h => by
    rw [Short] at h
    rw [pageF, T.size]; omega
  | .node n (k :: r) => fun h => by
    rw [Short] at h
    have h1 := rowsF_sum hp he (k :: r) h.2
    have h2 := join_len nl (by decide) (risenN ((rowsF pad up (k :: r)).length + 1) (rowsF pad up (k :: r)))
    have h3 := risenN_le ((rowsF pad up (k :: r)).length + 1) (rowsF pad up (k :: r))
    have h4 := risenN_sum ((rowsF pad up (k :: r)).length + 1) (rowsF pad up (k :: r))
    rw [pageF, T.size]
    simp only [Str.length_append]
    have e : nl.length = 1 := by decide
    omega
theorem rowsF_sum {pad : Str} {up : List Str} (hp : pad.length ≤ 3) (he : EvenL up) : ∀ ks : List T, Shorts ks → ((rowsF pad up ks).map (·.length)).sum + (rowsF pad up ks).length ≤ 10 * sizes ks
  | [] => fun _ => by rw [rowsF]; exact Nat.zero_le _
  | k :: r => fun h => by
    rw [Shorts] at h
    have h1 := pageF_len hp he k h.1
    have h2 := rowsF_sum hp he r h.2
    have h3 := replF_len up (pageF pad up k) he
    rw [rowsF, sizes]
    simp only [List.map_cons, List.sum_cons, List.length_cons]
    omega
end
section
open LCg
variable {prog : Program} {w : World} {A : Around} {E : Value → Shared → Prop} {s : Shared} {h₀ : Heap} {L : Addr} {m : Str → Option Value} {env : Env}
/-- a comprehension by what holds between its turns -/
theorem compRest_of {elt : Expr} {x : Str} {scope : Scope} {cl : List (Str × Addr)} {S : Led → Prop} {P : Nat → Value → Prop} {Fin : List Value → Led → Prop} (J : Nat → List Value → Led → Prop) {n : Nat}
    (turn : ∀ i v ys news I oI C oC D m₂ h tk (E' : Value → Shared → Prop), i < n → J i ys news → P i v → NsObj oC m₂ → m₂ x = some v → Fr h₀ L h m → News h₀ L h ((I, oI) :: (C, oC) :: (D, lst ys) :: news) → Off3 I C D news → (@Ne Nat I C) → (@Ne Nat I D) → (@Ne Nat C D) →
      wpAny (model prog w) A (eval elt (compEnvC scope cl C env)) (CompEnd h₀ L m { s with heap := h, toks := tk } I oI C oC D (lst ys) S (fun y news' => J (i + 1) (ys ++ [y]) news')) E' { s with heap := h, toks := tk })
    (fin : ∀ ys news, J n ys news → Fin ys news) : ∀ (k i : Nat) (ys : List Value) (news : Led), i + k = n → J i ys news → CompRest prog w A h₀ L m env elt x scope cl s S P Fin k i ys news := by
  intro k
  induction k with
  | zero =>
    intro i ys news e hj
    have e' : i = n := by omega
    subst e'
    exact CompRest.zero (fin ys news hj)
  | succ k ih =>
    intro i ys news e hj
    refine CompRest.succ ?_
    intro v I oI C oC D m₂ h tk E' hP hC hx F N off ne
    refine wpAny_mono (turn i v ys news I oI C oC D m₂ h tk E' (by omega) hj hP hC hx F N off ne.1 ne.2.1 ne.2.2) (fun y s₂ hy => ?_) fun _ _ e => e
    obtain ⟨h', tk', news', e1, F', N', off', hS, hj'⟩ := hy
    exact ⟨h', tk', news', e1, F', N', off', hS, ih (i + 1) _ _ (by omega) hj'⟩
end
end
section
open LCg
set_option maxRecDepth 100000 in
set_option maxHeartbeats 4000000 in
theorem page_ok {w : World} (n : Nat) : ∀ {dp un : Nat} {gd : Option (List Code)} {cn : Str} {cs : Scope} {a : Addr} {ccd : Value} {cl : List (Str × Addr)} {outer : List Env} {A₀ : Around} {base h₀ : Heap} {L : Addr} {m : Str → Option Value} {news : List (Addr × Obj)} {s : Shared} {Q E : Value → Shared → Prop} {p : Program} {loose : List Str} {mean : ExcName → Option Value} {mg mb : Str → Option Value} {v : Value} {t : T} {pad : Str} {tp : Tok} {U : Addr} {us : List Value} {ku : Nat} {up : List Str} {ps : Array Value}
  (B : Below A₀ base outer h₀) (F : Fr h₀ L s.heap m) (X : (Mine.hd.heap_39 w.params).In h₀) (T : Top p loose mean mg mb h₀) (hk : cs.kind = .function) (N : News h₀ L s.heap ((37, tabObj ps) :: news)) (hlam : LamOk ps news) (hd : dp + 2 * n + 20 < 900) (hu : un + 8 * (2 * n + 20) < 9000)
  (C : CodeHd base 41 37) (hoff : ∀ q ∈ news, q.1 ≠ 37)
  (hm : TreeIn news v t) (hU : (U, lstO us ku) ∈ news) (hus : StrsAre us up) (hul : us.length ≤ 100) (hev : EvenL up) (hpad : pad.length ≤ 3) (ht : Short t) (hn : t.size ≤ n) (hn2 : n ≤ 20)
  (ret : ∀ ta ps' tl h' tk', Fr h₀ L h' m → News h₀ L h' ((37, tabObj ps') :: (news ++ tl)) → Grew news tl → (∀ q ∈ tl, 37 < q.1) → (ps' = ps ∨ LamOk ps' tl) → Q (.str (pageF pad up t) ta) { s with heap := h', toks := tk' }),
  wpAny (model PySem.Challenge.rw_rl0158_01.row.prog w) (ktrTop dp un gd cn cs L a ccd cl outer) (call (.ref 47) [v, .str pad tp, .ref U]) Q E s := by
  induction n with
  | zero =>
    intro dp un gd cn cs a ccd cl outer A₀ base h₀ L m news s Q E p loose mean mg mb v t pad tp U us ku up ps B F X T hk N hlam hd hu C hoff hm hU hus hul hev hpad ht hn hn2 ret
    cases t with
    | node nm ks => rw [T.size] at hn; omega
  | succ n ih =>
    intro dp un gd cn cs a ccd cl outer A₀ base h₀ L m news s Q E p loose mean mg mb v t pad tp U us ku up ps B F X T hk N hlam hd hu C hoff hm hU hus hul hev hpad ht hn hn2 ret
    revert X; k_fill; intro X
    refine wpAny_call ?_
    k_dflt (refine' code_defC ?k1 ?k2 ?k3 ?k4 ?k5 ?kA ?kF ?kK ?k6 ?k7 ?k8 ?k9 ?kB ?kD ?_ ?c2 ?c3 ?c4; (case kA => exact rfl); (case kF => exact rfl); (case kK => first | assumption | exact rfl); (case k1 => k_asm); (case k2 => k_asm); (case k3 => k_asm); (case k4 => k_asm); (case k5 => k_asm); (case k6 => k_is); (case k7 => k_is); (case k8 => ktr_room); (case k9 => exact BindsTo.of_eq rfl); (case kB => exact rfl); (case kD => decide +kernel); (case c2 => exact rfl); (case c3 => exact rfl); (case c4 => exact rfl); k_whole)
    intro g1 L1 h1 tk1 cells1 FG1 F1 N1 Y1 B1 X1 T1 lc1
    (try k_lt lc1)
    k_cells Y1
    (try simp only [List.cons_append, List.nil_append] at N1)
    (try dsimp only)
    (try k_lift B1)
    (try k_unmd)
    (try k_fold)
    replace F1 : Fr g1 L1 h1 (fun y => if y = Str.ofString "tree" then some v else none) := F1
    rename_i o1 o2 e1 e2
    replace e1 : o1.data = .cell (some (.ref U)) := e1
    replace e2 : o2.data = .cell (some (.str pad tp)) := e2
    cases hm with
    | @node a9 l nm tk ks vs n1 n2 ha hl hf =>
    have hvl := hf.len
    have hkl := len_le_sizes ks
    rw [T.size] at hn
    rw [Short] at ht
    cases hf with
    | nil =>
      k_steps
      rename (News h₀ L _ _) => kN
      rename (Fr h₀ L _ m) => kF
      refine ret _ _ [] _ _ kF (fun p hp => kN p ?_) Grew.nil (fun _ h => nomatch h) (.inl rfl)
      rw [List.append_nil] at hp
      exact .tail _ (.tail _ hp)
    | @cons v1 vs1 k1 ks1 hv1 hvs1 =>
      have hvl' : (v1 :: vs1).length ≤ 20 := by omega
      k_steps
      have lL : AllLt L1 news := lc1.2
      have l37 : 37 < L1 := lc1.1
      have N1' : News g1 L1 h1 ((37, tabObj ps) :: (((L1 + 1 + 1, o1) :: (L1 + 1, o2) :: news) ++ [])) := fun p hp => N1 p (by
        rw [List.append_nil] at hp
        rcases List.mem_cons.mp hp with rfl | hp
        · exact .tail _ (.tail _ (.head _))
        · rcases List.mem_cons.mp hp with rfl | hp
          · exact .head _
          · rcases List.mem_cons.mp hp with rfl | hp
            · exact .tail _ (.head _)
            · exact .tail _ (.tail _ (.tail _ hp)))
      have hoffB : ∀ q ∈ ((L1 + 1 + 1, o1) :: (L1 + 1, o2) :: news : Led), q.1 ≠ 37 := offC (P := fun q => q.1 ≠ 37) (show L1 + 1 + 1 ≠ 37 from Nat.ne_of_gt (Nat.lt_succ_of_lt (Nat.lt_succ_of_lt l37))) (offC (P := fun q => q.1 ≠ 37) (show L1 + 1 ≠ 37 from Nat.ne_of_gt (Nat.lt_succ_of_lt l37)) hoff)
      refine Stop.on (CompSrc.ledger (its := (v1 :: vs1).toArray) (k := n2) rfl F1 N1' (.tail _ (List.mem_append_left _ (.tail _ (.tail _ hl)))) (by rw [List.size_toArray, sizeLine_eq]; omega) fun g => compRest_of (fun i ys nx => ∃ ps' tl, nx = (37, tabObj ps') :: (((L1 + 1 + 1, o1) :: (L1 + 1, o2) :: news) ++ tl) ∧ (ps' = ps ∨ LamOk ps' tl) ∧ Grew news tl ∧ (∀ q ∈ tl, 37 < q.1) ∧ StrsAre ys ((rowsF pad up (k1 :: ks1)).take i)) (n := (v1 :: vs1).toArray.size) ?_ ?_ _ 0 [] _ (Nat.zero_add _) ⟨ps, [], rfl, .inl rfl, Grew.nil, (fun _ h => (nomatch h)), .nil⟩)
      · rintro i v ys nx I oI Cc oC D m₂ hh tk2 E' hi ⟨ps', tl, rfl, hst, hgr, htl, hys⟩ hv hC hx F2 N2 off hIC hID hCD
        have hv' : (v1 :: vs1)[i]? = some v := by simpa using hv
        obtain ⟨ti, hti, hTi⟩ := (ForestIn.cons hv1 hvs1).at hv'
        k_steps
        have e1I : (37 : Nat) ≠ I := off.1.1
        have e1C : (37 : Nat) ≠ Cc := off.1.2.1
        have e1D : (37 : Nat) ≠ D := off.1.2.2
        have offT := Off3.mem off
        have hti2 : ti.size ≤ n := by have := size_of_mem hti; omega
        have hsh2 : Short ti := short_of_mem ht.2 hti
        refine Stop.on (ih (B := B1) (F := F2) (X := X1) (T := T1) (hk := rfl) (news := (I, oI) :: (Cc, oC) :: (D, lst ys) :: (((L1 + 1 + 1, o1) :: (L1 + 1, o2) :: news) ++ tl)) (N := news_sub N2 ?_) (hlam := hlam.here hst ?_ ?_) (hd := by ktr_room) (hu := by ktr_units) (C := C) (hoff := ?_) (hm := hTi.mono ?_) (ku := ku) (hU := ?_) (hus := hus) (hul := hul) (hev := hev) (hpad := hpad) (ht := hsh2) (hn := hti2) (hn2 := by omega) (ret := ?_))
        · intro p hp
          simp only [List.mem_cons] at hp ⊢
          rcases hp with hp | hp | hp | hp | hp <;> simp only [hp, true_or, or_true]
        · intro p hp
          exact .tail _ (.tail _ (.tail _ (List.mem_append_left _ (.tail _ (.tail _ hp)))))
        · intro p hp
          exact .tail _ (.tail _ (.tail _ (List.mem_append_right _ hp)))
        · refine offC (P := fun q => q.1 ≠ 37) e1I.symm (offC (P := fun q => q.1 ≠ 37) e1C.symm (offC (P := fun q => q.1 ≠ 37) e1D.symm fun q hq => ?_))
          rcases List.mem_append.mp hq with hq | hq
          · exact hoffB q hq
          · exact (Nat.ne_of_lt (htl q hq)).symm
        · intro p hp
          exact .tail _ (.tail _ (.tail _ (List.mem_append_left _ (.tail _ (.tail _ hp)))))
        · exact .tail _ (.tail _ (.tail _ (List.mem_append_left _ (.tail _ (.tail _ hU)))))
        intro ta ps2 tl2 hh2 tk3 F3 N3 gr2 ht2 st2
        have N4 : News g1 L1 hh2 ((I, oI) :: (Cc, oC) :: (D, lst ys) :: (37, tabObj ps2) :: (((L1 + 1 + 1, o1) :: (L1 + 1, o2) :: news) ++ (tl ++ tl2))) := news_sub N3 fun p hp => by
          simp only [List.mem_cons, List.mem_append, List.cons_append] at hp ⊢
          rcases hp with hp | hp | hp | hp | hp | hp | hp | hp | hp <;> simp only [hp, true_or, or_true]
        clear N3 N2
        obtain ⟨Xl, hXl⟩ : ∃ Xl : Led, Xl = ((L1 + 1 + 1, o1) :: (L1 + 1, o2) :: news) ++ (tl ++ tl2) := ⟨_, rfl⟩
        rw [← hXl] at N4
        have cm1 : (L1 + 1 + 1, o1) ∈ Xl := hXl ▸ .head _
        have cm2 : (L1 + 1, o2) ∈ Xl := hXl ▸ .tail _ (.head _)
        have cm3 : (U, lstO us ku) ∈ Xl := hXl ▸ List.mem_append_left _ (.tail _ (.tail _ hU))
        k_steps
        rename (Fr g1 L1 _ _) => F5
        rename (News g1 L1 _ _) => N5
        rw [List.append_nil]
        have lpg := pageF_len (up := up) hpad hev ti hsh2
        refine Stop.on (replace_ok (B := B1) (F := F5) (X := X1) (N := N5) (T := T1) (hk := rfl) (hd := by ktr_room) (hu := by ktr_units) (hlen := by omega) (hps := hus) (hvs := by omega) (hev := hev) (ret := ?_))
        intro tb hh6 tk6 F6 N6
        k_steps
        refine Stop.on (CompEnd.intro F6 N6 ((37, tabObj ps2) :: Xl) (fun p hp => hp) ?_ (.inr ⟨lstO (v1 :: vs1) n2, ?_, rfl, n2, rfl⟩) ⟨ps2, tl ++ tl2, by rw [hXl], LamOk.step hst st2, hgr.add (gr2.of_sub ?_), ?_, ?_⟩)
        · refine Off3.of ?_
          intro q hq
          rcases List.mem_cons.mp hq with rfl | hq
          · exact ⟨e1I, e1C, e1D⟩
          · rw [hXl, ← List.append_assoc] at hq
            rcases List.mem_append.mp hq with hq | hq
            · exact offT q (.tail _ hq)
            · exact ⟨(Nat.ne_of_lt (gr2 _ (.head _) q hq)).symm, (Nat.ne_of_lt (gr2 _ (.tail _ (.head _)) q hq)).symm, (Nat.ne_of_lt (gr2 _ (.tail _ (.tail _ (.head _))) q hq)).symm⟩
        · rw [hXl]; exact .tail _ (List.mem_append_left _ (.tail _ (.tail _ hl)))
        · intro q hq
          exact .tail _ (.tail _ (.tail _ (List.mem_append_left _ (.tail _ (.tail _ hq)))))
        · intro q hq
          exact (List.mem_append.mp hq).elim (htl q) (ht2 q)
        · rw [take_snoc (rowsF_at pad up hti)]
          exact strs_snoc hys _ tb
      · rintro ys nx ⟨ps', tl, rfl, hst, hgr, htl, hys⟩
        intro D hh tk5 F2 N2 off1
        have hrl : (rowsF pad up (k1 :: ks1)).length = (v1 :: vs1).length := by rw [rowsF_len, hvl]
        rw [List.size_toArray, List.take_of_length_le (Nat.le_of_eq hrl)] at hys
        have lys : ys.length ≤ 20 := by rw [strs_len hys, hrl]; exact hvl'
        have lysn : ys.length ≤ n := by rw [strs_len hys, hrl]; omega
        have hsum := rowsF_sum (up := up) hpad hev (k1 :: ks1) ht.2
        have hsum2 := risenN_sum ((rowsF pad up (k1 :: ks1)).length + 1) (rowsF pad up (k1 :: ks1))
        have hBB : ∀ y ∈ risenN ((rowsF pad up (k1 :: ks1)).length + 1) (rowsF pad up (k1 :: ks1)), y.length ≤ 2000 := fun y hy => by
          have := le_sum_of_mem hy; omega
        have hCC := risenN_le ((rowsF pad up (k1 :: ks1)).length + 1) (rowsF pad up (k1 :: ks1))
        have hCC2 : (risenN ((rowsF pad up (k1 :: ks1)).length + 1) (rowsF pad up (k1 :: ks1))).length ≤ 2010 := by omega
        have hJJ : (Txt.join (Str.ofString "\n") (risenN ((rowsF pad up (k1 :: ks1)).length + 1) (rowsF pad up (k1 :: ks1)))).length ≤ _ := join_len nl (by decide) (risenN ((rowsF pad up (k1 :: ks1)).length + 1) (rowsF pad up (k1 :: ks1)))
        have hJJ2 : (Txt.join (Str.ofString "\n") (risenN ((rowsF pad up (k1 :: ks1)).length + 1) (rowsF pad up (k1 :: ks1)))).length ≤ 1000 := by omega
        k_steps
        have hD37 : D ≠ 37 := fun e => by have := off1.1; exact this e.symm
        refine Stop.on (risen_ok (B := B1) (F := F2) (X := X1) (T := T1) (hk := rfl) (news := (D, lst ys) :: (((L1 + 1 + 1, o1) :: (L1 + 1, o2) :: news) ++ tl)) (N := news_sub N2 ?_) (hlam := hlam.here hst ?_ ?_) (hd := by ktr_room) (hu := by ktr_units) (C := C) (hoff := ?_) (hm := .head _) (hs := hys) (hn2 := by omega) (ret := ?_))
        · intro p hp
          simp only [List.mem_cons] at hp ⊢
          rcases hp with hp | hp | hp <;> simp only [hp, true_or, or_true]
        · intro p hp
          exact .tail _ (List.mem_append_left _ (.tail _ (.tail _ hp)))
        · intro p hp
          exact .tail _ (List.mem_append_right _ hp)
        · refine offC (P := fun q => q.1 ≠ 37) hD37 fun q hq => ?_
          rcases List.mem_append.mp hq with hq | hq
          · exact hoffB q hq
          · exact (Nat.ne_of_lt (htl q hq)).symm
        intro D2 ws ps3 tl3 hh3 tk3 F3 N3 gr3 ht3 st3 hD2 hws
        obtain ⟨Xl, hXl⟩ : ∃ Xl : Led, Xl = ((D, lst ys) :: (((L1 + 1 + 1, o1) :: (L1 + 1, o2) :: news) ++ tl)) ++ tl3 := ⟨_, rfl⟩
        have N4 : News g1 L1 hh3 ((37, tabObj ps3) :: Xl) := by rw [hXl]; exact N3
        clear N3 N2
        have cm1 : (D2, lstO ws 0) ∈ Xl := hXl ▸ List.mem_append_right _ hD2
        have e1n : (Str.ofString "\n").length = 1 := by decide
        k_steps
        rename (News h₀ L _ _) => kN
        rename (Fr h₀ L _ m) => kF
        refine ret _ ps3 (tl ++ tl3) _ _ kF (news_sub kN ?_) (hgr.add (gr3.of_sub ?_)) ?_ (LamOk.step hst st3)
        · intro p hp
          rw [hXl]
          simp only [List.mem_cons, List.mem_append, List.cons_append] at hp ⊢
          rcases hp with hp | hp | hp | hp <;> simp only [hp, true_or, or_true]
        · intro q hq
          exact .tail _ (List.mem_append_left _ (.tail _ (.tail _ hq)))
        · intro q hq
          exact (List.mem_append.mp hq).elim (htl q) (ht3 q)
end
section
open LCg
mutual
/-- _law_read comes to the tree -/
inductive ReadOk (edge : Str) (down : List Str) : Str → T → Prop
  | leaf {page : Str} : page.length ≤ 900 → (splitdocF (edge ++ page ++ edge)).2.length = 0 → ReadOk edge down page (.node (splitdocF (edge ++ page ++ edge)).1 [])
  | node {page : Str} {ks : List T} : page.length ≤ 900 → (splitdocF (edge ++ page ++ edge)).2.length ≠ 0 → (splitdocF (edge ++ page ++ edge)).2.length ≤ 1000 → ReadsOk edge down (Txt.split (splitdocF (edge ++ page ++ edge)).2 nl) ks → ReadOk edge down page (.node (splitdocF (edge ++ page ++ edge)).1 ks)
inductive ReadsOk (edge : Str) (down : List Str) : List Str → List T → Prop
  | nil : ReadsOk edge down [] []
  | cons {row : Str} {rows : List Str} {k : T} {ks : List T} : ReadOk edge down (replF row down) k → ReadsOk edge down rows ks → ReadsOk edge down (row :: rows) (k :: ks)
end
theorem ReadsOk.at {edge : Str} {down : List Str} : ∀ {rows : List Str} {ks : List T}, ReadsOk edge down rows ks → ∀ {i : Nat} {row : Str}, rows[i]? = some row → ∃ k, ks[i]? = some k ∧ ReadOk edge down (replF row down) k
  | _, _, .nil, i, v, h => by simp at h
  | _, _, .cons (k := k) h1 h2, i, v, h => by
    cases i with
    | zero => simp at h; subst h; exact ⟨k, rfl, h1⟩
    | succ i => exact h2.at (i := i) (by simpa using h)
theorem ReadsOk.len {edge : Str} {down : List Str} : ∀ {rows : List Str} {ks : List T}, ReadsOk edge down rows ks → rows.length = ks.length
  | _, _, .nil => rfl
  | _, _, .cons _ h => by simp only [List.length_cons, h.len]
theorem ForestIn.snoc {news : Led} : ∀ {vs : List Value} {ts : List T}, ForestIn news vs ts → ∀ {v : Value} {t : T}, TreeIn news v t → ForestIn news (vs ++ [v]) (ts ++ [t])
  | _, _, .nil, _, _, h => .cons h .nil
  | _, _, .cons h1 h2, _, _, h => .cons h1 (h2.snoc h)
/-- what was made stands apart from what stood -/
def Apart (news tl : Led) : Prop := ∀ q ∈ news, ∀ p ∈ tl, q.1 ≠ p.1
theorem Apart.nil {news : Led} : Apart news [] := fun _ _ _ h => nomatch h
theorem Apart.of_sub {l l' tl : Led} (h : Apart l tl) (k : ∀ p ∈ l', p ∈ l) : Apart l' tl := fun q hq p hp => h q (k q hq) p hp
theorem Apart.add {news tl tl' : Led} (h : Apart news tl) (k : Apart news tl') : Apart news (tl ++ tl') := fun q hq p hp => (List.mem_append.mp hp).elim (h q hq p) (k q hq p)
theorem Apart.one {news : Led} {a : Addr} {o : Obj} (h : AllLt a news) : Apart news [(a, o)] := fun q hq p hp => by
  rw [List.mem_singleton.mp hp]; exact Nat.ne_of_lt (ktn_ltOf h q hq)
theorem Apart.two {news : Led} {a b : Addr} {o o2 : Obj} (h : AllLt a news) (k : AllLt b news) : Apart news [(a, o), (b, o2)] := fun q hq p hp => by
  rcases List.mem_cons.mp hp with rfl | hp
  · exact Nat.ne_of_lt (ktn_ltOf h q hq)
  · rw [List.mem_singleton.mp hp]; exact Nat.ne_of_lt (ktn_ltOf k q hq)
set_option maxRecDepth 100000 in
set_option maxHeartbeats 4000000 in
theorem read_ok {w : World} (n : Nat) : ∀ {dp un : Nat} {gd : Option (List Code)} {cn : Str} {cs : Scope} {a : Addr} {ccd : Value} {cl : List (Str × Addr)} {outer : List Env} {A₀ : Around} {base h₀ : Heap} {L : Addr} {m : Str → Option Value} {news : List (Addr × Obj)} {s : Shared} {Q E : Value → Shared → Prop} {p : Program} {loose : List Str} {mean : ExcName → Option Value} {mg mb : Str → Option Value} {t : T} {page edge : Str} {tp te : Tok} {U : Addr} {us : List Value} {ku : Nat} {down : List Str}
  (B : Below A₀ base outer h₀) (F : Fr h₀ L s.heap m) (X : (Mine.hd.heap_39 w.params).In h₀) (T : Top p loose mean mg mb h₀) (hk : cs.kind = .function) (N : News h₀ L s.heap news) (hd : dp + n + 20 < 900) (hu : un + 8 * (n + 20) < 9000)
  (hm : ReadOk edge down page t) (hU : (U, lstO us ku) ∈ news) (hus : StrsAre us down) (hul : us.length ≤ 100) (hev : EvenL down) (hedge : edge.length ≤ 3) (hn : t.size ≤ n) (hn2 : n ≤ 20)
  (ret : ∀ r tl h' tk', Fr h₀ L h' m → News h₀ L h' (news ++ tl) → Apart news tl → TreeIn tl r t → Q r { s with heap := h', toks := tk' }),
  wpAny (model PySem.Challenge.rw_rl0158_01.row.prog w) (ktrTop dp un gd cn cs L a ccd cl outer) (call (.ref 52) [.str page tp, .str edge te, .ref U]) Q E s := by
  induction n with
  | zero =>
    intro dp un gd cn cs a ccd cl outer A₀ base h₀ L m news s Q E p loose mean mg mb t page edge tp te U us ku down B F X T hk N hd hu hm hU hus hul hev hedge hn hn2 ret
    cases t with
    | node nm ks => rw [T.size] at hn; omega
  | succ n ih =>
    intro dp un gd cn cs a ccd cl outer A₀ base h₀ L m news s Q E p loose mean mg mb t page edge tp te U us ku down B F X T hk N hd hu hm hU hus hul hev hedge hn hn2 ret
    revert X; k_fill; intro X
    refine wpAny_call ?_
    k_dflt (refine' code_defC ?k1 ?k2 ?k3 ?k4 ?k5 ?kA ?kF ?kK ?k6 ?k7 ?k8 ?k9 ?kB ?kD ?_ ?c2 ?c3 ?c4; (case kA => exact rfl); (case kF => exact rfl); (case kK => first | assumption | exact rfl); (case k1 => k_asm); (case k2 => k_asm); (case k3 => k_asm); (case k4 => k_asm); (case k5 => k_asm); (case k6 => k_is); (case k7 => k_is); (case k8 => ktr_room); (case k9 => exact BindsTo.of_eq rfl); (case kB => exact rfl); (case kD => decide +kernel); (case c2 => exact rfl); (case c3 => exact rfl); (case c4 => exact rfl); k_whole)
    intro g1 L1 h1 tk1 cells1 FG1 F1 N1 Y1 B1 X1 T1 lc1
    (try k_lt lc1)
    k_cells Y1
    (try simp only [List.cons_append, List.nil_append] at N1)
    (try dsimp only)
    (try k_lift B1)
    (try k_unmd)
    (try k_fold)
    have hpl : page.length ≤ 900 := by cases hm <;> assumption
    replace F1 : Fr g1 L1 h1 (fun y => if y = Str.ofString "page" then some (.str page tp) else none) := F1
    rename_i o1 o2 e1 e2
    replace e1 : o1.data = .cell (some (.ref U)) := e1
    replace e2 : o2.data = .cell (some (.str edge te)) := e2
    k_steps
    rename (Fr g1 L1 _ _) => F2
    rename (News g1 L1 _ _) => N2
    refine Stop.on (splitdoc_ok (B := B1) (F := F2) (X := X1) (N := N2) (T := T1) (hk := rfl) (hd := by ktr_room) (hu := by ktr_units) (hlen := by simp only [Str.length_append]; omega) (ret := ?_))
    intro D ta tb nD hh3 tk3 F3 N3 lD
    replace N3 := news_snoc N3
    clear F2 N2
    have lDn : AllLt D news := by simp only [AllLt] at lD; exact lD.2.2
    cases hm with
    | leaf hp0 h0 =>
      k_steps
      · exfalso
        rename ((_ : Int) ≠ 0) => hx
        exact hx (by rw [h0]; rfl)
      · rename (News h₀ L _ _) => kN
        rename (Fr h₀ L _ m) => kF
        rename_i l9 hA lA D9 hB FB NB lB T9 X9
        refine ret _ [(l9, lstO [] 0), (D9, tupO [.str _ ta, .ref l9] 0)] _ _ kF (news_sub kN ?_) (Apart.two (by tbn_find) (by tbn_find)) (.node (.tail _ (.head _)) (.head _) .nil)
        intro p hp
        rcases List.mem_append.mp hp with hp | hp
        · exact .tail _ (.tail _ (.tail _ (.tail _ (.tail _ hp))))
        · rcases List.mem_cons.mp hp with rfl | hp
          · exact .tail _ (.head _)
          · rw [List.mem_singleton.mp hp]; exact .head _
    | @node _ ks hp0 h0 h2 hrs =>
      k_steps
      · rename_i D3 vs3 hA kA hs3 F4 N4 l4
        rw [T.size] at hn
        have hkl := len_le_sizes ks
        have hvl : vs3.length = ks.length := by rw [strs_len hs3]; exact hrs.len
        have l4n : AllLt D3 news := by tbn_find
        obtain ⟨Bs, hBs⟩ : ∃ Bs : Led, Bs = (D3, lstO vs3 0) :: (D, tupO [.str (splitdocF (edge ++ page ++ edge)).1 ta, .str (splitdocF (edge ++ page ++ edge)).2 tb] nD) :: (L1 + 1 + 1, o1) :: (L1 + 1, o2) :: news := ⟨_, rfl⟩
        rw [← hBs] at N4
        have mD3 : (D3, lstO vs3 0) ∈ Bs := hBs ▸ .head _
        have mc1 : (L1 + 1 + 1, o1) ∈ Bs := hBs ▸ .tail _ (.tail _ (.head _))
        have mc2 : (L1 + 1, o2) ∈ Bs := hBs ▸ .tail _ (.tail _ (.tail _ (.head _)))
        have mU : (U, lstO us ku) ∈ Bs := hBs ▸ .tail _ (.tail _ (.tail _ (.tail _ hU)))
        have msub : ∀ p ∈ news, p ∈ Bs := fun p hp => hBs ▸ .tail _ (.tail _ (.tail _ (.tail _ hp)))
        clear hBs
        refine Stop.on (CompSrc.ledger (its := vs3.toArray) (k := 0) rfl F4 (news := Bs ++ []) (news_sub N4 ?_) (List.mem_append_left _ mD3) (by rw [List.size_toArray, sizeLine_eq]; omega) fun g => compRest_of (fun i ys nx => ∃ tl, nx = Bs ++ tl ∧ Apart news tl ∧ ForestIn tl ys (ks.take i)) (n := vs3.toArray.size) ?_ ?_ _ 0 [] _ (Nat.zero_add _) ⟨[], rfl, Apart.nil, .nil⟩)
        · intro p hp; rw [List.append_nil] at hp; exact hp
        · rintro i v ys nx I oI Cc oC Dl m₂ hh tk2 E' hi ⟨tl, rfl, hap, hys⟩ hv hC hx F5 N5 off hIC hID hCD
          have hv' : vs3[i]? = some v := by simpa using hv
          obtain ⟨row, trow, rfl, hrow⟩ := strs_at hs3 hv'
          obtain ⟨ki, hki, hRi⟩ := hrs.at hrow
          have hrl : row.length ≤ 1000 := Nat.le_trans (part_short (List.mem_of_getElem? hrow)) h2
          have hki2 : ki.size ≤ n := by have := size_of_mem hki; omega
          k_steps
          rename (Fr g1 L1 _ _) => F6
          rename (News g1 L1 _ _) => N6
          rw [List.append_nil]
          refine Stop.on (replace_ok (B := B1) (F := F6) (X := X1) (N := N6) (T := T1) (hk := rfl) (hd := by ktr_room) (hu := by ktr_units) (hlen := hrl) (hps := hus) (hvs := by omega) (hev := hev) (ret := ?_))
          intro tb2 hh7 tk7 F7 N7
          k_steps
          refine Stop.on (ih (B := B1) (F := F7) (X := X1) (T := T1) (hk := rfl) (N := N7) (hd := by ktr_room) (hu := by ktr_units) (hm := hRi) (ku := ku) (hU := .tail _ (.tail _ (.tail _ (List.mem_append_left _ mU)))) (hus := hus) (hul := hul) (hev := hev) (hedge := hedge) (hn := hki2) (hn2 := by omega) (ret := ?_))
          intro r tl2 hh8 tk8 F8 N8 ap8 tr8
          k_steps
          refine Stop.on (CompEnd.intro F8 (news_sub N8 ?_) (Bs ++ (tl ++ tl2)) (fun p hp => hp) ?_ (.inr ⟨lstO vs3 0, List.mem_append_left _ mD3, rfl, 0, rfl⟩) ⟨tl ++ tl2, rfl, hap.add (ap8.of_sub ?_), ?_⟩)
          · intro p hp
            simp only [List.mem_cons, List.mem_append, List.cons_append] at hp ⊢
            rcases hp with hp | hp | hp | hp | hp | hp <;> simp only [hp, true_or, or_true]
          · refine Off3.of ?_
            intro q hq
            rw [← List.append_assoc] at hq
            rcases List.mem_append.mp hq with hq | hq
            · exact Off3.mem off q hq
            · exact ⟨(ap8 _ (.head _) q hq).symm, (ap8 _ (.tail _ (.head _)) q hq).symm, (ap8 _ (.tail _ (.tail _ (.head _))) q hq).symm⟩
          · intro p hp
            exact .tail _ (.tail _ (.tail _ (List.mem_append_left _ (msub p hp))))
          · rw [take_snoc hki]
            exact (hys.mono fun p hp => List.mem_append_left _ hp).snoc (tr8.mono fun p hp => List.mem_append_right _ hp)
        · rintro ys nx ⟨tl, rfl, hap, hys⟩
          intro Dl hh tk5 F5 N5 off1
          rw [List.size_toArray, List.take_of_length_le (Nat.le_of_eq hvl.symm)] at hys
          have off1' : ∀ p ∈ Bs ++ tl, p.1 ≠ Dl := by
            have : ∀ l : Led, Off1 Dl l → ∀ p ∈ l, p.1 ≠ Dl := by
              intro l
              induction l with
              | nil => intro _ p hp; cases hp
              | cons q r ihr => intro h p hp; rcases List.mem_cons.mp hp with rfl | hp
                                · exact h.1
                                · exact ihr h.2 p hp
            exact this _ off1
          k_steps
          rename (News h₀ L _ _) => kN
          rename (Fr h₀ L _ m) => kF
          refine ret _ (tl ++ [(Dl, lst ys), (_, tupO [.str _ ta, .ref Dl] 0)]) _ _ kF (news_sub kN ?_) (hap.add ?_) (.node (List.mem_append_right _ (.tail _ (.head _))) (List.mem_append_right _ (.head _)) (hys.mono fun p hp => List.mem_append_left _ hp))
          · intro p hp
            simp only [List.mem_cons, List.mem_append, List.mem_nil_iff, or_false] at hp ⊢
            rcases hp with hp | hp | hp | hp
            · simp only [msub p hp, true_or, or_true]
            · simp only [hp, true_or, or_true]
            · simp only [hp, true_or, or_true]
            · simp only [hp, true_or, or_true]
          · intro q hq p hp
            rcases List.mem_cons.mp hp with rfl | hp
            · exact off1' q (List.mem_append_left _ (msub q hq))
            · rw [List.mem_singleton.mp hp]
              rename (_ < _ ∧ AllLt _ (Bs ++ tl)) => l9
              exact Nat.ne_of_lt (ktn_ltOf l9.2 q (List.mem_append_left _ (msub q hq)))
      · exfalso
        rename ((_ : Int) = 0) => hx
        exact h0 (Int.ofNat.inj hx)
end
section
open LCg
/-- the mark of a depth -/
def markF (d : Nat) : Str := Txt.item (Str.ofString "\n123456") (d : Int)
mutual
/-- _law_written, as the code has it -/
def writtenF (pad : Str) : Nat → T → Str
  | _, .node n [] => n
  | d, .node n (k :: r) => n ++ markF d ++ pad ++ markF d ++ Txt.join (markF d) (writtenFs pad (d + 1) (k :: r))
def writtenFs (pad : Str) : Nat → List T → List Str
  | _, [] => []
  | d, k :: r => writtenF pad d k :: writtenFs pad d r
end
theorem writtenFs_len (pad : Str) (d : Nat) : ∀ ks : List T, (writtenFs pad d ks).length = ks.length
  | [] => by rw [writtenFs]; rfl
  | k :: r => by rw [writtenFs, List.length_cons, List.length_cons, writtenFs_len pad d r]
theorem writtenFs_at (pad : Str) (d : Nat) : ∀ {ks : List T} {i : Nat} {t : T}, ks[i]? = some t → (writtenFs pad d ks)[i]? = some (writtenF pad d t)
  | [], i, t, h => by simp at h
  | k :: r, i, t, h => by
    rw [writtenFs]
    cases i with
    | zero => simp at h; subst h; rfl
    | succ i => exact writtenFs_at pad d (ks := r) (i := i) (by simpa using h)
theorem markF_len (d : Nat) : (markF d).length = 1 := len_item _ _
mutual
theorem writtenF_len {pad : Str} (hp : pad.length ≤ 3) : ∀ (d : Nat) (t : T), Short t → (writtenF pad d t).length + 1 ≤ 10 * t.size
  | d, .node n [] => fun h => by
    rw [Short] at h
    rw [writtenF, T.size]; omega
  | d, .node n (k :: r) => fun h => by
    rw [Short] at h
    have e := markF_len d
    have h1 := writtenFs_sum hp (d + 1) (k :: r) h.2
    have h2 := join_len (markF d) (Nat.le_of_eq e) (writtenFs pad (d + 1) (k :: r))
    rw [writtenF, T.size]
    simp only [Str.length_append]
    omega
theorem writtenFs_sum {pad : Str} (hp : pad.length ≤ 3) : ∀ (d : Nat) (ks : List T), Shorts ks → ((writtenFs pad d ks).map (·.length)).sum + (writtenFs pad d ks).length ≤ 10 * sizes ks
  | d, [] => fun _ => by rw [writtenFs]; exact Nat.zero_le _
  | d, k :: r => fun h => by
    rw [Shorts] at h
    have h1 := writtenF_len hp d k h.1
    have h2 := writtenFs_sum hp d r h.2
    rw [writtenFs, sizes]
    simp only [List.map_cons, List.sum_cons, List.length_cons]
    omega
end
set_option maxRecDepth 100000 in
set_option maxHeartbeats 4000000 in
theorem written_ok {w : World} (n : Nat) : ∀ {dp un : Nat} {gd : Option (List Code)} {cn : Str} {cs : Scope} {a : Addr} {ccd : Value} {cl : List (Str × Addr)} {outer : List Env} {A₀ : Around} {base h₀ : Heap} {L : Addr} {m : Str → Option Value} {news : List (Addr × Obj)} {s : Shared} {Q E : Value → Shared → Prop} {p : Program} {loose : List Str} {mean : ExcName → Option Value} {mg mb : Str → Option Value} {v : Value} {t : T} {pad : Str} {tp td : Tok} {d : Nat}
  (B : Below A₀ base outer h₀) (F : Fr h₀ L s.heap m) (X : (Mine.hd.heap_39 w.params).In h₀) (T : Top p loose mean mg mb h₀) (hk : cs.kind = .function) (N : News h₀ L s.heap news) (hd : dp + n + 20 < 900) (hu : un + 8 * (n + 20) < 9000)
  (hm : TreeIn news v t) (hpad : pad.length ≤ 3) (ht : Short t) (hn : t.size ≤ n) (hn2 : d + n ≤ 8)
  (ret : ∀ ta h' tk', Fr h₀ L h' m → News h₀ L h' news → Q (.str (writtenF pad d t) ta) { s with heap := h', toks := tk' }),
  wpAny (model PySem.Challenge.rw_rl0158_01.row.prog w) (ktrTop dp un gd cn cs L a ccd cl outer) (call (.ref 57) [v, .int (d : Int) td, .str pad tp]) Q E s := by
  induction n with
  | zero =>
    intro dp un gd cn cs a ccd cl outer A₀ base h₀ L m news s Q E p loose mean mg mb v t pad tp td d B F X T hk N hd hu hm hpad ht hn hn2 ret
    cases t with
    | node nm ks => rw [T.size] at hn; omega
  | succ n ih =>
    intro dp un gd cn cs a ccd cl outer A₀ base h₀ L m news s Q E p loose mean mg mb v t pad tp td d B F X T hk N hd hu hm hpad ht hn hn2 ret
    revert X; k_fill; intro X
    refine wpAny_call ?_
    k_dflt (refine' code_defC ?k1 ?k2 ?k3 ?k4 ?k5 ?kA ?kF ?kK ?k6 ?k7 ?k8 ?k9 ?kB ?kD ?_ ?c2 ?c3 ?c4; (case kA => exact rfl); (case kF => exact rfl); (case kK => first | assumption | exact rfl); (case k1 => k_asm); (case k2 => k_asm); (case k3 => k_asm); (case k4 => k_asm); (case k5 => k_asm); (case k6 => k_is); (case k7 => k_is); (case k8 => ktr_room); (case k9 => exact BindsTo.of_eq rfl); (case kB => exact rfl); (case kD => decide +kernel); (case c2 => exact rfl); (case c3 => exact rfl); (case c4 => exact rfl); k_whole)
    intro g1 L1 h1 tk1 cells1 FG1 F1 N1 Y1 B1 X1 T1 lc1
    (try k_lt lc1)
    k_cells Y1
    (try simp only [List.cons_append, List.nil_append] at N1)
    (try dsimp only)
    (try k_lift B1)
    (try k_unmd)
    (try k_fold)
    replace F1 : Fr g1 L1 h1 (fun y => if y = Str.ofString "tree" then some v else none) := F1
    rename_i o1 o2 e1 e2
    replace e1 : o1.data = .cell (some (.str pad tp)) := e1
    replace e2 : o2.data = .cell (some (.int (d : Int) td)) := e2
    have hml : (Txt.item (Str.ofString "\n123456") (d : Int)).length = 1 := len_item _ _
    cases hm with
    | @node a9 l nm tk ks vs n1 n2 ha hl hf =>
    have hvl := hf.len
    have hkl := len_le_sizes ks
    rw [T.size] at hn
    rw [Short] at ht
    cases hf with
    | nil =>
      k_steps
      rename (News h₀ L _ _) => kN
      rename (Fr h₀ L _ m) => kF
      refine ret _ _ _ kF (fun p hp => kN p ?_)
      exact .tail _ (.tail _ hp)
    | @cons v1 vs1 k1 ks1 hv1 hvs1 =>
      have hvl' : (v1 :: vs1).length ≤ 20 := by omega
      k_steps
      · exfalso
        rename (_ ∨ _) => hx
        have h7 : (Str.ofString "\n123456").length = 7 := by decide
        have h8 : (v1 :: vs1).length = vs1.length + 1 := rfl
        omega
      rename (Fr g1 L1 _ _) => F2
      rename (News g1 L1 _ _) => N2
      obtain ⟨Bs, hBs⟩ : ∃ Bs : Led, Bs = (L1 + 1 + 1, o1) :: (L1 + 1, o2) :: news := ⟨_, rfl⟩
      rw [← hBs] at N2
      have mc1 : (L1 + 1 + 1, o1) ∈ Bs := hBs ▸ .head _
      have mc2 : (L1 + 1, o2) ∈ Bs := hBs ▸ .tail _ (.head _)
      have mL : (l, lstO (v1 :: vs1) n2) ∈ Bs := hBs ▸ .tail _ (.tail _ hl)
      have msub : ∀ p ∈ news, p ∈ Bs := fun p hp => hBs ▸ .tail _ (.tail _ hp)
      clear hBs
      refine Stop.on (CompSrc.ledger (its := (v1 :: vs1).toArray) (k := n2) rfl F2 N2 mL (by rw [List.size_toArray, sizeLine_eq]; omega) fun g => compRest_of (fun i ys nx => nx = Bs ∧ StrsAre ys ((writtenFs pad (d + 1) (k1 :: ks1)).take i)) (n := (v1 :: vs1).toArray.size) ?_ ?_ _ 0 [] _ (Nat.zero_add _) ⟨rfl, .nil⟩)
      · rintro i v ys nx I oI Cc oC Dl m₂ hh tk2 E' hi ⟨rfl, hys⟩ hv hC hx F5 N5 off hIC hID hCD
        have hv' : (v1 :: vs1)[i]? = some v := by simpa using hv
        obtain ⟨ti, hti, hTi⟩ := (ForestIn.cons hv1 hvs1).at hv'
        have hti2 : ti.size ≤ n := by have := size_of_mem hti; omega
        have hsh2 : Short ti := short_of_mem ht.2 hti
        k_steps
        refine Stop.on (ih (d := d + 1) (B := B1) (F := F5) (X := X1) (T := T1) (hk := rfl) (N := N5) (hd := by ktr_room) (hu := by ktr_units) (hm := hTi.mono fun p hp => .tail _ (.tail _ (.tail _ (msub p hp)))) (hpad := hpad) (ht := hsh2) (hn := hti2) (hn2 := by omega) (ret := ?_))
        intro ta hh6 tk6 F6 N6
        k_steps
        refine Stop.on (CompEnd.intro F6 N6 nx (fun p hp => hp) off (.inr ⟨lstO (v1 :: vs1) n2, mL, rfl, n2, rfl⟩) ⟨rfl, ?_⟩)
        rw [take_snoc (writtenFs_at pad (d + 1) hti)]
        exact strs_snoc hys _ ta
      · rintro ys nx ⟨rfl, hys⟩
        intro Dl hh tk5 F5 N5 off1
        have hrl : (writtenFs pad (d + 1) (k1 :: ks1)).length = (v1 :: vs1).length := by rw [writtenFs_len, hvl]
        rw [List.size_toArray, List.take_of_length_le (Nat.le_of_eq hrl)] at hys
        have lys : ys.length ≤ 20 := by rw [strs_len hys, hrl]; exact hvl'
        have hsum := writtenFs_sum hpad (d + 1) (k1 :: ks1) ht.2
        have hBB : ∀ y ∈ writtenFs pad (d + 1) (k1 :: ks1), y.length ≤ 2000 := fun y hy => by
          have := le_sum_of_mem hy; omega
        have hCC : (writtenFs pad (d + 1) (k1 :: ks1)).length ≤ 2010 := by omega
        have hJJ := join_len (Txt.item (Str.ofString "\n123456") (d : Int)) (by omega) (writtenFs pad (d + 1) (k1 :: ks1))
        have hJJ2 : (Txt.join (Txt.item (Str.ofString "\n123456") (d : Int)) (writtenFs pad (d + 1) (k1 :: ks1))).length ≤ 1000 := by omega
        k_steps
        rename (News h₀ L _ _) => kN
        rename (Fr h₀ L _ m) => kF
        refine ret _ _ _ kF (news_sub kN fun p hp => .tail _ (msub p hp))
end
section
open LCg
local macro_rules | `(tactic| walk_at "binaryOp Add ref ref") => `(tactic| (k_here; (with_reducible show wpAny _ _ (binaryOp _ (Value.ref _) (Value.ref _)) _ _ _); k_dflt (refine' add_lsts ?F ?N ?a ?b ?_ ?z; (case F => k_asm); (case N => k_asm); (case a => k_mem); (case b => k_mem); (case z => (simp only [List.length_append, List.length_take, List.length_drop, Array.length_toList, List.size_toArray]; omega)); k_whole); intro D' h' F' N' l1; (try k_lt l1); (try k_sweep)))
local macro_rules | `(tactic| walk_at "exec For Name Subscript cons nil") => `(tactic| (k_here; (rename Fr _ _ _ _ => lF'); (with_unfolding_all refine' For_invVF lF' ?k1 ?k2 ?_; (case k1 => exact rfl); (case k2 => exact rfl); k_whole)))
local macro_rules | `(tactic| walk_at "exec While") => `(tactic| (refine Stop.go ?_))
local macro_rules | `(tactic| walk_at "call builtin:len") => `(tactic| (k_here; (with_reducible show wpAny _ _ (call (Value.builtin "len") [Value.ref _]) _ _ _); k_dflt (refine' PyProof.Rows.len_list ?k1 ?k2 ?_; (case k1 => exact News.isList (by k_asm) (by k_mem)); (case k2 => (rw [List.size_toArray]; omega)); k_whole); (try simp only [List.size_toArray])))
/-- matching, kid with kid -/
def matchL (f : T → T → Bool) : List T → List T → Bool
  | [], _ => true
  | k :: ks, ls => if ls.findIdx (f k) < ls.length then matchL f ks (ls.take (ls.findIdx (f k)) ++ ls.drop (ls.findIdx (f k) + 1)) else false
/-- _law_same, as the code has it -/
def sameN : Nat → T → T → Bool
  | 0, _, _ => false
  | n + 1, .node a ks, .node b ls => (a == b) && (ks.length == ls.length) && matchL (sameN n) ks ls
/-- the names of _law_same -/
def frm5 (l k s : Option Value) (one two : Value) : Str → Option Value := fun y => if y = Str.ofString "left" then l else if y = Str.ofString "kid" then k else if y = Str.ofString "spot" then s else if y = Str.ofString "two" then some two else if y = Str.ofString "one" then some one else none
theorem frm5_of {f : Str → Option Value} {l k s : Option Value} {one two : Value} (h1 : f (Str.ofString "left") = l) (h2 : f (Str.ofString "kid") = k) (h3 : f (Str.ofString "spot") = s) (h4 : f (Str.ofString "two") = some two) (h5 : f (Str.ofString "one") = some one)
    (h6 : ∀ y, y ≠ Str.ofString "left" → y ≠ Str.ofString "kid" → y ≠ Str.ofString "spot" → y ≠ Str.ofString "two" → y ≠ Str.ofString "one" → f y = none) : f = frm5 l k s one two := by
  funext y
  unfold frm5
  by_cases e1 : y = Str.ofString "left"
  · subst e1; exact h1
  by_cases e2 : y = Str.ofString "kid"
  · subst e2; exact h2
  by_cases e3 : y = Str.ofString "spot"
  · subst e3; exact h3
  by_cases e4 : y = Str.ofString "two"
  · subst e4; exact h4
  by_cases e5 : y = Str.ofString "one"
  · subst e5; exact h5
  simp only [if_neg e1, if_neg e2, if_neg e3, if_neg e4, if_neg e5]
  exact h6 y e1 e2 e3 e4 e5
theorem frm5_fr {h₀ h : Heap} {L : Addr} {f : Str → Option Value} {l k s : Option Value} {one two : Value} (F : Fr h₀ L h f) (h1 : f (Str.ofString "left") = l) (h2 : f (Str.ofString "kid") = k) (h3 : f (Str.ofString "spot") = s) (h4 : f (Str.ofString "two") = some two) (h5 : f (Str.ofString "one") = some one)
    (h6 : ∀ y, y ≠ Str.ofString "left" → y ≠ Str.ofString "kid" → y ≠ Str.ofString "spot" → y ≠ Str.ofString "two" → y ≠ Str.ofString "one" → f y = none) : Fr h₀ L h (frm5 l k s one two) := by
  rw [← frm5_of h1 h2 h3 h4 h5 h6]; exact F
theorem frm5_none {l k s : Option Value} {one two : Value} {y : Str} (e1 : y ≠ Str.ofString "left") (e2 : y ≠ Str.ofString "kid") (e3 : y ≠ Str.ofString "spot") (e4 : y ≠ Str.ofString "two") (e5 : y ≠ Str.ofString "one") : frm5 l k s one two y = none := by
  unfold frm5
  simp only [if_neg e1, if_neg e2, if_neg e3, if_neg e4, if_neg e5]
theorem findIdx_true {f : T → Bool} {l : List T} {i : Nat} {x : T} (h : l[i]? = some x) (e : i = l.findIdx f) : f x = true := by
  subst e
  obtain ⟨hlt, he⟩ := List.getElem?_eq_some_iff.mp h
  rw [← he]; exact List.findIdx_getElem
theorem findIdx_le_of {f : T → Bool} {l : List T} {i : Nat} {x : T} (h : l[i]? = some x) (hx : f x = true) : l.findIdx f ≤ i := by
  rcases Nat.lt_or_ge i (l.findIdx f) with h1 | h1
  · have := List.not_of_lt_findIdx h1
    obtain ⟨hlt, he⟩ := List.getElem?_eq_some_iff.mp h
    rw [he, hx] at this
    exact absurd this (by decide)
  · exact h1
theorem ForestIn.cut {news : Led} : ∀ {vs : List Value} {ts : List T}, ForestIn news vs ts → ∀ j : Nat, ForestIn news (vs.take j ++ vs.drop (j + 1)) (ts.take j ++ ts.drop (j + 1))
  | _, _, .nil, j => by simp only [List.take_nil, List.drop_nil, List.append_nil]; exact .nil
  | _, _, .cons h1 h2, 0 => by simpa using h2
  | _, _, .cons h1 h2, j + 1 => by simpa using ForestIn.cons h1 (h2.cut j)
theorem cut_sizes : ∀ (ts : List T) (j : Nat), sizes (ts.take j ++ ts.drop (j + 1)) ≤ sizes ts
  | [], j => by simp
  | t :: r, 0 => by simp [sizes]
  | t :: r, j + 1 => by
    have := cut_sizes r j
    simp only [List.take_succ_cons, List.drop_succ_cons, List.cons_append, sizes]; omega
theorem cut_len (ts : List T) (j : Nat) : (ts.take j ++ ts.drop (j + 1)).length ≤ ts.length := by
  simp only [List.length_append, List.length_take, List.length_drop]; omega
set_option maxRecDepth 100000 in
set_option maxHeartbeats 4000000 in
theorem same_ok {w : World} (n : Nat) : ∀ {dp un : Nat} {gd : Option (List Code)} {cn : Str} {cs : Scope} {a : Addr} {ccd : Value} {cl : List (Str × Addr)} {outer : List Env} {A₀ : Around} {base h₀ : Heap} {L : Addr} {m : Str → Option Value} {news : List (Addr × Obj)} {s : Shared} {Q E : Value → Shared → Prop} {p : Program} {loose : List Str} {mean : ExcName → Option Value} {mg mb : Str → Option Value} {v v2 : Value} {t u : T}
  (B : Below A₀ base outer h₀) (F : Fr h₀ L s.heap m) (X : (Mine.hd.heap_39 w.params).In h₀) (T : Top p loose mean mg mb h₀) (hk : cs.kind = .function) (N : News h₀ L s.heap news) (hd : dp + n + 20 < 900) (hu : un + 8 * (n + 20) < 9000)
  (hm : TreeIn news v t) (hm2 : TreeIn news v2 u) (hn : t.size ≤ n) (hn2 : n ≤ 20) (hu2 : u.size ≤ 20)
  (ret : ∀ h' tk', Fr h₀ L h' m → News h₀ L h' news → Q (.bool (sameN n t u)) { s with heap := h', toks := tk' }),
  wpAny (model PySem.Challenge.rw_rl0158_01.row.prog w) (ktrTop dp un gd cn cs L a ccd cl outer) (call (.ref 64) [v, v2]) Q E s := by
  induction n with
  | zero =>
    intro dp un gd cn cs a ccd cl outer A₀ base h₀ L m news s Q E p loose mean mg mb v v2 t u B F X T hk N hd hu hm hm2 hn hn2 hu2 ret
    cases t with
    | node nm ks => rw [T.size] at hn; omega
  | succ n ih =>
    intro dp un gd cn cs a ccd cl outer A₀ base h₀ L m news s Q E p loose mean mg mb v v2 t u B F X T hk N hd hu hm hm2 hn hn2 hu2 ret
    revert X; k_fill; intro X
    refine wpAny_call ?_
    k_dflt (refine' code_def ?k1 ?k2 ?k3 ?k4 ?k5 ?kA ?kF ?kK ?k6 ?k7 ?k8 ?k9 ?kB ?_ ?c2 ?c3 ?c4 ?c5; (case kA => exact rfl); (case kF => exact rfl); (case kK => first | assumption | exact rfl); (case k1 => k_asm); (case k2 => k_asm); (case k3 => k_asm); (case k4 => k_asm); (case k5 => k_asm); (case k6 => k_is); (case k7 => k_is); (case k8 => ktr_room); (case k9 => exact BindsTo.of_eq rfl); (case c5 => decide); (case kB => exact locs rfl); (case c2 => exact rfl); (case c3 => exact rfl); (case c4 => exact rfl); k_whole)
    intro g1 L1 h1 FG1 F1 N1 B1 X1 T1
    (try dsimp only)
    (try k_lift B1)
    (try k_fold)
    cases hm with
    | @node a1 l1 nm1 tk1 ks vs n1 n2 ha hl hf =>
    cases hm2 with
    | @node a2 l2 nm2 tk2 ls ws n3 n4 ha2 hl2 hf2 =>
    have hvl := hf.len
    have hwl := hf2.len
    have hkl := len_le_sizes ks
    have hkl2 := len_le_sizes ls
    rw [T.size] at hn hu2
    k_steps
    · rename ((nm1 != nm2) = true) => hne
      rename (News h₀ L _ _) => kN
      rename (Fr h₀ L _ m) => kF
      have e : sameN (n + 1) (.node nm1 ks) (.node nm2 ls) = false := by
        rw [sameN, show (nm1 == nm2) = false from by simpa [bne] using hne]; rfl
      rw [e] at ret
      exact ret _ _ kF kN
    · rename ((_ : Int) ≠ _) => hne
      rename (News h₀ L _ _) => kN
      rename (Fr h₀ L _ m) => kF
      have e : sameN (n + 1) (.node nm1 ks) (.node nm2 ls) = false := by
        rw [sameN, show (ks.length == ls.length) = false from beq_eq_false_iff_ne.mpr (fun e => hne (by rw [hvl, hwl, e])), Bool.and_false, Bool.false_and]
      rw [e] at ret
      exact ret _ _ kF kN
    rename (Fr g1 L1 _ _) => F2
    rename (News g1 L1 _ _) => N2
    rename ((nm1 != nm2) = false) => heqn
    rename (@Eq Int _ _) => hez
    rename (∀ (p : Addr × Obj), p ∈ news → p.fst < _) => lD
    have hll : ks.length = ls.length := by rw [← hvl, ← hwl]; exact Int.ofNat.inj hez
    have e : sameN (n + 1) (.node nm1 ks) (.node nm2 ls) = matchL (sameN n) ks ls := by
      rw [sameN, show (nm1 == nm2) = true from by simpa [bne] using heqn, show (ks.length == ls.length) = true from beq_iff_eq.mpr hll]; rfl
    rw [e] at ret
    replace F2 := frm5_fr (l := some (.ref _)) (k := none) (s := none) (one := .ref a1) (two := .ref a2) F2 rfl rfl rfl rfl rfl (fun y e1 e2 e3 e4 e5 => by
      simp only [if_neg e1]
      show List.lookup y [(Str.ofString "two", Value.ref a2), (Str.ofString "one", Value.ref a1)] = none
      simp only [List.lookup_cons, beq_eq_false_iff_ne.mpr e4, beq_eq_false_iff_ne.mpr e5, List.lookup_nil])
    refine iter_led (fun i m₁ nx => ∃ uk us D' ls' ws' k, m₁ = frm5 (some (.ref D')) uk us (.ref a1) (.ref a2) ∧ nx = (D', lstO ws' k) :: news ∧ ForestIn news ws' ls' ∧ (ls'.length ≤ 20 ∧ sizes ls' ≤ 20) ∧ (∀ p ∈ news, p.1 < D') ∧ matchL (sameN n) (ks.drop i) ls' = matchL (sameN n) ks ls) rfl (.tail _ hl) F2 N2 ?_ ?_ ?_ ?_
    · exact ⟨none, none, _, ls, ws, 0, rfl, rfl, hf2, by omega, lD, rfl⟩
    · rintro i m₁ nx ⟨_, _, _, _, _, _, rfl, rfl, _⟩
      exact .tail _ hl
    · rintro i v m₁ nx h tk I oI hv ⟨uk, us, D', ls', ws', k, rfl, rfl, hf3, ⟨hl3, hs3⟩, lD', hmt⟩ hoI F3 N3
      replace F3 := frm5_fr (l := some (.ref D')) (k := some v) (s := us) (one := .ref a1) (two := .ref a2) F3 rfl rfl rfl rfl rfl (fun y e1 e2 e3 e4 e5 => by simp only [if_neg e2]; exact frm5_none e1 e2 e3 e4 e5)
      obtain ⟨ti, hti, hTi⟩ := hf.at hv
      have hti2 : ti.size ≤ n := by have := size_of_mem hti; omega
      have hws := hf3.len
      have hIne : ∀ p ∈ news, p.1 ≠ I := fun p hp => hoI p (.tail _ hp)
      have hDI : I ≠ D' := (hoI (D', lstO ws' k) (.head _)).symm
      have hdrop : ks.drop i = ti :: ks.drop (i + 1) := by
        obtain ⟨hlt, he⟩ := List.getElem?_eq_some_iff.mp hti
        rw [List.drop_eq_getElem_cons hlt, he]
      rw [hdrop, matchL] at hmt
      clear hdrop
      k_steps
      rename (Fr g1 L1 _ _) => F4
      rename (News g1 L1 _ _) => N4
      refine Stop.on (While_inv2 (fun c m₁ nx => ∃ (j : Nat) (tj : Tok), m₁ = frm5 (some (.ref D')) (some v) (some (.int (j : Int) tj)) (.ref a1) (.ref a2) ∧ nx = (I, oI) :: (D', lstO ws' k) :: news ∧ c = ls'.length - j ∧ j ≤ ls'.findIdx (sameN n ti)) (n₀ := ls'.length) (frm5_fr (l := some (.ref D')) (k := some v) (s := some (.int ((0 : Nat) : Int) _)) (one := .ref a1) (two := .ref a2) F4 rfl rfl rfl rfl rfl (fun y e1 e2 e3 e4 e5 => by simp only [if_neg e3]; exact frm5_none e1 e2 e3 e4 e5)) N4 ⟨0, _, rfl, rfl, rfl, Nat.zero_le _⟩ ?_)
      clear F4 N4 F3 N3
      rintro c m₁ nx h₁ tk₁ F₁ N₁ ⟨j, tj, rfl, rfl, rfl, hj⟩
      have hfl := List.findIdx_le_length (p := sameN n ti) (xs := ls')
      rcases Nat.lt_or_ge j ws'.length with hlt | hge
      · obtain ⟨x, hx⟩ : ∃ x, ws'[j]? = some x := ⟨_, List.getElem?_eq_getElem hlt⟩
        obtain ⟨tl, htl, hTl⟩ := hf3.at hx
        have hx' : ws'[((j : Nat) : Int).toNat]? = some x := hx
        have hsz := size_of_mem htl
        have hlt2 : j < ls'.length := hws ▸ hlt
        k_steps
        · refine Stop.on (ih (B := B1) (F := F₁) (X := X1) (T := T1) (hk := rfl) (N := N₁) (hd := by ktr_room) (hu := by ktr_units) (hm := hTi.mono fun p hp => .tail _ (.tail _ hp)) (hm2 := hTl.mono fun p hp => .tail _ (.tail _ hp)) (hn := hti2) (hn2 := by omega) (hu2 := by omega) (ret := ?_))
          intro hh6 tk6 F6 N6
          k_steps
          · exfalso; omega
          · rename (sameN n ti tl = true) => ha
            rename (Fr g1 L1 _ _) => eF
            rename (News g1 L1 _ _) => eN
            have hjf : ls'.findIdx (sameN n ti) = j := Nat.le_antisymm (findIdx_le_of htl ha) hj
            rw [hjf, if_pos hlt2] at hmt
            rename (_ < _ ∧ _ < _ ∧ I < _ ∧ D' < _ ∧ AllLt _ news) => lz
            replace eF := frm5_fr (l := some (.ref _)) (k := some v) (s := some (.int (j : Int) tj)) (one := .ref a1) (two := .ref a2) eF rfl rfl rfl rfl rfl (fun y e1 e2 e3 e4 e5 => by simp only [if_neg e1]; exact frm5_none e1 e2 e3 e4 e5)
            refine ⟨_, _, _, (_, lstO (ws'.take j ++ ws'.drop (j + 1)) 0) :: news, rfl, eF, news_sub eN ?_, ?_, some v, _, _, _, _, 0, rfl, rfl, hf3.cut j, ⟨Nat.le_trans (cut_len _ _) hl3, Nat.le_trans (cut_sizes _ _) hs3⟩, ktn_ltOf lz.2.2.2.2, hmt⟩
            · intro p hp
              rcases List.mem_cons.mp hp with rfl | hp
              · exact .tail _ (.tail _ (.tail _ (.head _)))
              · rcases List.mem_cons.mp hp with rfl | hp
                · exact .head _
                · exact .tail _ (.tail _ (.tail _ (.tail _ (.tail _ hp))))
            · exact offC (P := fun p => p.1 ≠ I) (show _ ≠ I from Nat.ne_of_gt lz.2.2.1) hIne
          · rename (sameN n ti tl = false) => ha
            rename (Fr g1 L1 _ _) => eF
            rename (News g1 L1 _ _) => eN
            have hjf : j ≠ ls'.findIdx (sameN n ti) := fun e => by
              have := findIdx_true htl e
              rw [ha] at this
              exact absurd this (by decide)
            exact ⟨_, _, _, _, ls'.length - (j + 1), rfl, frm5_fr (l := some (.ref D')) (k := some v) (s := some (.int ((j + 1 : Nat) : Int) _)) (one := .ref a1) (two := .ref a2) eF rfl rfl rfl rfl rfl (fun y e1 e2 e3 e4 e5 => by simp only [if_neg e3]; exact frm5_none e1 e2 e3 e4 e5), eN, by omega, j + 1, _, rfl, rfl, rfl, by omega⟩
      · k_steps
        · change qk (Flow.ret (Value.bool false)) _
          have hjf : ¬ ls'.findIdx (sameN n ti) < ls'.length := by omega
          rw [if_neg hjf] at hmt
          rw [← hmt] at ret
          k_steps
          rename (News h₀ L _ _) => kN
          rename (Fr h₀ L _ m) => kF
          exact ret _ _ kF (news_sub kN fun p hp => .tail _ (.tail _ hp))
        · exfalso; omega
    · rintro m₁ nx h tk ⟨uk, us, D', ls', ws', k, rfl, rfl, hf3, ⟨hl3, hs3⟩, lD', hmt⟩ F3 N3
      k_steps
      rw [List.drop_of_length_le (Nat.le_of_eq hvl.symm)] at hmt
      rename (News h₀ L _ _) => kN
      rename (Fr h₀ L _ m) => kF
      rw [← hmt] at ret
      exact ret _ _ kF (news_sub kN fun p hp => .tail _ hp)
end
section
/-- a mark in the context -/
def Halt : Prop := True
section
open LCg
variable {prog : Program} {w : World} {A : Around} {E : Value → Shared → Prop} {s : Shared} {h₀ : Heap} {L : Addr} {m : Str → Option Value} {env : Env}
/-- the source of a comprehension is a range of any step -/
def SrcS (prog : Program) (w : World) (A : Around) (h₀ : Heap) (L : Addr) (m : Str → Option Value) (env : Env) (elt : PySem.Expr) (x : Str) (scope : Scope) (cl : List (Str × Addr)) (Fin : Shared → List Value → Led → Prop) (xv : Value) (s₁ : Shared) : Prop :=
  ∃ r a b c t u v n news, xv = .ref r ∧ A.handled = none ∧ Fr h₀ L s₁.heap m ∧ News h₀ L s₁.heap news ∧ IsRange s₁.heap r a b c t u v ∧ Builtin.Range.small a b c = true ∧ Builtin.Range.rangeSize a b c = ((n : Nat) : Int) ∧ n ≤ sizeLine ∧
    ∀ s₂ : Shared, (∃ h, s₂ = { s₁ with heap := h }) → CompRest prog w A h₀ L m env elt x scope cl s₂ (fun _ => True) (fun i v => ∃ t, v = .int (a + (i : Int) * c) t) (Fin s₂) n 0 [] news
theorem ListComp_S {elt iter : PySem.Expr} {x : Str} {px : Pos} {scope : Scope} {cl : List (Str × Addr)} {pos : Pos} {Q : Value → Shared → Prop} (F₀ : Fr h₀ L s.heap m)
    (hclos : closureFor scope env = pure cl) (hcell : ∀ y ∈ scope.names, y.2 ≠ .cell) (hkind : scope.kind = .function)
    (hnames : ∀ y ∈ scope.names, y.2 = .local → scope.names.lookup y.1 = some .local) (hx : scope.names.lookup x = some .local)
    (h : wpAny (model prog w) A (eval iter env) (SrcS prog w A h₀ L m env elt x scope cl (fun s₂ => FinE h₀ L m s₂ Q)) E s)
    (hs : ∀ x, foldedSetIterable iter env x = pure x := by intro _; rfl) :
    wpAny (model prog w) A (eval (.ListComp elt [⟨.Name x px, iter, [], 0⟩] scope pos) env) Q E s := by
  rw [eval_ListComp]
  refine wpAny_comprehension_free (use := none) rfl hs hclos hkind hnames (wpAny_mono h (fun xv s₁ h₁ => ?_) fun _ _ e => e)
  obtain ⟨r, a, b, c, t, u, v, n, news, rfl, hh, F, N, hr, hsm, hn, hsz, R⟩ := h₁
  refine wpAny_pyIter_range hr hsm ?_
  have W := Walks.range (prog := prog) (w := w) hh s₁.heap.objs.size a c n
  refine block_U W hsz (fun i h st => ⟨_, st⟩) ?_ hcell hkind hx (by show IsRangeIter _ _ _ _ _; rw [hn]; simpa using Heap.get?_push_size _ rfl) (fun b hb => ?_)
    (F.keeps fun _ _ e => Heap.get?_push_of_some _ e) (N.grown fun _ _ e => Heap.get?_push_of_some _ e) (Nat.ne_of_lt F.ns.lt) (next_is_new F) (fun p hp => Nat.ne_of_lt (Heap.lt_size (N p hp).1)) trivial (R _ ⟨_, rfl⟩) ?_
  · intro i h h' o nw st e e' _ _ _
    have st' : h.get? s₁.heap.objs.size = some _ := st
    show h'.get? s₁.heap.objs.size = some _
    rw [e', ← e]; exact st'
  · rw [List.mem_singleton.mp hb]
    show s₁.heap.objs.size < (s₁.heap.push _).objs.size
    rw [Heap.size_push]; exact Nat.lt_succ_self _
  · intro D C h tk m' ys news' F' N' o1 hn hC₀ hD₀ hCL hDL hCD offC fin
    refine ⟨m', hn, fun h'' hs'' => fin D h'' tk (F'.change hs'' hCL hC₀) (fun p hp => ?_) o1⟩
    refine ⟨hs''.extBut _ _ ?_ (N' p hp).1, (N' p hp).2⟩
    rcases List.mem_cons.mp hp with rfl | hp
    · exact Ne.symm hCD
    · exact offC p hp
end
section
variable {prog : Program} {w : World} {A : Around} {E : Value → Shared → Prop} {s : Shared} {env : Env} {h₀ : Heap} {x : Str} {body : List Stmt} {Q : Flow → Shared → Prop}
/-- a for loop over a range, by what holds between its turns -/
theorem iter_range {r : Addr} {a b c : Int} {t u v : Tok} {n : Nat} {m₀ : Str → Option Value} {news : Led} (J : Nat → (Str → Option Value) → Led → Prop)
    (hh : A.handled = none) (hr : IsRange s.heap r a b c t u v) (hsm : Builtin.Range.small a b c = true) (hn : Builtin.Range.rangeSize a b c = ((n : Nat) : Int)) (F : Fr h₀ env.locals s.heap m₀) (N : News h₀ env.locals s.heap news) (hj : J 0 m₀ news)
    (turn : ∀ i t m₁ nx h tk I oI, i < n → J i m₁ nx → (∀ p ∈ nx, p.1 ≠ I) → Fr h₀ env.locals h (fun y => if y = x then some (.int (a + (i : Int) * c) t) else m₁ y) → News h₀ env.locals h ((I, oI) :: nx) →
      wpAny (model prog w) A (execs body env) (TurnE h₀ env.locals (J (i + 1)) I oI { s with heap := h, toks := tk } Q) E { s with heap := h, toks := tk })
    (done : ∀ m₁ nx h tk, J n m₁ nx → Fr h₀ env.locals h m₁ → News h₀ env.locals h nx → Q .next { s with heap := h, toks := tk }) :
    wpAny (model prog w) A (pyIter (.ref r)) (fun it s₂ => LoopAtV prog w A h₀ env x body Q E it s₂) E s := by
  refine wpAny_pyIter_range hr hsm ?_
  have W := Walks.range (prog := prog) (w := w) hh s.heap.objs.size a c n
  refine ⟨_, _, _, n, _, _, m₀, news, J, rfl, W, ?_, ?_, ?_, (by show IsRangeIter _ _ _ _ _; rw [hn]; simpa using Heap.get?_push_size _ rfl), F.push _, (fun p hp => ⟨Heap.get?_push_of_some _ (N p hp).1, (N p hp).2⟩), hj, ?_, ?_⟩
  · intro hm
    exact absurd F.ns.lt ((List.mem_singleton.mp hm) ▸ Nat.lt_irrefl _)
  · intro b hb
    rw [List.mem_singleton.mp hb]
    exact next_is_new F
  · intro p hp hI
    exact absurd (Heap.lt_size (N p hp).1) ((List.mem_singleton.mp hI) ▸ Nat.lt_irrefl _)
  · rintro i v m₁ news₁ s₁ own ⟨hh', tk', rfl⟩ hin ⟨t', rfl⟩ hJ hoff hown hget hmem hst F₁ N₁
    obtain ⟨oi, hoi⟩ : ∃ oi, hh'.get? s.heap.objs.size = some oi := ⟨_, hst⟩
    have hI : (s.heap.objs.size, oi) ∈ own := hmem _ (.head _) (next_is_new F) oi hoi
    have N₂ : News h₀ env.locals hh' ((s.heap.objs.size, oi) :: news₁) := fun p hp => by
      rcases List.mem_cons.mp hp with rfl | hp
      · exact N₁ _ (List.mem_append_left _ hI)
      · exact N₁ _ (List.mem_append_right _ hp)
    have hoff' : ∀ p ∈ news₁, p.1 ≠ s.heap.objs.size := fun p hp e => hoff p hp (List.mem_singleton.mpr e)
    refine wpAny_mono (turn i t' m₁ news₁ hh' tk' _ oi hin hJ hoff' F₁ N₂) (fun f s₂ p => ?_) fun _ _ e => e
    have fin : (∃ h' tk m' nx, s₂ = { s with heap := h', toks := tk } ∧ Fr h₀ env.locals h' m' ∧ News h₀ env.locals h' ((s.heap.objs.size, oi) :: nx) ∧ (∀ p ∈ nx, p.1 ≠ s.heap.objs.size) ∧ J (i + 1) m' nx) →
        LoopStepU h₀ env.locals [s.heap.objs.size] own (J (i + 1)) { s with heap := hh', toks := tk' } .next s₂ := by
      rintro ⟨h', tk, m', nx, rfl, F', N', hn', hJ'⟩
      refine ⟨rfl, h', tk, m', nx, rfl, F', fun q hq => ?_, fun q hq he => hn' q hq (List.mem_singleton.mp he), hJ'⟩
      rcases List.mem_append.mp hq with hq | hq
      · have hq0 := N₁ q (List.mem_append_left _ hq)
        have e := List.mem_singleton.mp (hown q hq)
        have e2 : q.2 = oi := by
          have h1 := hq0.1
          rw [e] at h1
          have h2 := hoi
          rw [h1] at h2
          exact Option.some.inj h2
        have e3 : q = (s.heap.objs.size, oi) := Prod.ext e e2
        rw [e3]
        exact N' _ (.head _)
      · exact N' q (.tail _ hq)
    cases f with
    | ret v => exact .ret p
    | brk => exact .brk p
    | next => exact .next (fin p)
    | cont => exact .cont (fin p)
  · rintro h' tk m' news' F' N' _ hJ
    exact done m' news' h' tk hJ F' N'
end
theorem range_in {a b c : Int} {n i : Nat} (hc : 0 < c) (hn : Builtin.Range.rangeSize a b c = (n : Int)) (hi : i < n) : a + (i : Int) * c < b := by
  unfold Builtin.Range.rangeSize at hn
  rw [if_pos hc] at hn
  split at hn
  · have h1 : (i : Int) ≤ (b - a - 1) / c := by omega
    have h2 := Int.mul_le_of_le_ediv hc h1
    omega
  · omega
theorem range_len {a b c : Int} (hc : 0 < c) (ha : 0 ≤ a) (hb : b ≤ 100) : ∃ n : Nat, Builtin.Range.rangeSize a b c = (n : Int) ∧ n ≤ 100 := by
  unfold Builtin.Range.rangeSize
  rw [if_pos hc]
  split
  · rename_i hab
    have h0 : 0 ≤ (b - a - 1) / c := Int.ediv_nonneg (by omega) (by omega)
    have h1 : (b - a - 1) / c ≤ b - a - 1 := Int.ediv_le_self _ (by omega)
    exact ⟨((b - a - 1) / c + 1).toNat, by omega, by omega⟩
  · exact ⟨0, rfl, by omega⟩
theorem range_small {a b c : Int} (hc : 0 < c) (hc2 : c ≤ 100) (ha : 0 ≤ a) (ha2 : a ≤ 100) (hb : 0 ≤ b) (hb2 : b ≤ 100) : Builtin.Range.small a b c = true := by
  obtain ⟨n, hn, hn2⟩ := range_len hc ha hb2
  unfold Builtin.Range.small
  rw [hn]
  simp only [Builtin.Range.rangeFitsLong, Bool.and_eq_true, Bool.or_eq_true, decide_eq_true_eq, beq_iff_eq]
  rw [if_pos hc]
  simp only [Bool.and_eq_true, decide_eq_true_eq]
  refine ⟨⟨⟨⟨⟨?_, ?_⟩, ?_, ?_⟩, ?_, ?_⟩, ?_, ?_⟩, .inr ⟨?_, ?_⟩⟩ <;> omega
theorem range_down {a : Nat} (ha : a ≤ 100) : Builtin.Range.rangeSize (a : Int) 0 (-1) = ((a : Nat) : Int) ∧ Builtin.Range.small (a : Int) 0 (-1) = true := by
  have h1 : Builtin.Range.rangeSize (a : Int) 0 (-1) = ((a : Nat) : Int) := by
    rw [rangeSize_downNat]; omega
  refine ⟨h1, ?_⟩
  unfold Builtin.Range.small
  rw [h1]
  simp only [Builtin.Range.rangeFitsLong, Bool.and_eq_true, Bool.or_eq_true, decide_eq_true_eq, beq_iff_eq]
  rw [if_neg (by decide)]
  simp only [Bool.and_eq_true, decide_eq_true_eq]
  refine ⟨⟨⟨⟨⟨?_, ?_⟩, ?_, ?_⟩, ?_, ?_⟩, ?_, ?_⟩, .inr ⟨?_, ?_⟩⟩ <;> omega
/-- all are texts -/
def allStr : List Value → Bool
  | [] => true
  | .str _ _ :: r => allStr r
  | _ => false
theorem allStr_at : ∀ {vs : List Value}, allStr vs = true → ∀ {v : Value}, v ∈ vs → ∃ x t, v = .str x t
  | [], _, _, h => nomatch h
  | .str x t :: r, hs, v, h => by
    rcases List.mem_cons.mp h with rfl | h
    · exact ⟨x, t, rfl⟩
    · exact allStr_at (vs := r) hs h
section
variable {prog : Program} {w : World} {A : Around} {E : Value → Shared → Prop} {s : Shared} {h₀ : Heap} {L a : Addr} {news : Led} {vs : List Value} {n : Nat} {value slice : PySem.Expr} {Q : Value → Shared → Prop}
/-- one of a menu of texts -/
theorem item_menu {c m : Int} {u : Tok} (N : News h₀ L s.heap news) (hm : (a, lstO vs n) ∈ news) (hs' : allStr vs = true) (h0 : 0 < m) (h1 : m ≤ vs.length) (hz : vs.length ≤ 100) (h : ∀ x t, Value.str x t ∈ vs → Q (.str x t) s)
    (hs : ∀ k : Int, subscripted slice false (.ref a) (.int k u) = operate [.ref a, .int k u] (getItem (.ref a) (.int k u))) :
    wpAny (model prog w) A (subscriptTail value slice (.ref a) (.int (Int.fmod c m) u)) Q E s := by
  have k0 := Int.fmod_nonneg_of_pos c h0
  have k1 := Int.fmod_lt_of_pos c h0
  have hlt : (Int.fmod c m).toNat < vs.length := by omega
  have hx : vs[(Int.fmod c m).toNat]? = some vs[(Int.fmod c m).toNat] := List.getElem?_eq_getElem hlt
  obtain ⟨y, t, hy⟩ := allStr_at hs' (List.mem_of_getElem? hx)
  rw [hy] at hx
  exact item_lst N hm k0 (by omega) hx (h y t (List.mem_of_getElem? hx)) (hs _)
end
end
section
/-- a node of the drawn trees, as it lies in the heap -/
structure R where
  a : Addr
  l : Addr
  nm : Str
  tk : Tok
  n1 : Nat
  n2 : Nat
  kids : List Value
def ledR (r : R) : Led := [(r.a, tupO [.str r.nm r.tk, .ref r.l] r.n1), (r.l, lstO r.kids r.n2)]
def ledAll : List R → Led
  | [] => []
  | r :: rs => (r.a, tupO [.str r.nm r.tk, .ref r.l] r.n1) :: (r.l, lstO r.kids r.n2) :: ledAll rs
theorem ledAll_append : ∀ (x y : List R), ledAll (x ++ y) = ledAll x ++ ledAll y
  | [], _ => rfl
  | r :: x, y => by simp only [List.cons_append, ledAll, ledAll_append x y]
theorem ledAll_mem : ∀ {rs : List R} {p : Nat} {r : R}, rs[p]? = some r → (r.a, tupO [.str r.nm r.tk, .ref r.l] r.n1) ∈ ledAll rs ∧ (r.l, lstO r.kids r.n2) ∈ ledAll rs
  | [], p, r, h => by simp at h
  | q :: rs, 0, r, h => by simp at h; subst h; exact ⟨.head _, .tail _ (.head _)⟩
  | q :: rs, p + 1, r, h => by
    have := ledAll_mem (rs := rs) (p := p) (r := r) (by simpa using h)
    exact ⟨.tail _ (.tail _ this.1), .tail _ (.tail _ this.2)⟩
theorem ledAll_sub : ∀ {rs : List R} {k : Nat} {q : Addr × Obj}, q ∈ ledAll (rs.drop k) → q ∈ ledAll rs
  | rs, 0, q, h => h
  | [], k + 1, q, h => by simpa using h
  | r :: rs, k + 1, q, h => .tail _ (.tail _ (ledAll_sub (rs := rs) (k := k) (by simpa using h)))
theorem ledAll_sub1 {rs : List R} {k : Nat} {q : Addr × Obj} (h : q ∈ ledAll (rs.drop (k + 1))) : q ∈ ledAll (rs.drop k) := by
  have : rs.drop (k + 1) = (rs.drop k).drop 1 := by rw [List.drop_drop]
  rw [this] at h
  exact ledAll_sub h
theorem take_drop_at {α : Type} : ∀ {rs : List α} {p : Nat} {r : α}, rs[p]? = some r → rs = rs.take p ++ r :: rs.drop (p + 1)
  | [], p, r, h => by simp at h
  | q :: rs, 0, r, h => by simp at h; subst h; rfl
  | q :: rs, p + 1, r, h => by
    have := take_drop_at (rs := rs) (p := p) (r := r) (by simpa using h)
    simp only [List.take_succ_cons, List.drop_succ_cons, List.cons_append]
    rw [← this]
theorem set_at {α : Type} : ∀ {rs : List α} {p : Nat} {r x : α}, rs[p]? = some r → rs.set p x = rs.take p ++ x :: rs.drop (p + 1)
  | [], p, r, x, h => by simp at h
  | q :: rs, 0, r, x, h => rfl
  | q :: rs, p + 1, r, x, h => by
    have := set_at (rs := rs) (p := p) (r := r) (x := x) (by simpa using h)
    simp only [List.set_cons_succ, List.take_succ_cons, List.drop_succ_cons, List.cons_append, this]
def R.push (r : R) (v : Value) (n : Nat) : R := { r with kids := r.kids ++ [v], n2 := n }
def T.name : T → Str
  | .node n _ => n
def T.kids : T → List T
  | .node _ ks => ks
def addKid : T → T → T
  | .node n ks, k => .node n (ks ++ [k])
theorem sizes_append : ∀ x y : List T, sizes (x ++ y) = sizes x + sizes y
  | [], y => by rw [List.nil_append, sizes, Nat.zero_add]
  | t :: x, y => by rw [List.cons_append, sizes, sizes, sizes_append x y, Nat.add_assoc]
theorem addKid_size (t k : T) : (addKid t k).size = t.size + k.size := by
  cases t with
  | node n ks => rw [addKid, T.size, T.size, sizes_append, sizes, sizes]; omega
mutual
/-- every name is one of the menu -/
def Named (ns : List Str) : T → Prop
  | .node n ks => n ∈ ns ∧ Nameds ns ks
def Nameds (ns : List Str) : List T → Prop
  | [] => True
  | k :: r => Named ns k ∧ Nameds ns r
end
theorem nameds_append {ns : List Str} : ∀ {x y : List T}, Nameds ns x → Nameds ns y → Nameds ns (x ++ y)
  | [], _, _, h => h
  | t :: x, y, h1, h => by
    rw [Nameds] at h1
    rw [List.cons_append, Nameds]
    exact ⟨h1.1, nameds_append h1.2 h⟩
theorem addKid_named {ns : List Str} {t k : T} (h1 : Named ns t) (h2 : Named ns k) : Named ns (addKid t k) := by
  cases t with
  | node n ks =>
    rw [Named] at h1
    rw [addKid, Named]
    refine ⟨h1.1, nameds_append h1.2 ?_⟩
    rw [Nameds, Nameds]
    exact ⟨h2, trivial⟩
/-- the heap's nodes bear the trees, every node past k hung up -/
structure Hung (ns : List Str) (N k : Nat) (rs : List R) (ts : List T) : Prop where
  len : rs.length = N
  len2 : ts.length = N
  at' : ∀ (j : Nat) (r : R), rs[j]? = some r → ∃ ks : List T, ts[j]? = some (T.node r.nm ks) ∧ ForestIn (ledAll (rs.drop (k + 1))) r.kids ks
  named : ∀ t ∈ ts, Named ns t
  sum : sizes (ts.take (k + 1)) = N
  small : ∀ t ∈ ts, t.size ≤ N
theorem size_le_sizes {t : T} : ∀ {ts : List T}, t ∈ ts → t.size ≤ sizes ts
  | [], h => nomatch h
  | u :: ts, h => by
    rw [sizes]
    rcases List.mem_cons.mp h with rfl | h
    · omega
    · have := size_le_sizes h; omega
theorem Hung.step {ns : List Str} {N k p n : Nat} {rs : List R} {ts : List T} (h : Hung ns N (k + 1) rs ts) (hp : p < k + 1) (hk : k + 1 < N) {rp rk : R} (hrp : rs[p]? = some rp) (hrk : rs[k + 1]? = some rk) :
    ∃ tp tk, ts[p]? = some tp ∧ ts[k + 1]? = some tk ∧ Hung ns N k (rs.set p (rp.push (.ref rk.a) n)) (ts.set p (addKid tp tk)) := by
  obtain ⟨ksp, htp, hfp⟩ := h.at' p rp hrp
  obtain ⟨ksk, htk, hfk⟩ := h.at' (k + 1) rk hrk
  refine ⟨_, _, htp, htk, by simp [h.len], by simp [h.len2], ?_, ?_, ?_, ?_⟩
  · intro j r hj
    have hdrop : (rs.set p (rp.push (.ref rk.a) n)).drop (k + 1) = rs.drop (k + 1) := by
      rw [List.drop_set_of_lt hp]
    rw [hdrop]
    have mono : ∀ {vs : List Value} {us : List T}, ForestIn (ledAll (rs.drop (k + 1 + 1))) vs us → ForestIn (ledAll (rs.drop (k + 1))) vs us := fun hf => hf.mono fun q hq => ledAll_sub1 hq
    by_cases hjp : j = p
    · subst hjp
      have hlt : j < rs.length := by
        obtain ⟨hlt, _⟩ := List.getElem?_eq_some_iff.mp hrp
        exact hlt
      rw [List.getElem?_set_self hlt] at hj
      cases hj
      have hlt2 : j < ts.length := by rw [h.len2, ← h.len]; exact hlt
      refine ⟨ksp ++ [.node rk.nm ksk], by rw [List.getElem?_set_self hlt2]; rfl, (mono hfp).snoc ?_⟩
      have hm : (rs.drop (k + 1))[0]? = some rk := by simpa using hrk
      exact .node (ledAll_mem hm).1 (ledAll_mem hm).2 (mono hfk)
    · rw [List.getElem?_set_ne (Ne.symm hjp)] at hj
      obtain ⟨ks, ht, hf⟩ := h.at' j r hj
      exact ⟨ks, by rw [List.getElem?_set_ne (Ne.symm hjp)]; exact ht, mono hf⟩
  · intro t ht
    rcases List.mem_or_eq_of_mem_set ht with ht | rfl
    · exact h.named t ht
    · exact addKid_named (h.named _ (List.mem_of_getElem? htp)) (h.named _ (List.mem_of_getElem? htk))
  · have hs := h.sum
    rw [take_snoc htk, sizes_append] at hs
    have hp2 : (ts.take (k + 1))[p]? = some (.node rp.nm ksp) := by rw [List.getElem?_take_of_lt hp]; exact htp
    rw [List.take_set, set_at hp2, sizes_append, sizes, addKid_size]
    have e := congrArg sizes (take_drop_at hp2)
    rw [sizes_append, sizes] at e
    rw [sizes, sizes] at hs
    omega
  · intro t ht
    rcases List.mem_or_eq_of_mem_set ht with ht | rfl
    · exact h.small t ht
    · have hs := h.sum
      rw [take_snoc htk, sizes_append, sizes, sizes] at hs
      have hp2 : (ts.take (k + 1))[p]? = some (.node rp.nm ksp) := by rw [List.getElem?_take_of_lt hp]; exact htp
      have := size_le_sizes (List.mem_of_getElem? hp2)
      rw [addKid_size]; omega
theorem Hung.tree {ns : List Str} {N : Nat} {rs : List R} {ts : List T} (h : Hung ns N 0 rs ts) {j : Nat} {r : R} (hj : rs[j]? = some r) : ∃ t, ts[j]? = some t ∧ TreeIn (ledAll rs) (.ref r.a) t := by
  obtain ⟨ks, ht, hf⟩ := h.at' j r hj
  exact ⟨_, ht, .node (ledAll_mem hj).1 (ledAll_mem hj).2 (hf.mono fun q hq => ledAll_sub hq)⟩
def upL : List Str := [Str.ofString "5", Str.ofString "6", Str.ofString "4", Str.ofString "5", Str.ofString "3", Str.ofString "4", Str.ofString "2", Str.ofString "3", Str.ofString "1", Str.ofString "2", Str.ofString "\n", Str.ofString "1"]
def downL : List Str := [Str.ofString "1", Str.ofString "\n", Str.ofString "2", Str.ofString "1", Str.ofString "3", Str.ofString "2", Str.ofString "4", Str.ofString "3", Str.ofString "5", Str.ofString "4", Str.ofString "6", Str.ofString "5"]
def namesL : List Str := [Str.ofString "a", Str.ofString "a b", Str.ofString "é"]
def padsL : List Str := [Str.ofString "", Str.ofString " ", Str.ofString " \t "]
def edgesL : List Str := [Str.ofString "", Str.ofString " ", Str.ofString "\n", Str.ofString "\t\n\n"]
theorem mem_app {A Bs : Led} {e q : Addr × Obj} (h : q ∈ Bs) : q ∈ A ++ e :: Bs := List.mem_append_right _ (.tail _ h)
theorem regroup {h₀ h : Heap} {L a1 a2 a3 a4 a5 D : Addr} {v1 v2 v3 v4 v5 ys : List Value} {o1 o2 o3 o4 o5 : Obj} {ps : Array Value}
    (N : News h₀ L h [(a1, lstO v1 0), (a2, lstO v2 0), (a3, lstO v3 0), (a4, lstO v4 0), (a5, lstO v5 0), (D, lstO ys ys.length), (L + 1 + 1 + 1 + 1 + 1, o5), (L + 1 + 1 + 1 + 1, o4), (L + 1 + 1 + 1, o3), (L + 1 + 1, o2), (L + 1, o1), (37, tabObj ps)])
    (e5 : 37 < a5) (e4 : a5 < a4) (e3 : a4 < a3) (e2 : a3 < a2) (e1 : a2 < a1) (eD : (37 : Nat) ≠ D) (eL : 37 < L) :
    ∃ Bs : Led, News h₀ L h ((37, tabObj ps) :: Bs) ∧ (∀ q ∈ Bs, q.1 ≠ 37) ∧ (a1, lstO v1 0) ∈ Bs ∧ (a2, lstO v2 0) ∈ Bs ∧ (a5, lstO v5 0) ∈ Bs ∧ (D, lstO ys ys.length) ∈ Bs ∧ (L + 1 + 1 + 1 + 1 + 1, o5) ∈ Bs ∧ (L + 1 + 1 + 1 + 1, o4) ∈ Bs ∧ (L + 1 + 1 + 1, o3) ∈ Bs ∧ (L + 1 + 1, o2) ∈ Bs := by
  have f4 := Nat.lt_trans e5 e4
  have f3 := Nat.lt_trans f4 e3
  have f2 := Nat.lt_trans f3 e2
  have f1 := Nat.lt_trans f2 e1
  have g1 : 37 < L + 1 := Nat.lt_succ_of_lt eL
  have g2 : 37 < L + 1 + 1 := Nat.lt_succ_of_lt g1
  have g3 : 37 < L + 1 + 1 + 1 := Nat.lt_succ_of_lt g2
  have g4 : 37 < L + 1 + 1 + 1 + 1 := Nat.lt_succ_of_lt g3
  have g5 : 37 < L + 1 + 1 + 1 + 1 + 1 := Nat.lt_succ_of_lt g4
  refine ⟨[(a1, lstO v1 0), (a2, lstO v2 0), (a3, lstO v3 0), (a4, lstO v4 0), (a5, lstO v5 0), (D, lstO ys ys.length), (L + 1 + 1 + 1 + 1 + 1, o5), (L + 1 + 1 + 1 + 1, o4), (L + 1 + 1 + 1, o3), (L + 1 + 1, o2), (L + 1, o1)], news_sub N ?_, ?_, ?_⟩
  · intro p hp
    rcases List.mem_cons.mp hp with rfl | hp
    · exact .tail _ (.tail _ (.tail _ (.tail _ (.tail _ (.tail _ (.tail _ (.tail _ (.tail _ (.tail _ (.tail _ (.head _)))))))))))
    · exact List.mem_append_left [(37, tabObj ps)] hp
  · clear N
    refine offC (P := fun q => q.1 ≠ 37) (Nat.ne_of_gt f1) (offC (P := fun q => q.1 ≠ 37) (Nat.ne_of_gt f2) (offC (P := fun q => q.1 ≠ 37) (Nat.ne_of_gt f3) (offC (P := fun q => q.1 ≠ 37) (Nat.ne_of_gt f4) (offC (P := fun q => q.1 ≠ 37) (Nat.ne_of_gt e5) (offC (P := fun q => q.1 ≠ 37) (Ne.symm eD) (offC (P := fun q => q.1 ≠ 37) (Nat.ne_of_gt g5) (offC (P := fun q => q.1 ≠ 37) (Nat.ne_of_gt g4) (offC (P := fun q => q.1 ≠ 37) (Nat.ne_of_gt g3) (offC (P := fun q => q.1 ≠ 37) (Nat.ne_of_gt g2) (offC (P := fun q => q.1 ≠ 37) (Nat.ne_of_gt g1) (fun _ h => nomatch h)))))))))))
  · simp only [List.mem_cons, true_or, or_true, and_self]
theorem ints_at {vs : List Value} {ns : List Int} (h : IntsAre vs ns) : ∀ {i : Nat} {v : Value}, vs[i]? = some v → ∃ n t, v = .int n t ∧ ns[i]? = some n := by
  induction h with
  | nil => intro i v h; simp at h
  | cons n t _ ih =>
    intro i v h
    cases i with
    | zero => simp at h; subst h; exact ⟨n, t, rfl, rfl⟩
    | succ i => exact ih (i := i) (by simpa using h)
/-- the nodes' places stand apart from one another -/
def SepR (rs : List R) : Prop := (ledAll rs).Pairwise fun p q => p.1 ≠ q.1
theorem SepR.nil : SepR [] := List.Pairwise.nil
theorem SepR.snoc {rs : List R} (h : SepR rs) {r : R} (h1 : ∀ q ∈ ledAll rs, q.1 < r.a) (h2 : ∀ q ∈ ledAll rs, q.1 < r.l) (h3 : r.l < r.a) : SepR (rs ++ [r]) := by
  unfold SepR
  rw [ledAll_append, List.pairwise_append]
  refine ⟨h, ?_, ?_⟩
  · simp only [ledAll, List.pairwise_cons, List.mem_cons, List.mem_nil_iff, or_false, forall_eq, false_imp_iff, implies_true, List.Pairwise.nil, and_true]
    exact Nat.ne_of_gt h3
  · intro p hp q hq
    simp only [ledAll, List.mem_cons, List.mem_nil_iff, or_false] at hq
    rcases hq with rfl | rfl
    · exact Nat.ne_of_lt (h1 p hp)
    · exact Nat.ne_of_lt (h2 p hp)
end
section
open LCg
theorem clr (a b c d e f k m n s t v w z x y l i j p q r u N F X T A B D U C S E Q k1 k2 k3 k4 k5 k6 k7 k8 k9 h : True) : True := trivial
theorem off1_mem {D : Addr} : ∀ {l : Led}, Off1 D l → ∀ p ∈ l, p.1 ≠ D
  | [], _, p, hp => nomatch hp
  | q :: r, h, p, hp => by
    rcases List.mem_cons.mp hp with rfl | hp
    · exact h.1
    · exact off1_mem h.2 p hp
theorem ne_tups {prog : Program} {w : World} {A : Around} {E Q : Value → Shared → Prop} {s : Shared} {h₀ : Heap} {L a b : Addr} {news : Led} {x y : Str} {t1 t2 u1 u2 : Tok} {n m : Nat} (N : News h₀ L s.heap news) (ha : (a, tupO [.str x t1, .str y t2] n) ∈ news) (hb : (b, tupO [.str x u1, .str y u2] m) ∈ news) (hx : PyData.strOk x = true) (hy : PyData.strOk y = true) (hu : A.units + 64 < cLine) (h : Q (.bool false) s) :
    wpAny (model prog w) A (compareOp .NotEq (.ref a) (.ref b)) Q E s := by
  refine ne_dataH (reads_tuple_at (News.get N ha) rfl rfl (.cons (.str _ _) (.cons (.str _ _) .nil))) (reads_tuple_at (News.get N hb) rfl rfl (.cons (.str _ _) (.cons (.str _ _) .nil))) (by simp [SeqAt.shaped, PyData.canLay0, PyData.canLayAll0, PyData.depth, PyData.depthAll, hx, hy]) (by simp [SeqAt.shaped, PyData.canLay0, PyData.canLayAll0, PyData.depth, PyData.depthAll, hx, hy]) hu ?_
  simp only [PyData.eqv, PyData.eqvAll, beq_self_eq_true, Bool.and_true, Bool.not_true, decide_true]
  exact h
theorem trees_step {I C D D9 l9 : Addr} {x : Str} {t k1 k2 k3 : Tok} {oI oC oD : Obj} {rs : List R} {A Xl : Led} (hXl : Xl = ledAll rs ++ A) (off : Off3 I C D Xl) (lt1 : I < l9 ∧ C < l9 ∧ D < l9 ∧ AllLt l9 Xl) (lt2 : l9 < D9 ∧ I < D9 ∧ C < D9 ∧ D < D9 ∧ AllLt D9 Xl)
    (hM : Value.str x t ∈ [Value.str (Str.ofString "a") k1, Value.str (Str.ofString "a b") k2, Value.str (Str.ofString "é") k3]) (hkid : ∀ r ∈ rs, r.kids = [] ∧ r.nm ∈ namesL) (hsep : SepR rs) (hap : ∀ q ∈ ledAll rs, ∀ p ∈ A, q.1 ≠ p.1) :
    (∀ p ∈ (I, oI) :: (C, oC) :: (D, oD) :: (ledAll (rs ++ [⟨D9, l9, x, t, 0, 0, []⟩]) ++ A), p ∈ (D9, tupO [.str x t, .ref l9] 0) :: (l9, lstO [] 0) :: (I, oI) :: (C, oC) :: (D, oD) :: Xl) ∧
    Off3 I C D (ledAll (rs ++ [⟨D9, l9, x, t, 0, 0, []⟩]) ++ A) ∧ (∀ r ∈ rs ++ [⟨D9, l9, x, t, 0, 0, []⟩], r.kids = [] ∧ r.nm ∈ namesL) ∧ SepR (rs ++ [⟨D9, l9, x, t, 0, 0, []⟩]) ∧ (∀ q ∈ ledAll (rs ++ [⟨D9, l9, x, t, 0, 0, []⟩]), ∀ p ∈ A, q.1 ≠ p.1) := by
  have e9 : ledAll [⟨D9, l9, x, t, 0, 0, []⟩] = [(D9, tupO [.str x t, .ref l9] 0), (l9, lstO [] 0)] := rfl
  have g1 : ∀ q ∈ Xl, q.1 < l9 := ktn_ltOf lt1.2.2.2
  have g2 : ∀ q ∈ Xl, q.1 < D9 := ktn_ltOf lt2.2.2.2.2
  have mX : ∀ q ∈ ledAll rs, q ∈ Xl := fun q hq => hXl ▸ List.mem_append_left _ hq
  have mA : ∀ q ∈ A, q ∈ Xl := fun q hq => hXl ▸ List.mem_append_right _ hq
  refine ⟨?_, ?_, ?_, ?_, ?_⟩
  · intro p hp
    rw [ledAll_append, e9] at hp
    rw [hXl]
    simp only [List.mem_cons, List.mem_append, List.mem_nil_iff, or_false] at hp ⊢
    rcases hp with hp | hp | hp | (hp | hp | hp) | hp <;> simp only [hp, true_or, or_true]
  · refine Off3.of fun q hq => ?_
    rw [ledAll_append, e9] at hq
    simp only [List.mem_cons, List.mem_append, List.mem_nil_iff, or_false] at hq
    rcases hq with (hq | rfl | rfl) | hq
    · exact Off3.mem off q (mX q hq)
    · exact ⟨Nat.ne_of_gt lt2.2.1, Nat.ne_of_gt lt2.2.2.1, Nat.ne_of_gt lt2.2.2.2.1⟩
    · exact ⟨Nat.ne_of_gt lt1.1, Nat.ne_of_gt lt1.2.1, Nat.ne_of_gt lt1.2.2.1⟩
    · exact Off3.mem off q (mA q hq)
  · intro r hr
    rcases List.mem_append.mp hr with hr | hr
    · exact hkid r hr
    · rw [List.mem_singleton.mp hr]
      refine ⟨rfl, ?_⟩
      show x ∈ namesL
      simp only [List.mem_cons, Value.str.injEq, List.mem_nil_iff, or_false] at hM
      rcases hM with ⟨rfl, _⟩ | ⟨rfl, _⟩ | ⟨rfl, _⟩
      · exact .head _
      · exact .tail _ (.head _)
      · exact .tail _ (.tail _ (.head _))
  · exact hsep.snoc (fun q hq => g2 q (mX q hq)) (fun q hq => g1 q (mX q hq)) lt2.1
  · intro q hq p hp
    rw [ledAll_append, e9] at hq
    simp only [List.mem_cons, List.mem_append, List.mem_nil_iff, or_false] at hq
    rcases hq with hq | rfl | rfl
    · exact hap q hq p hp
    · exact Nat.ne_of_gt (g2 p (mA p hp))
    · exact Nat.ne_of_gt (g1 p (mA p hp))
theorem led_push {rs : List R} {p : Nat} {r : R} (h : rs[p]? = some r) (v : Value) (n : Nat) (hsep : SepR rs) :
    ∃ pre post : Led, ledAll rs = pre ++ (r.l, lstO r.kids r.n2) :: post ∧ ledAll (rs.set p (r.push v n)) = pre ++ (r.l, lstO (r.kids ++ [v]) n) :: post ∧ (∀ q ∈ pre, q.1 ≠ r.l) ∧ (∀ q ∈ post, q.1 ≠ r.l) ∧ SepR (rs.set p (r.push v n)) := by
  have e1 : ledAll rs = (ledAll (rs.take p) ++ [(r.a, tupO [.str r.nm r.tk, .ref r.l] r.n1)]) ++ (r.l, lstO r.kids r.n2) :: ledAll (rs.drop (p + 1)) := by
    conv => lhs; rw [take_drop_at h]
    rw [ledAll_append, ledAll, List.append_assoc]; rfl
  have e2 : ledAll (rs.set p (r.push v n)) = (ledAll (rs.take p) ++ [(r.a, tupO [.str r.nm r.tk, .ref r.l] r.n1)]) ++ (r.l, lstO (r.kids ++ [v]) n) :: ledAll (rs.drop (p + 1)) := by
    rw [set_at h, ledAll_append, ledAll, List.append_assoc]; rfl
  refine ⟨_, _, e1, e2, ?_, ?_, ?_⟩
  · unfold SepR at hsep
    rw [e1, List.pairwise_append] at hsep
    exact fun q hq => hsep.2.2 q hq _ (.head _)
  · unfold SepR at hsep
    rw [e1, List.pairwise_append, List.pairwise_cons] at hsep
    exact fun q hq => (hsep.2.1.1 q hq).symm
  · unfold SepR at hsep ⊢
    rw [e1] at hsep
    rw [e2]
    rw [List.pairwise_append, List.pairwise_cons] at hsep ⊢
    refine ⟨hsep.1, ⟨fun q hq => hsep.2.1.1 q hq, hsep.2.1.2⟩, fun q hq p hp => ?_⟩
    rcases List.mem_cons.mp hp with rfl | hp
    · exact hsep.2.2 q hq (r.l, lstO r.kids r.n2) (.head _)
    · exact hsep.2.2 q hq p (.tail _ hp)
theorem led_same {P : Addr → Prop} {rs : List R} {p : Nat} {r : R} (h : rs[p]? = some r) (v : Value) (n : Nat) (k : ∀ q ∈ ledAll rs, P q.1) : ∀ q ∈ ledAll (rs.set p (r.push v n)), P q.1 := by
  intro q hq
  rw [set_at h, ledAll_append, ledAll] at hq
  rw [take_drop_at h, ledAll_append, ledAll] at k
  simp only [List.mem_append, List.mem_cons] at hq
  rcases hq with hq | rfl | rfl | hq
  · exact k q (List.mem_append_left _ hq)
  · exact k (r.a, tupO [.str r.nm r.tk, .ref r.l] r.n1) (List.mem_append_right _ (.head _))
  · exact k (r.l, lstO r.kids r.n2) (List.mem_append_right _ (.tail _ (.head _)))
  · exact k q (List.mem_append_right _ (.tail _ (.tail _ hq)))
theorem push_map {rs : List R} {p : Nat} {r : R} (h : rs[p]? = some r) (v : Value) (n : Nat) : (rs.set p (r.push v n)).map (fun r => Value.ref r.a) = rs.map (fun r => Value.ref r.a) := by
  rw [set_at h]
  conv => rhs; rw [take_drop_at h]
  rw [List.map_append, List.map_append]; rfl
theorem Hung.kids_len {ns : List Str} {N k : Nat} {rs : List R} {ts : List T} (h : Hung ns N k rs ts) {p : Nat} {r : R} (hr : rs[p]? = some r) : r.kids.length ≤ N := by
  obtain ⟨ks, ht, hf⟩ := h.at' p r hr
  have h1 := h.small _ (List.mem_of_getElem? ht)
  have h2 := len_le_sizes ks
  rw [T.size] at h1
  rw [hf.len]; omega
/-- the drawn trees, before any is hung up -/
def leafs (rs : List R) : List T := rs.map fun r => .node r.nm []
theorem sizes_leafs : ∀ rs : List R, sizes (leafs rs) = rs.length
  | [] => rfl
  | r :: rs => by
    have := sizes_leafs rs
    rw [List.length_cons]
    show sizes (.node r.nm [] :: leafs rs) = _
    rw [sizes, T.size, sizes, this]; omega
theorem Hung.start {rs : List R} {z : Nat} (hz : rs.length = z) (h1 : 1 ≤ z) (hkid : ∀ r ∈ rs, r.kids = [] ∧ r.nm ∈ namesL) : Hung namesL z (z - 1) rs (leafs rs) where
  len := hz
  len2 := by rw [leafs, List.length_map, hz]
  at' := fun j r hj => by
    refine ⟨[], ?_, ?_⟩
    · rw [leafs, List.getElem?_map, hj]; rfl
    · rw [(hkid r (List.mem_of_getElem? hj)).1]; exact .nil
  named := fun t ht => by
    obtain ⟨r, hr, rfl⟩ := List.mem_map.mp ht
    rw [Named, Nameds]
    exact ⟨(hkid r hr).2, trivial⟩
  sum := by
    rw [List.take_of_length_le (by rw [leafs, List.length_map]; omega), sizes_leafs, hz]
  small := fun t ht => by
    obtain ⟨r, hr, rfl⟩ := List.mem_map.mp ht
    rw [T.size, sizes]; omega
/-- the names that the law's loops read -/
structure LF (m : Str → Option Value) (aCells aTrees aDown : Addr) (edgev : Str) (edget : Tok) : Prop where
  cells : m (Str.ofString "cells") = some (.ref aCells)
  trees : m (Str.ofString "trees") = some (.ref aTrees)
  down : m (Str.ofString "down") = some (.ref aDown)
  edge : m (Str.ofString "edge") = some (.str edgev edget)
theorem rep1 {m : Str → Option Value} {x : Str} {v : Option Value} (h : m x = v) : m = fun y => if y = x then v else m y := by
  funext y
  by_cases e : y = x
  · rw [if_pos e, e, h]
  · rw [if_neg e]
theorem LF.rep {m : Str → Option Value} {aCells aTrees aDown : Addr} {edgev : Str} {edget : Tok} (h : LF m aCells aTrees aDown edgev edget) :
    m = fun y => if y = Str.ofString "cells" then some (.ref aCells) else if y = Str.ofString "trees" then some (.ref aTrees) else if y = Str.ofString "down" then some (.ref aDown) else if y = Str.ofString "edge" then some (.str edgev edget) else m y := by
  have e1 := rep1 h.edge
  have e2 := rep1 h.down
  have e3 := rep1 h.trees
  have e4 := rep1 h.cells
  funext y
  by_cases a1 : y = Str.ofString "cells"
  · rw [if_pos a1, a1, h.cells]
  rw [if_neg a1]
  by_cases a2 : y = Str.ofString "trees"
  · rw [if_pos a2, a2, h.trees]
  rw [if_neg a2]
  by_cases a3 : y = Str.ofString "down"
  · rw [if_pos a3, a3, h.down]
  rw [if_neg a3]
  by_cases a4 : y = Str.ofString "edge"
  · rw [if_pos a4, a4, h.edge]
  rw [if_neg a4]
theorem LF.upd {m : Str → Option Value} {aCells aTrees aDown : Addr} {edgev : Str} {edget : Tok} (h : LF m aCells aTrees aDown edgev edget) {x : Str} (v : Option Value)
    (h1 : x ≠ Str.ofString "cells") (h2 : x ≠ Str.ofString "trees") (h3 : x ≠ Str.ofString "down") (h4 : x ≠ Str.ofString "edge") : LF (fun y => if y = x then v else m y) aCells aTrees aDown edgev edget :=
  ⟨by simp only [if_neg h1.symm]; exact h.cells, by simp only [if_neg h2.symm]; exact h.trees, by simp only [if_neg h3.symm]; exact h.down, by simp only [if_neg h4.symm]; exact h.edge⟩
/-- the names that the law's last loops read -/
structure LP (m : Str → Option Value) (aTrees aDown aPages : Addr) (edgev : Str) (edget : Tok) : Prop where
  trees : m (Str.ofString "trees") = some (.ref aTrees)
  down : m (Str.ofString "down") = some (.ref aDown)
  edge : m (Str.ofString "edge") = some (.str edgev edget)
  pages : m (Str.ofString "pages") = some (.ref aPages)
theorem LP.rep {m : Str → Option Value} {aTrees aDown aPages : Addr} {edgev : Str} {edget : Tok} (h : LP m aTrees aDown aPages edgev edget) :
    m = fun y => if y = Str.ofString "trees" then some (.ref aTrees) else if y = Str.ofString "down" then some (.ref aDown) else if y = Str.ofString "edge" then some (.str edgev edget) else if y = Str.ofString "pages" then some (.ref aPages) else m y := by
  funext y
  by_cases a2 : y = Str.ofString "trees"
  · rw [if_pos a2, a2, h.trees]
  rw [if_neg a2]
  by_cases a3 : y = Str.ofString "down"
  · rw [if_pos a3, a3, h.down]
  rw [if_neg a3]
  by_cases a4 : y = Str.ofString "edge"
  · rw [if_pos a4, a4, h.edge]
  rw [if_neg a4]
  by_cases a5 : y = Str.ofString "pages"
  · rw [if_pos a5, a5, h.pages]
  rw [if_neg a5]
theorem LP.repi {m : Str → Option Value} {aTrees aDown aPages : Addr} {edgev : Str} {edget : Tok} {v : Value} (h : LP m aTrees aDown aPages edgev edget) (hi : m (Str.ofString "i") = some v) :
    m = fun y => if y = Str.ofString "i" then some v else if y = Str.ofString "trees" then some (.ref aTrees) else if y = Str.ofString "down" then some (.ref aDown) else if y = Str.ofString "edge" then some (.str edgev edget) else if y = Str.ofString "pages" then some (.ref aPages) else m y := by
  funext y
  by_cases a1 : y = Str.ofString "i"
  · rw [if_pos a1, a1, hi]
  rw [if_neg a1]
  exact congrFun h.rep y
end
end Mine
namespace Mine
abbrev cl (x : Str) : List Nat := x.cps.toList
theorem cl_inj {x y : Str} (h : cl x = cl y) : x = y := Str.ext' (Array.toList_inj.mp h)
theorem cl_app (x y : Str) : cl (x ++ y) = cl x ++ cl y := by
  show (x ++ y).cps.toList = _
  rw [Str.cps_append, Array.toList_append]
theorem cl_len (x : Str) : (cl x).length = x.length := rfl
theorem cl_mk (l : List Nat) : cl ⟨l.toArray⟩ = l := rfl
theorem join_eq (s : Str) (xs : List Str) : Txt.join s xs = Str.join s xs := StrLaws.glued_eq_join s xs
/-- the parts behind the first -/
def flat (s : List Nat) : List Str → List Nat
  | [] => []
  | q :: r => s ++ cl q ++ flat s r
theorem cl_join (s : Str) : ∀ (r : List Str) (p : Str), cl (Txt.join s (p :: r)) = cl p ++ flat (cl s) r
  | [], p => by rw [join_eq]; show cl p = _; rw [flat, List.append_nil]
  | q :: r, p => by
    rw [join_eq]
    show cl (p ++ s ++ Str.join s (q :: r)) = _
    rw [cl_app, cl_app, ← join_eq, cl_join s r q, flat, List.append_assoc, List.append_assoc]
theorem head_uniq {c : Nat} : ∀ {a b X Y : List Nat}, c ∉ a → c ∉ b → (X = [] ∨ ∃ X', X = c :: X') → (Y = [] ∨ ∃ Y', Y = c :: Y') → a ++ X = b ++ Y → a = b ∧ X = Y
  | [], [], X, Y, _, _, _, _, h => ⟨rfl, h⟩
  | [], d :: b, X, Y, _, hb, hX, _, h => by
    rcases hX with rfl | ⟨X', rfl⟩
    · simp at h
    · simp at h
      exact absurd (h.1 ▸ List.mem_cons_self) hb
  | d :: a, [], X, Y, ha, _, _, hY, h => by
    rcases hY with rfl | ⟨Y', rfl⟩
    · simp at h
    · simp at h
      exact absurd (h.1 ▸ List.mem_cons_self) ha
  | d :: a, e :: b, X, Y, ha, hb, hX, hY, h => by
    simp only [List.cons_append, List.cons.injEq] at h
    obtain ⟨rfl, h⟩ := h
    have := head_uniq (fun k => ha (List.mem_cons_of_mem _ k)) (fun k => hb (List.mem_cons_of_mem _ k)) hX hY h
    exact ⟨by rw [this.1], this.2⟩
theorem flat_head (c : Nat) (r : List Str) : flat [c] r = [] ∨ ∃ X, flat [c] r = c :: X := by
  cases r with
  | nil => exact .inl rfl
  | cons q r => exact .inr ⟨_, rfl⟩
theorem flat_inj {c : Nat} : ∀ {r t : List Str}, (∀ p ∈ r, c ∉ cl p) → (∀ p ∈ t, c ∉ cl p) → flat [c] r = flat [c] t → r = t
  | [], [], _, _, _ => rfl
  | [], q :: t, _, _, h => by simp [flat] at h
  | p :: r, [], _, _, h => by simp [flat] at h
  | p :: r, q :: t, h1, h2, h => by
    simp only [flat, List.cons_append, List.nil_append, List.cons.injEq, true_and] at h
    obtain ⟨a, b⟩ := head_uniq (h1 p (.head _)) (h2 q (.head _)) (flat_head c r) (flat_head c t) h
    rw [cl_inj a, flat_inj (fun k hk => h1 k (.tail _ hk)) (fun k hk => h2 k (.tail _ hk)) b]
theorem join_inj {c : Nat} {ps qs : List Str} (h0 : ps ≠ []) (k0 : qs ≠ []) (h1 : ∀ p ∈ ps, c ∉ cl p) (h2 : ∀ p ∈ qs, c ∉ cl p) (h : Txt.join ⟨#[c]⟩ ps = Txt.join ⟨#[c]⟩ qs) : ps = qs := by
  cases ps with
  | nil => exact absurd rfl h0
  | cons p r =>
    cases qs with
    | nil => exact absurd rfl k0
    | cons q t =>
      have h := congrArg cl h
      rw [cl_join, cl_join] at h
      obtain ⟨a, b⟩ := head_uniq (h1 p (.head _)) (h2 q (.head _)) (flat_head c r) (flat_head c t) h
      rw [cl_inj a, flat_inj (fun k hk => h1 k (.tail _ hk)) (fun k hk => h2 k (.tail _ hk)) b]
theorem split_ne (x y : Str) : Txt.split x y ≠ [] := by
  intro e
  have := split_pos x y
  rw [e] at this
  simp at this
theorem split_join {c : Nat} {ps : List Str} (h0 : ps ≠ []) (h : ∀ p ∈ ps, c ∉ cl p) : Txt.split (Txt.join ⟨#[c]⟩ ps) ⟨#[c]⟩ = ps :=
  join_inj (split_ne _ _) h0 (StrLaws.split_free _ c) h (by rw [join_eq, StrLaws.join_split])
/-- one sign for another -/
def swp (c d e : Nat) : Nat := if e = c then d else e
theorem map_free {c d : Nat} : ∀ {l : List Nat}, c ∉ l → l.map (swp c d) = l
  | [], _ => rfl
  | a :: l, h => by
    rw [List.map_cons, map_free fun k => h (.tail _ k), swp, if_neg (fun e : a = c => h (by rw [e]; exact .head _))]
theorem map_flat {c d : Nat} : ∀ {r : List Str}, (∀ p ∈ r, c ∉ cl p) → (flat [c] r).map (swp c d) = flat [d] r
  | [], _ => rfl
  | p :: r, h => by
    rw [flat, flat, List.map_append, List.map_append, map_free (h p (.head _)), map_flat fun k hk => h k (.tail _ hk)]
    rw [List.map_cons, List.map_nil, swp, if_pos rfl]
theorem repl1 (x : Str) (c d : Nat) : cl (Txt.join ⟨#[d]⟩ (Txt.split x ⟨#[c]⟩)) = (cl x).map (swp c d) := by
  have e : cl (Txt.join ⟨#[c]⟩ (Txt.split x ⟨#[c]⟩)) = cl x := by rw [join_eq, StrLaws.join_split]
  have hf := StrLaws.split_free x c
  have hn := split_ne x ⟨#[c]⟩
  generalize Txt.split x ⟨#[c]⟩ = ps at e hf hn
  cases ps with
  | nil => exact absurd rfl hn
  | cons p r =>
    rw [← e, cl_join, cl_join, List.map_append, map_free (hf p (.head _))]
    show _ ++ flat [d] r = _ ++ (flat [c] r).map _
    rw [map_flat fun k hk => hf k (.tail _ hk)]
/-- white at neither end -/
def Solid (l : List Nat) : Prop := (∃ c r, l = c :: r ∧ Unicode.isSpace c = false) ∧ ∃ c r, l = r ++ [c] ∧ Unicode.isSpace c = false
theorem takeWhile_app {g : Nat → Bool} : ∀ {a b : List Nat}, (∀ c ∈ a, g c = true) → (b = [] ∨ ∃ c r, b = c :: r ∧ g c = false) → (a ++ b).takeWhile g = a
  | [], b, _, hb => by
    rcases hb with rfl | ⟨c, r, rfl, hc⟩
    · rfl
    · rw [List.nil_append, List.takeWhile_cons, hc]; rfl
  | d :: a, b, ha, hb => by
    rw [List.cons_append, List.takeWhile_cons, ha d (.head _), if_pos rfl, takeWhile_app (fun c hc => ha c (.tail _ hc)) hb]
theorem Solid.first {l X : List Nat} (h : Solid l) : ∃ c r, l ++ X = c :: r ∧ Unicode.isSpace c = false := by
  obtain ⟨⟨c, r, rfl, hc⟩, _⟩ := h
  exact ⟨c, r ++ X, rfl, hc⟩
theorem Solid.last {l X : List Nat} (h : Solid l) : ∃ c r, l.reverse ++ X = c :: r ∧ Unicode.isSpace c = false := by
  obtain ⟨_, c, r, rfl, hc⟩ := h
  exact ⟨c, r.reverse ++ X, by simp, hc⟩
theorem strip_core {e x : Str} (he : ∀ c ∈ cl e, Unicode.isSpace c = true) (hx : Solid (cl x)) : Txt.strip (e ++ x ++ e) = x := by
  have hl : cl (e ++ x ++ e) = cl e ++ (cl x ++ cl e) := by rw [cl_app, cl_app, List.append_assoc]
  have lo : stripLo Unicode.isSpace true (e ++ x ++ e) = (cl e).length := by
    unfold stripLo
    rw [if_pos rfl]
    show ((cl (e ++ x ++ e)).takeWhile _).length = _
    rw [hl, takeWhile_app he (.inr hx.first)]
  have hi : stripHi Unicode.isSpace true (e ++ x ++ e) (cl e).length = (cl e).length + (cl x).length := by
    unfold stripHi
    rw [if_pos rfl]
    show _ - (((cl (e ++ x ++ e)).drop _).reverse.takeWhile _).length = _
    rw [hl, List.drop_left, List.reverse_append, takeWhile_app (fun c hc => he c (List.mem_reverse.mp hc)) (.inr (by have := hx.last (X := []); rwa [List.append_nil] at this)), List.length_reverse]
    show (e ++ x ++ e).length - e.length = e.length + x.length
    rw [Str.length_append, Str.length_append]; omega
  show Txt.stripBy _ _ _ _ = _
  rw [PyProof.Rows.stripBy_eq, lo, hi]
  apply cl_inj
  show (Builtin.Str.strSub _ _ _).cps.toList = _
  rw [StrLaws.strSub_toList]
  show ((cl (e ++ x ++ e)).drop _).take _ = _
  rw [hl, List.drop_left, Nat.add_sub_cancel_left, List.take_left]
theorem rstrip_solid {x : Str} (hx : Solid (cl x)) : Txt.rstrip x = x := by
  have hi : stripHi Unicode.isSpace true x 0 = x.length := by
    unfold stripHi
    rw [if_pos rfl, List.drop_zero]
    obtain ⟨c, r, e, hc⟩ := hx.last (X := [])
    rw [List.append_nil] at e
    show x.length - ((cl x).reverse.takeWhile _).length = _
    rw [e, List.takeWhile_cons, hc]; rfl
  show Txt.stripBy _ _ _ _ = _
  rw [PyProof.Rows.stripBy_eq]
  show Builtin.Str.strSub x 0 (stripHi Unicode.isSpace true x 0) = x
  rw [hi]
  exact StrLaws.sub_whole x
theorem Solid.len {l : List Nat} (h : Solid l) : l.length ≠ 0 := by
  obtain ⟨⟨c, r, rfl, _⟩, _⟩ := h
  simp
/-- splitdoc of one line -/
theorem splitdoc_one {e n : Str} (he : ∀ c ∈ cl e, Unicode.isSpace c = true) (hn : Solid (cl n)) (h10 : 10 ∉ cl n) : splitdocF (e ++ n ++ e) = (n, Str.empty) := by
  have hs : Txt.split n ⟨#[10]⟩ = [n] := by
    have := split_join (c := 10) (ps := [n]) (by simp) (by simpa using h10)
    rwa [show Txt.join ⟨#[10]⟩ [n] = n from by rw [join_eq]; rfl] at this
  have hnl : nl = ⟨#[10]⟩ := by decide +kernel
  unfold splitdocF
  rw [strip_core he hn, hnl, hs]
  rfl
theorem splitdoc_page {e n p : Str} {rows : List Str} (he : ∀ c ∈ cl e, Unicode.isSpace c = true) (hx : Solid (cl (Txt.join nl (n :: p :: rows)))) (h10 : ∀ q ∈ n :: p :: rows, 10 ∉ cl q) (hp : (Txt.rstrip p).length = 0) :
    splitdocF (e ++ Txt.join nl (n :: p :: rows) ++ e) = (n, Txt.join nl rows) := by
  have hs := split_join (c := 10) (ps := n :: p :: rows) (by simp) h10
  have hnl : nl = ⟨#[10]⟩ := by decide +kernel
  rw [hnl] at hx ⊢
  unfold splitdocF
  rw [strip_core he hx, hnl, hs]
  rw [if_neg (by simp), if_pos (by simpa using hp)]
  rfl
theorem splitdoc_bare {e n p : Str} {rows : List Str} (he : ∀ c ∈ cl e, Unicode.isSpace c = true) (hx : Solid (cl (Txt.join nl (n :: p :: rows)))) (h10 : ∀ q ∈ n :: p :: rows, 10 ∉ cl q) (hp : Solid (cl p)) :
    splitdocF (e ++ Txt.join nl (n :: p :: rows) ++ e) = (Str.empty, Txt.join nl (n :: p :: rows)) := by
  have hs := split_join (c := 10) (ps := n :: p :: rows) (by simp) h10
  have hnl : nl = ⟨#[10]⟩ := by decide +kernel
  rw [hnl] at hx ⊢
  unfold splitdocF
  rw [strip_core he hx, hnl, hs]
  rw [if_neg (by simp), if_neg]
  show ¬ (Txt.rstrip p).length = 0
  rw [rstrip_solid hp]
  exact hp.len
/-! the order -/
theorem ltS_iff (x y : Str) : ltS x y = true ↔ cl x < cl y := by
  unfold ltS
  rw [decide_eq_true_eq]
theorem ltS_not (x y : Str) : ltS x y = false ↔ cl y ≤ cl x := by
  rw [← Bool.not_eq_true, ltS_iff, List.not_lt]
theorem risenN_perm : ∀ (n : Nat) (xs : List Str), xs.length < n → (risenN n xs).Perm xs
  | 0, _, h => absurd h (Nat.not_lt_zero _)
  | n + 1, [], _ => .nil
  | n + 1, x :: r, h => by
    have h3 := filter_two (fun y => ltS y x) r
    rw [List.length_cons] at h
    have h1 := risenN_perm n (r.filter fun y => ltS y x) (by omega)
    have h2 := risenN_perm n (r.filter fun y => !ltS y x) (by omega)
    show (risenN n _ ++ [x] ++ risenN n _).Perm _
    refine ((h1.append_right [x]).append h2).trans ?_
    rw [List.append_assoc]
    refine List.perm_middle.trans (List.Perm.cons x ?_)
    exact List.filter_append_perm (fun y => ltS y x) r
theorem risenN_sorted : ∀ (n : Nat) (xs : List Str), xs.length < n → (risenN n xs).Pairwise fun x y => cl x ≤ cl y
  | 0, _, h => absurd h (Nat.not_lt_zero _)
  | n + 1, [], _ => .nil
  | n + 1, x :: r, h => by
    have h3 := filter_two (fun y => ltS y x) r
    rw [List.length_cons] at h
    have h1 := risenN_sorted n (r.filter fun y => ltS y x) (by omega)
    have h2 := risenN_sorted n (r.filter fun y => !ltS y x) (by omega)
    have p1 := risenN_perm n (r.filter fun y => ltS y x) (by omega)
    have p2 := risenN_perm n (r.filter fun y => !ltS y x) (by omega)
    have m1 : ∀ y ∈ risenN n (r.filter fun y => ltS y x), cl y ≤ cl x := fun y hy => List.le_of_lt ((ltS_iff y x).mp (List.mem_filter.mp (p1.mem_iff.mp hy)).2)
    have m2 : ∀ y ∈ risenN n (r.filter fun y => !ltS y x), cl x ≤ cl y := fun y hy => (ltS_not y x).mp (by have := (List.mem_filter.mp (p2.mem_iff.mp hy)).2; simpa using this)
    show (risenN n _ ++ [x] ++ risenN n _).Pairwise _
    rw [List.append_assoc, List.pairwise_append]
    refine ⟨h1, ?_, ?_⟩
    · rw [List.singleton_append, List.pairwise_cons]
      exact ⟨m2, h2⟩
    · intro y hy z hz
      rw [List.singleton_append] at hz
      rcases List.mem_cons.mp hz with rfl | hz
      · exact m1 y hy
      · exact List.le_trans (m1 y hy) (m2 z hz)
theorem risenN_uniq {n m : Nat} {xs ys : List Str} (h : xs.Perm ys) (hn : xs.length < n) (hm : ys.length < m) : risenN n xs = risenN m ys :=
  List.Perm.eq_of_pairwise (fun a b _ _ h1 h2 => cl_inj (List.le_antisymm h1 h2)) (risenN_sorted n xs hn) (risenN_sorted m ys hm) ((risenN_perm n xs hn).trans (h.trans (risenN_perm m ys hm).symm))
/-- the rows in rising order are the rows of the kids in some order -/
theorem perm_map {α β : Type} {f : α → β} : ∀ {l : List α} {ys : List β}, (l.map f).Perm ys → ∃ l' : List α, l'.Perm l ∧ l'.map f = ys := by
  intro l ys h
  generalize e : l.map f = xs at h
  induction h generalizing l with
  | nil => exact ⟨[], by have := List.map_eq_nil_iff.mp e; rw [this], rfl⟩
  | cons x h ih =>
    cases l with
    | nil => simp at e
    | cons a l =>
      simp only [List.map_cons, List.cons.injEq] at e
      obtain ⟨rfl, e⟩ := e
      obtain ⟨l', p, q⟩ := ih e
      exact ⟨a :: l', p.cons a, by rw [List.map_cons, q]⟩
  | swap x y r =>
    cases l with
    | nil => simp at e
    | cons a l =>
      cases l with
      | nil => simp at e
      | cons b l =>
        simp only [List.map_cons, List.cons.injEq] at e
        obtain ⟨rfl, rfl, rfl⟩ := e
        exact ⟨b :: a :: l, List.Perm.swap a b l, rfl⟩
  | trans h1 h2 ih1 ih2 =>
    obtain ⟨l1, p1, q1⟩ := ih1 e
    obtain ⟨l2, p2, q2⟩ := ih2 q1
    exact ⟨l2, p2.trans p1, q2⟩
/-- the sign of a step -/
def markN (i : Nat) : Nat := if i = 0 then 10 else 48 + i
def Base (c : Nat) : Prop := c = 97 ∨ c = 32 ∨ c = 98 ∨ c = 233 ∨ c = 9
def Ok (h c : Nat) : Prop := Base c ∨ ∃ i, i < h ∧ c = markN i
def upC (e : Nat) : Nat := if e = 53 then 54 else if e = 52 then 53 else if e = 51 then 52 else if e = 50 then 51 else if e = 49 then 50 else if e = 10 then 49 else e
def downC (e : Nat) : Nat := if e = 49 then 10 else if e = 50 then 49 else if e = 51 then 50 else if e = 52 then 51 else if e = 53 then 52 else if e = 54 then 53 else e
theorem up_comp (e : Nat) : swp 10 49 (swp 49 50 (swp 50 51 (swp 51 52 (swp 52 53 (swp 53 54 e))))) = upC e := by
  by_cases h1 : e = 53
  · subst h1; decide
  by_cases h2 : e = 52
  · subst h2; decide
  by_cases h3 : e = 51
  · subst h3; decide
  by_cases h4 : e = 50
  · subst h4; decide
  by_cases h5 : e = 49
  · subst h5; decide
  by_cases h6 : e = 10
  · subst h6; decide
  simp only [swp, upC, if_neg h1, if_neg h2, if_neg h3, if_neg h4, if_neg h5, if_neg h6]
theorem down_comp (e : Nat) : swp 54 53 (swp 53 52 (swp 52 51 (swp 51 50 (swp 50 49 (swp 49 10 e))))) = downC e := by
  by_cases h1 : e = 49
  · subst h1; decide
  by_cases h2 : e = 50
  · subst h2; decide
  by_cases h3 : e = 51
  · subst h3; decide
  by_cases h4 : e = 52
  · subst h4; decide
  by_cases h5 : e = 53
  · subst h5; decide
  by_cases h6 : e = 54
  · subst h6; decide
  simp only [swp, downC, if_neg h1, if_neg h2, if_neg h3, if_neg h4, if_neg h5, if_neg h6]
def upN : Nat → Nat → Nat
  | 0, c => c
  | d + 1, c => upN d (upC c)
theorem Ok.mono {h k c : Nat} (o : Ok h c) (e : h ≤ k) : Ok k c := by
  rcases o with o | ⟨i, hi, rfl⟩
  · exact .inl o
  · exact .inr ⟨i, by omega, rfl⟩
theorem up_mark : ∀ i, i < 6 → upC (markN i) = markN (i + 1) := by decide
theorem down_mark : ∀ i, i < 6 → downC (markN (i + 1)) = markN i := by decide
theorem up_base {c : Nat} (h : Base c) : upC c = c := by rcases h with rfl | rfl | rfl | rfl | rfl <;> decide
theorem down_base {c : Nat} (h : Base c) : downC c = c := by rcases h with rfl | rfl | rfl | rfl | rfl <;> decide
theorem base_ne {c : Nat} (h : Base c) : c ≠ 10 := by rcases h with rfl | rfl | rfl | rfl | rfl <;> decide
theorem down_up {c : Nat} (h : Ok 6 c) : downC (upC c) = c := by
  rcases h with h | ⟨i, hi, rfl⟩
  · rw [up_base h, down_base h]
  · rw [up_mark i hi, down_mark i hi]
theorem Ok.up {h c : Nat} (o : Ok h c) (e : h ≤ 6) : Ok (h + 1) (upC c) := by
  rcases o with o | ⟨i, hi, rfl⟩
  · rw [up_base o]; exact .inl o
  · rw [up_mark i (by omega)]; exact .inr ⟨i + 1, by omega, rfl⟩
theorem up_ne {c : Nat} (o : Ok 6 c) : upC c ≠ 10 := by
  rcases o with o | ⟨i, hi, rfl⟩
  · rw [up_base o]; exact base_ne o
  · rw [up_mark i hi, markN, if_neg (by omega)]; omega
theorem mark_space : ∀ i, i < 6 → Unicode.isSpace (markN (i + 1)) = false := by decide +kernel
theorem up_space {c : Nat} (o : Ok 6 c) (h : Unicode.isSpace c = false) : Unicode.isSpace (upC c) = false := by
  rcases o with o | ⟨i, hi, rfl⟩
  · rw [up_base o]; exact h
  · rw [up_mark i hi]; exact mark_space i hi
theorem upN_mark : ∀ d, d < 7 → upN d 10 = markN d := by decide
theorem upN_base {c : Nat} (h : Base c) : ∀ d, upN d c = c
  | 0 => rfl
  | d + 1 => by rw [upN, up_base h, upN_base h d]
theorem markF_cl : ∀ d, d < 7 → cl (markF d) = [markN d] := by decide +kernel
theorem nl_cl : cl nl = [10] := by decide +kernel
theorem nl_mk : nl = ⟨#[10]⟩ := by decide +kernel
theorem map_id_of {f : Nat → Nat} : ∀ {l : List Nat}, (∀ c ∈ l, f c = c) → l.map f = l
  | [], _ => rfl
  | a :: l, h => by rw [List.map_cons, h a (.head _), map_id_of fun c hc => h c (.tail _ hc)]
theorem repl_up (x : Str) : cl (replF x upL) = (cl x).map upC := by
  have e : upL = [⟨#[53]⟩, ⟨#[54]⟩, ⟨#[52]⟩, ⟨#[53]⟩, ⟨#[51]⟩, ⟨#[52]⟩, ⟨#[50]⟩, ⟨#[51]⟩, ⟨#[49]⟩, ⟨#[50]⟩, ⟨#[10]⟩, ⟨#[49]⟩] := by decide +kernel
  rw [e]
  simp only [replF, repl1, List.map_map]
  exact List.map_congr_left fun c _ => up_comp c
theorem repl_down (x : Str) : cl (replF x downL) = (cl x).map downC := by
  have e : downL = [⟨#[49]⟩, ⟨#[10]⟩, ⟨#[50]⟩, ⟨#[49]⟩, ⟨#[51]⟩, ⟨#[50]⟩, ⟨#[52]⟩, ⟨#[51]⟩, ⟨#[53]⟩, ⟨#[52]⟩, ⟨#[54]⟩, ⟨#[53]⟩] := by decide +kernel
  rw [e]
  simp only [replF, repl1, List.map_map]
  exact List.map_congr_left fun c _ => down_comp c
theorem ev_up : EvenL upL := by
  unfold upL
  simp only [EvenL]
  decide +kernel
theorem ev_down : EvenL downL := by
  unfold downL
  simp only [EvenL]
  decide +kernel
theorem edge_white {e : Str} (h : e ∈ edgesL) : ∀ c ∈ cl e, Unicode.isSpace c = true := by
  have : ∀ e ∈ edgesL, ∀ c ∈ cl e, Unicode.isSpace c = true := by decide +kernel
  exact this e h
theorem edge_len {e : Str} (h : e ∈ edgesL) : e.length ≤ 3 := by
  have : ∀ e ∈ edgesL, e.length ≤ 3 := by decide +kernel
  exact this e h
theorem pad_base {p : Str} (h : p ∈ padsL) : ∀ c ∈ cl p, Base c := by
  have : ∀ e ∈ padsL, ∀ c ∈ cl e, c = 97 ∨ c = 32 ∨ c = 98 ∨ c = 233 ∨ c = 9 := by decide +kernel
  exact this p h
theorem pad_white {p : Str} (h : p ∈ padsL) : ∀ c ∈ cl p, Unicode.isSpace c = true := by
  have : ∀ e ∈ padsL, ∀ c ∈ cl e, Unicode.isSpace c = true := by decide +kernel
  exact this p h
theorem pad_len {p : Str} (h : p ∈ padsL) : p.length ≤ 3 := by
  have : ∀ e ∈ padsL, e.length ≤ 3 := by decide +kernel
  exact this p h
theorem pad_rstrip {p : Str} (h : p ∈ padsL) : (Txt.rstrip p).length = 0 := by
  have : ∀ e ∈ padsL, (Txt.rstrip e).length = 0 := by decide +kernel
  exact this p h
theorem name_base {n : Str} (h : n ∈ namesL) : ∀ c ∈ cl n, Base c := by
  have : ∀ e ∈ namesL, ∀ c ∈ cl e, c = 97 ∨ c = 32 ∨ c = 98 ∨ c = 233 ∨ c = 9 := by decide +kernel
  exact this n h
theorem name_len {p : Str} (h : p ∈ namesL) : p.length ≤ 3 := by
  have : ∀ e ∈ namesL, e.length ≤ 3 := by decide +kernel
  exact this p h
theorem name_solid {n : Str} (h : n ∈ namesL) : Solid (cl n) := by
  simp only [namesL, List.mem_cons, List.mem_nil_iff, or_false] at h
  rcases h with rfl | rfl | rfl
  · exact ⟨⟨97, [], by decide +kernel, by decide +kernel⟩, 97, [], by decide +kernel, by decide +kernel⟩
  · exact ⟨⟨97, [32, 98], by decide +kernel, by decide +kernel⟩, 98, [97, 32], by decide +kernel, by decide +kernel⟩
  · exact ⟨⟨233, [], by decide +kernel, by decide +kernel⟩, 233, [], by decide +kernel, by decide +kernel⟩
theorem nameds_mem {ns : List Str} : ∀ {l : List T}, Nameds ns l ↔ ∀ k ∈ l, Named ns k
  | [] => by rw [Nameds]; exact ⟨fun _ k hk => (nomatch hk), fun _ => trivial⟩
  | k :: l => by
    rw [Nameds, nameds_mem]
    exact ⟨fun h x hx => (List.mem_cons.mp hx).elim (fun e => e ▸ h.1) (h.2 x), fun h => ⟨h k (.head _), fun x hx => h x (.tail _ hx)⟩⟩
mutual
theorem named_short : ∀ {t : T}, Named namesL t → Short t
  | .node n ks, h => by
    rw [Named] at h
    rw [Short]
    exact ⟨name_len h.1, nameds_short h.2⟩
theorem nameds_short : ∀ {ks : List T}, Nameds namesL ks → Shorts ks
  | [], _ => by rw [Shorts]; trivial
  | k :: r, h => by
    rw [Nameds] at h
    rw [Shorts]
    exact ⟨named_short h.1, nameds_short h.2⟩
end
theorem rowsF_map (pad : Str) (up : List Str) : ∀ ks : List T, rowsF pad up ks = ks.map fun k => replF (pageF pad up k) up
  | [] => by rw [rowsF]; rfl
  | k :: r => by rw [rowsF, rowsF_map pad up r]; rfl
abbrev pg (pad : Str) (t : T) : Str := pageF pad upL t
abbrev rw' (pad : Str) (t : T) : Str := replF (pg pad t) upL
abbrev srt (xs : List Str) : List Str := risenN (xs.length + 1) xs
theorem srt_perm (xs : List Str) : (srt xs).Perm xs := risenN_perm _ _ (Nat.lt_succ_self _)
theorem srt_uniq {xs ys : List Str} (h : xs.Perm ys) : srt xs = srt ys := risenN_uniq h (Nat.lt_succ_self _) (Nat.lt_succ_self _)
theorem srt_ne {xs : List Str} (h : xs ≠ []) : ∃ q r, srt xs = q :: r := by
  have := (srt_perm xs).length_eq
  cases e : srt xs with
  | nil =>
    rw [e] at this
    exact absurd (List.length_eq_zero_iff.mp this.symm) h
  | cons q r => exact ⟨q, r, rfl⟩
theorem pg_leaf (pad n : Str) : pg pad (.node n []) = n := by rw [pg, pageF]
theorem pg_node (pad n : Str) {ks : List T} (h : ks ≠ []) : pg pad (.node n ks) = n ++ nl ++ pad ++ nl ++ Txt.join nl (srt (ks.map (rw' pad))) := by
  cases ks with
  | nil => exact absurd rfl h
  | cons k r => rw [pg, pageF, rowsF_map]
theorem cl_node (pad n : Str) {ks : List T} (h : ks ≠ []) : ∃ q r, srt (ks.map (rw' pad)) = q :: r ∧ cl (pg pad (.node n ks)) = cl n ++ ([10] ++ cl pad ++ [10]) ++ (cl q ++ flat [10] r) := by
  obtain ⟨q, r, e⟩ := srt_ne (xs := ks.map (rw' pad)) (by simpa using h)
  refine ⟨q, r, e, ?_⟩
  rw [pg_node pad n h, e, cl_app, cl_app, cl_app, cl_app, cl_join, nl_cl]
  simp only [List.append_assoc]
theorem pg_join (pad n : Str) {ks : List T} (h : ks ≠ []) : pg pad (.node n ks) = Txt.join nl (n :: pad :: srt (ks.map (rw' pad))) := by
  obtain ⟨q, r, e, h2⟩ := cl_node pad n h
  apply cl_inj
  rw [h2, cl_join, e, flat, flat, nl_cl]
  simp only [List.append_assoc]
theorem Solid.mid {a X b : List Nat} (h : Solid a) (k : Solid b) : Solid (a ++ X ++ b) := by
  obtain ⟨⟨c, r, rfl, hc⟩, _⟩ := h
  obtain ⟨_, d, t, rfl, hd⟩ := k
  exact ⟨⟨c, _, rfl, hc⟩, d, _, (List.append_assoc _ _ _).symm, hd⟩
theorem solid_flat {s : List Nat} : ∀ {r : List Str} {p : Str}, Solid (cl p) → (∀ q ∈ r, Solid (cl q)) → Solid (cl p ++ flat s r)
  | [], p, h, _ => by rw [flat, List.append_nil]; exact h
  | q :: r, p, h, k => by
    rw [flat, List.append_assoc, ← List.append_assoc]
    exact h.mid (solid_flat (k q (.head _)) fun x hx => k x (.tail _ hx))
theorem mem_flat {s : List Nat} {c : Nat} : ∀ {r : List Str}, c ∈ flat s r → c ∈ s ∨ ∃ q ∈ r, c ∈ cl q
  | [], h => by simp [flat] at h
  | q :: r, h => by
    rw [flat] at h
    rcases List.mem_append.mp h with h | h
    · rcases List.mem_append.mp h with h | h
      · exact .inl h
      · exact .inr ⟨q, .head _, h⟩
    · rcases mem_flat h with h | ⟨x, hx, h⟩
      · exact .inl h
      · exact .inr ⟨x, .tail _ hx, h⟩
theorem solid_map {l : List Nat} (h : Solid l) (o : ∀ c ∈ l, Ok 6 c) : Solid (l.map upC) := by
  obtain ⟨⟨c, r, e1, hc⟩, d, t, e2, hd⟩ := h
  refine ⟨⟨upC c, r.map upC, by rw [e1]; rfl, up_space (o c (by rw [e1]; exact .head _)) hc⟩, upC d, t.map upC, by rw [e2, List.map_append]; rfl, up_space (o d (by rw [e2]; simp)) hd⟩
theorem kid_size {n : Str} {ks : List T} {k : T} (h : k ∈ ks) : k.size + 1 ≤ (T.node n ks).size := by
  have := size_le_sizes h
  rw [T.size]; omega
theorem size_pos (t : T) : 1 ≤ t.size := by
  cases t with
  | node n ks => rw [T.size]; omega
/-- what a page is made of -/
theorem pg_facts {pad : Str} (hp : pad ∈ padsL) : ∀ (n : Nat) (t : T), t.size ≤ n → n ≤ 8 → Named namesL t → Solid (cl (pg pad t)) ∧ ∀ c ∈ cl (pg pad t), Ok (t.size - 1) c
  | 0, t, h, _, _ => by have := size_pos t; omega
  | n + 1, .node nm ks, h, h8, hN => by
    have hN2 := hN
    rw [Named] at hN2
    have hk := nameds_mem.mp hN2.2
    by_cases hks : ks = []
    · subst hks
      rw [pg_leaf]
      exact ⟨name_solid hN2.1, fun c hc => .inl (name_base hN2.1 c hc)⟩
    · obtain ⟨q, r, e, hcl⟩ := cl_node pad nm hks
      have ih : ∀ k ∈ ks, Solid (cl (rw' pad k)) ∧ ∀ c ∈ cl (rw' pad k), Ok k.size c := fun k hkm => by
        have hsz := kid_size (n := nm) hkm
        have := pg_facts hp n k (by omega) (by omega) (hk k hkm)
        rw [repl_up]
        refine ⟨solid_map this.1 fun c hc => (this.2 c hc).mono (by omega), fun c hc => ?_⟩
        obtain ⟨d, hd, rfl⟩ := List.mem_map.mp hc
        have h1 := (this.2 d hd).up (by omega)
        have := size_pos k
        exact h1.mono (by omega)
      have mem : ∀ x ∈ q :: r, ∃ k ∈ ks, rw' pad k = x := fun x hx => by
        rw [← e] at hx
        exact List.mem_map.mp ((srt_perm _).mem_iff.mp hx)
      have sol : ∀ x ∈ q :: r, Solid (cl x) := fun x hx => by
        obtain ⟨k, hk, rfl⟩ := mem x hx
        exact (ih k hk).1
      have ok : ∀ x ∈ q :: r, ∀ c ∈ cl x, Ok ((T.node nm ks).size - 1) c := fun x hx c hc => by
        obtain ⟨k, hk, rfl⟩ := mem x hx
        exact ((ih k hk).2 c hc).mono (by have := kid_size (n := nm) hk; omega)
      have two : 2 ≤ (T.node nm ks).size := by
        obtain ⟨k, hk, _⟩ := mem q (.head _)
        have := kid_size (n := nm) hk
        have := size_pos k
        omega
      have o10 : Ok ((T.node nm ks).size - 1) 10 := .inr ⟨0, by omega, rfl⟩
      rw [hcl]
      refine ⟨(name_solid hN2.1).mid (solid_flat (sol q (.head _)) fun x hx => sol x (.tail _ hx)), fun c hc => ?_⟩
      simp only [List.mem_append, List.mem_singleton] at hc
      rcases hc with (hc | (hc | hc) | hc) | hc | hc
      · exact .inl (name_base hN2.1 c hc)
      · rw [hc]; exact o10
      · exact .inl (pad_base hp c hc)
      · rw [hc]; exact o10
      · exact ok q (.head _) c hc
      · rcases mem_flat hc with hc | ⟨x, hx, hc⟩
        · rw [List.mem_singleton.mp hc]; exact o10
        · exact ok x (.tail _ hx) c hc
section
variable {pad : Str} (hp : pad ∈ padsL)
include hp
theorem pg_ok6 {t : T} (h : t.size ≤ 7) (hN : Named namesL t) : ∀ c ∈ cl (pg pad t), Ok 6 c := fun c hc => ((pg_facts hp 8 t (by omega) (by omega) hN).2 c hc).mono (by omega)
theorem row_solid {t : T} (h : t.size ≤ 7) (hN : Named namesL t) : Solid (cl (rw' pad t)) := by
  rw [repl_up]
  exact solid_map (pg_facts hp 8 t (by omega) (by omega) hN).1 (pg_ok6 hp h hN)
theorem row_free {t : T} (h : t.size ≤ 7) (hN : Named namesL t) : 10 ∉ cl (rw' pad t) := by
  rw [repl_up]
  intro hm
  obtain ⟨d, hd, e⟩ := List.mem_map.mp hm
  exact up_ne (pg_ok6 hp h hN d hd) e
theorem row_down {t : T} (h : t.size ≤ 7) (hN : Named namesL t) : replF (rw' pad t) downL = pg pad t := by
  apply cl_inj
  rw [repl_down, repl_up, List.map_map]
  exact map_id_of (f := downC ∘ upC) fun c hc => by
    have h1 := down_up (pg_ok6 hp h hN c hc)
    exact h1
end
theorem name_free {n : Str} (h : n ∈ namesL) : 10 ∉ cl n := fun hm => base_ne (name_base h 10 hm) rfl
theorem pad_free {n : Str} (h : n ∈ padsL) : 10 ∉ cl n := fun hm => base_ne (pad_base h 10 hm) rfl
/-- a good node -/
structure Good (n : Str) (ks : List T) : Prop where
  nm : n ∈ namesL
  kid : ∀ k ∈ ks, k.size ≤ 7 ∧ Named namesL k
theorem Good.of {n : Str} {ks : List T} (h : (T.node n ks).size ≤ 8) (hN : Named namesL (.node n ks)) : Good n ks := by
  rw [Named] at hN
  exact ⟨hN.1, fun k hk => ⟨by have := kid_size (n := n) hk; omega, nameds_mem.mp hN.2 k hk⟩⟩
theorem lines_free {pad n : Str} (hp : pad ∈ padsL) {ks : List T} (g : Good n ks) : ∀ x ∈ n :: pad :: srt (ks.map (rw' pad)), 10 ∉ cl x := by
  intro x hx
  rcases List.mem_cons.mp hx with rfl | hx
  · exact name_free g.nm
  · rcases List.mem_cons.mp hx with rfl | hx
    · exact pad_free hp
    · obtain ⟨k, hk, rfl⟩ := List.mem_map.mp ((srt_perm _).mem_iff.mp hx)
      exact row_free hp (g.kid k hk).1 (g.kid k hk).2
/-- two pages are the same exactly if the names are and the kids' pages are, but for the order -/
theorem pg_eq {pad : Str} (hp : pad ∈ padsL) {a b : Str} {ks ls : List T} (g : Good a ks) (g2 : Good b ls) :
    pg pad (.node a ks) = pg pad (.node b ls) ↔ a = b ∧ (ks.map (pg pad)).Perm (ls.map (pg pad)) := by
  have nl10 : ∀ {n : Str} {k : List T}, k ≠ [] → 10 ∈ cl (pg pad (.node n k)) := fun {n k} hk => by
    obtain ⟨q, r, _, e⟩ := cl_node pad n hk
    rw [e]; simp
  constructor
  · intro h
    by_cases hk : ks = []
    · by_cases hl : ls = []
      · subst hk hl
        rw [pg_leaf, pg_leaf] at h
        exact ⟨h, .nil⟩
      · subst hk
        rw [pg_leaf] at h
        exact absurd (h ▸ nl10 hl) (name_free g.nm)
    · by_cases hl : ls = []
      · subst hl
        rw [pg_leaf] at h
        exact absurd (h ▸ nl10 hk) (name_free g2.nm)
      · rw [pg_join pad a hk, pg_join pad b hl, nl_mk] at h
        have h2 := join_inj (by simp) (by simp) (lines_free hp g) (lines_free hp g2) h
        simp only [List.cons.injEq, true_and] at h2
        refine ⟨h2.1, ?_⟩
        have h3 : (ks.map (rw' pad)).Perm (ls.map (rw' pad)) := (srt_perm _).symm.trans (h2.2 ▸ srt_perm _)
        have h4 := h3.map fun x => replF x downL
        rw [List.map_map, List.map_map] at h4
        have e1 : ks.map ((fun x => replF x downL) ∘ rw' pad) = ks.map (pg pad) := List.map_congr_left fun k hk => by
          have := row_down hp (g.kid k hk).1 (g.kid k hk).2
          exact this
        have e2 : ls.map ((fun x => replF x downL) ∘ rw' pad) = ls.map (pg pad) := List.map_congr_left fun k hk => by
          have := row_down hp (g2.kid k hk).1 (g2.kid k hk).2
          exact this
        rwa [e1, e2] at h4
  · rintro ⟨rfl, h⟩
    by_cases hk : ks = []
    · subst hk
      have : ls = [] := by simpa using h.length_eq.symm
      rw [this]
    · have hl : ls ≠ [] := fun e => hk (by subst e; simpa using h.length_eq)
      rw [pg_node pad a hk, pg_node pad a hl]
      have h3 := h.map fun x => replF x upL
      rw [List.map_map, List.map_map] at h3
      have h4 : (ks.map (rw' pad)).Perm (ls.map (rw' pad)) := h3
      rw [srt_uniq h4]
theorem matchL_iff {P : T → Str} {f : T → T → Bool} : ∀ {ks ls : List T}, (∀ k ∈ ks, ∀ l ∈ ls, f k l = decide (P k = P l)) → ks.length = ls.length → (matchL f ks ls = true ↔ (ks.map P).Perm (ls.map P))
  | [], ls, _, h => by
    have : ls = [] := by simpa using h.symm
    subst this
    rw [matchL]
    exact ⟨fun _ => .nil, fun _ => rfl⟩
  | k :: ks, ls, hf, h => by
    rw [matchL]
    split
    · rename_i hlt
      obtain ⟨x, hx⟩ : ∃ x, ls[ls.findIdx (f k)]? = some x := ⟨_, List.getElem?_eq_getElem hlt⟩
      have hfx := findIdx_true hx rfl
      have hmem := List.mem_of_getElem? hx
      rw [hf k (.head _) x hmem, decide_eq_true_eq] at hfx
      have e := take_drop_at hx
      have hl := congrArg List.length e
      rw [matchL_iff (P := P) ?_ ?_]
      · have p1 : (ls.map P).Perm (P x :: (ls.take (ls.findIdx (f k)) ++ ls.drop (ls.findIdx (f k) + 1)).map P) := by
          conv => lhs; rw [e]
          rw [List.map_append, List.map_cons, List.map_append]
          exact List.perm_middle
        rw [List.map_cons, hfx]
        exact ⟨fun q => (q.cons _).trans p1.symm, fun q => List.Perm.cons_inv (q.trans p1)⟩
      · intro k' hk' l hl'
        refine hf k' (.tail _ hk') l ?_
        rcases List.mem_append.mp hl' with m | m
        · exact List.mem_of_mem_take m
        · exact List.mem_of_mem_drop m
      · simp only [List.length_cons, List.length_append] at h hl ⊢
        omega
    · rename_i hlt
      refine ⟨fun e => absurd e (by decide), fun q => ?_⟩
      exfalso
      have : P k ∈ ls.map P := q.mem_iff.mp (by rw [List.map_cons]; exact .head _)
      obtain ⟨l, hl, e⟩ := List.mem_map.mp this
      have hfl : f k l = true := by rw [hf k (.head _) l hl, e]; simp
      obtain ⟨i, hi⟩ := List.getElem?_of_mem hl
      have := findIdx_le_of hi hfl
      have := (List.getElem?_eq_some_iff.mp hi).1
      omega
/-- _law_same tells whether the pages are the same -/
theorem same_pg {pad : Str} (hp : pad ∈ padsL) : ∀ (n : Nat) (t u : T), t.size ≤ n → n ≤ 8 → u.size ≤ 8 → Named namesL t → Named namesL u → sameN n t u = decide (pg pad t = pg pad u)
  | 0, t, u, h, _, _, _, _ => by have := size_pos t; omega
  | n + 1, .node a ks, .node b ls, h, h8, hu, hN, hM => by
    have g := Good.of (by omega) hN
    have g2 := Good.of hu hM
    rw [sameN, Bool.eq_iff_iff, decide_eq_true_eq, pg_eq hp g g2, Bool.and_eq_true, Bool.and_eq_true, beq_iff_eq, beq_iff_eq]
    have ih : ∀ k ∈ ks, ∀ l ∈ ls, sameN n k l = decide (pg pad k = pg pad l) := fun k hk l hl =>
      same_pg hp n k l (by have := kid_size (n := a) hk; omega) (by omega) (by have := (g2.kid l hl).1; omega) (g.kid k hk).2 (g2.kid l hl).2
    constructor
    · rintro ⟨⟨e, hl⟩, hm⟩
      exact ⟨e, (matchL_iff ih hl).mp hm⟩
    · rintro ⟨e, q⟩
      have hl : ks.length = ls.length := by simpa using q.length_eq
      exact ⟨⟨e, hl⟩, (matchL_iff ih hl).mpr q⟩
theorem sizes_perm {a b : List T} (h : a.Perm b) : sizes a = sizes b := by
  induction h with
  | nil => rfl
  | cons x _ ih => rw [sizes, sizes, ih]
  | swap x y l => rw [sizes, sizes, sizes, sizes]; omega
  | trans _ _ h1 h2 => rw [h1, h2]
theorem sizes_map {f : T → T} : ∀ {l : List T}, (∀ k ∈ l, (f k).size = k.size) → sizes (l.map f) = sizes l
  | [], _ => rfl
  | k :: l, h => by rw [List.map_cons, sizes, sizes, h k (.head _), sizes_map fun x hx => h x (.tail _ hx)]
theorem choose_of {P : T → T → Prop} {l : List T} (h : ∀ k ∈ l, ∃ u, P k u) : ∃ f : T → T, ∀ k ∈ l, P k (f k) := by
  classical
  refine ⟨fun k => if h : ∃ u, P k u then Classical.choose h else k, fun k hk => ?_⟩
  have h1 := h k hk
  simp only [dif_pos h1]
  exact Classical.choose_spec h1
theorem reads_map {edge : Str} {down : List Str} {row : T → Str} {f : T → T} : ∀ {l : List T}, (∀ k ∈ l, ReadOk edge down (replF (row k) down) (f k)) → ReadsOk edge down (l.map row) (l.map f)
  | [], _ => .nil
  | k :: l, h => .cons (h k (.head _)) (reads_map fun x hx => h x (.tail _ hx))
theorem writtenFs_map (pad : Str) (d : Nat) : ∀ ks : List T, writtenFs pad d ks = ks.map (writtenF pad d)
  | [] => by rw [writtenFs]; rfl
  | k :: r => by rw [writtenFs, writtenFs_map pad d r]; rfl
theorem flat_map {g : Nat → Nat} {c : Nat} {row wr : T → Str} : ∀ {l : List T}, (∀ k ∈ l, cl (wr k) = (cl (row k)).map g) → (flat [c] (l.map row)).map g = flat [g c] (l.map wr)
  | [], _ => rfl
  | k :: l, h => by
    rw [List.map_cons, List.map_cons, flat, flat, List.map_append, List.map_append, flat_map fun x hx => h x (.tail _ hx), h k (.head _)]
    rfl
/-- the told tree -/
theorem told_ok {pad edge : Str} (hp : pad ∈ padsL) (he : edge ∈ edgesL) : ∀ (n : Nat) (t : T), t.size ≤ n → n ≤ 8 → Named namesL t →
    ∃ u, u.size = t.size ∧ Named namesL u ∧ pg pad u = pg pad t ∧ ReadOk edge downL (pg pad t) u ∧ ∀ d, d + t.size ≤ 8 → cl (writtenF pad d u) = (cl (pg pad t)).map (upN d)
  | 0, t, h, _, _ => by have := size_pos t; omega
  | n + 1, .node nm ks, h, h8, hN => by
    have g := Good.of (by omega) hN
    have hlen := pageF_len (up := upL) (pad_len hp) ev_up _ (named_short hN)
    by_cases hks : ks = []
    · subst hks
      have hsd := splitdoc_one (edge_white he) (name_solid g.nm) (name_free g.nm)
      refine ⟨_, rfl, hN, rfl, ?_, fun d hd => ?_⟩
      · rw [pg_leaf]
        have := ReadOk.leaf (edge := edge) (down := downL) (page := nm) (by have := name_len g.nm; omega) (by rw [hsd]; rfl)
        rwa [hsd] at this
      · rw [pg_leaf, writtenF, map_id_of fun c hc => upN_base (name_base g.nm c hc) d]
    · have ih : ∀ k ∈ ks, ∃ u, u.size = k.size ∧ Named namesL u ∧ pg pad u = pg pad k ∧ ReadOk edge downL (pg pad k) u ∧ ∀ d, d + k.size ≤ 8 → cl (writtenF pad d u) = (cl (pg pad k)).map (upN d) := fun k hk =>
        told_ok hp he n k (by have := kid_size (n := nm) hk; omega) (by omega) (g.kid k hk).2
      obtain ⟨f, hf⟩ := choose_of ih
      obtain ⟨ks', hperm, hrows⟩ := perm_map (srt_perm (ks.map (rw' pad))).symm
      have hks' : ks' ≠ [] := fun e => hks (by subst e; exact List.length_eq_zero_iff.mp hperm.length_eq.symm)
      have hmem : ∀ k ∈ ks', k ∈ ks := fun k hk => hperm.mem_iff.mp hk
      have hne : ks'.map f ≠ [] := by simpa using hks'
      have hsame : (ks'.map f).map (rw' pad) = ks'.map (rw' pad) := by
        rw [List.map_map]
        refine List.map_congr_left fun k hk => ?_
        have := (hf k (hmem k hk)).2.2.1
        show replF (pg pad (f k)) upL = replF (pg pad k) upL
        rw [this]
      have hsz : (T.node nm (ks'.map f)).size = (T.node nm ks).size := by
        rw [T.size, T.size, sizes_map fun k hk => (hf k (hmem k hk)).1, sizes_perm hperm]
      refine ⟨.node nm (ks'.map f), hsz, ?_, ?_, ?_, ?_⟩
      · rw [Named]
        refine ⟨g.nm, nameds_mem.mpr fun u hu => ?_⟩
        obtain ⟨k, hk, rfl⟩ := List.mem_map.mp hu
        exact (hf k (hmem k hk)).2.1
      · rw [pg_node pad nm hne, pg_node pad nm hks, hsame, hrows, srt_uniq (srt_perm (ks.map (rw' pad)))]
      · have hpg := pg_join pad nm hks
        have hx : Solid (cl (Txt.join nl (nm :: pad :: srt (ks.map (rw' pad))))) := by
          rw [← hpg]
          exact (pg_facts hp 8 _ (by omega) (by omega) hN).1
        have hsd := splitdoc_page (edge_white he) hx (lines_free hp g) (pad_rstrip hp)
        rw [← hpg] at hsd
        have hspl : Txt.split (Txt.join nl (srt (ks.map (rw' pad)))) nl = ks'.map (rw' pad) := by
          rw [hrows, nl_mk]
          refine split_join ?_ fun x hx => lines_free hp g x (.tail _ (.tail _ hx))
          obtain ⟨q, r, e⟩ := srt_ne (xs := ks.map (rw' pad)) (by simpa using hks)
          rw [e]; simp
        have hlen2 : (pg pad (.node nm ks)).length ≤ 900 := by
          show (pageF pad upL (T.node nm ks)).length ≤ 900
          omega
        have h2 : (Txt.join nl (srt (ks.map (rw' pad)))).length ≠ 0 := by
          obtain ⟨q, r, e⟩ := srt_ne (xs := ks.map (rw' pad)) (by simpa using hks)
          rw [e]
          have hq : q ∈ srt (ks.map (rw' pad)) := by rw [e]; exact .head _
          obtain ⟨k, hk, rfl⟩ := List.mem_map.mp ((srt_perm _).mem_iff.mp hq)
          have hso := (row_solid hp (g.kid k hk).1 (g.kid k hk).2).len
          rw [← cl_len, cl_join, List.length_append]
          omega
        have h3 : (Txt.join nl (srt (ks.map (rw' pad)))).length ≤ 1000 := by
          have e := congrArg Str.length (pg_node pad nm hks)
          simp only [Str.length_append] at e
          omega
        have hR : ReadsOk edge downL (Txt.split (Txt.join nl (srt (ks.map (rw' pad)))) nl) (ks'.map f) := by
          rw [hspl]
          refine reads_map fun k hk => ?_
          rw [row_down hp (g.kid k (hmem k hk)).1 (g.kid k (hmem k hk)).2]
          exact (hf k (hmem k hk)).2.2.2.1
        have := ReadOk.node (edge := edge) (down := downL) (page := pg pad (.node nm ks)) (ks := ks'.map f) hlen2 (by rw [hsd]; exact h2) (by rw [hsd]; exact h3) (by rw [hsd]; exact hR)
        rwa [hsd] at this
      · intro d hd
        have htwo : 2 ≤ (T.node nm ks).size := by
          obtain ⟨k, hk⟩ := List.exists_mem_of_ne_nil _ hks
          have := kid_size (n := nm) hk
          have := size_pos k
          omega
        have hw : ∀ k ∈ ks', cl (writtenF pad (d + 1) (f k)) = (cl (rw' pad k)).map (upN d) := fun k hk => by
          rw [(hf k (hmem k hk)).2.2.2.2 (d + 1) (by have := kid_size (n := nm) (hmem k hk); omega), repl_up, List.map_map]
          rfl
        rw [pg_node pad nm hks, ← hrows]
        cases ks' with
        | nil => exact absurd rfl hks'
        | cons k r =>
          rw [List.map_cons, writtenF, writtenFs_map, List.map_cons, List.map_cons]
          simp only [cl_app, cl_join, List.map_append]
          rw [markF_cl d (by omega), nl_cl, hw k (.head _), map_id_of fun c hc => upN_base (name_base g.nm c hc) d, map_id_of fun c hc => upN_base (pad_base hp c hc) d]
          have hfl := flat_map (g := upN d) (c := 10) (row := rw' pad) (wr := fun k => writtenF pad (d + 1) (f k)) (l := r) fun k hk => hw k (.tail _ hk)
          rw [hfl, List.map_map]
          rw [List.map_cons, List.map_nil, upN_mark d (by omega)]
          rfl
/-! the page without its blank row -/
theorem split_once {x y : Str} {k : Nat} (hw : 1 ≤ y.length) (hk : Builtin.Str.strKind y ≤ Builtin.Str.strKind x) (hA : ∀ i, StrLaws.At x y x.length i ↔ i = k) : Txt.split x y = [Builtin.Str.strSub x 0 k, Builtin.Str.strSub x (k + y.length) x.length] := by
  obtain ⟨f, hG, hn⟩ := StrLaws.occ_tight x y hw
  have hk1 := (hA k).mpr rfl
  have hcuts : Builtin.Str.occurrences x y 0 x.length (x.length + 1) = [k] := by
    generalize Builtin.Str.occurrences x y 0 x.length (x.length + 1) = cuts at hG
    cases cuts with
    | nil =>
      have e : f = 0 := hG
      exact absurd hk1 (hn k (by omega))
    | cons c r =>
      have hc := (hA c).mp hG.2.1
      subst hc
      cases r with
      | nil => rfl
      | cons c2 r =>
        have h2 := hG.2.2.2
        have hc2 := (hA c2).mp h2.2.1
        have := h2.1
        omega
  unfold Txt.split
  rw [hcuts, if_neg, if_neg (by simp), StrLaws.partsBetween_eq]
  · rfl
  · simp only [Bool.or_eq_true, decide_eq_true_eq, not_or]
    have := hk1.1
    omega
theorem at_iff (x y : Str) (i : Nat) : StrLaws.At x y x.length i ↔ i + y.length ≤ x.length ∧ ((cl x).drop i).take y.length = cl y := by
  unfold StrLaws.At
  rw [StrLaws.subAt_eq, beq_iff_eq]
theorem no_at {p : List Nat} (hp : ∀ c ∈ p, Unicode.isSpace c = true) : ∀ (rows : List Str), (∀ q ∈ rows, Solid (cl q) ∧ 10 ∉ cl q) → ∀ k, ((flat [10] rows).drop k).take (p.length + 2) ≠ 10 :: (p ++ [10])
  | [], _, k => by rw [flat, List.drop_nil, List.take_nil]; simp
  | q :: r, hq, k => by
    intro h
    obtain ⟨hs, hf⟩ := hq q (.head _)
    rw [flat, List.append_assoc, List.singleton_append] at h
    rcases Nat.eq_zero_or_pos k with rfl | hk
    · obtain ⟨⟨c, t, e, hc⟩, _⟩ := hs
      rw [e, List.drop_zero, List.cons_append, List.take_succ_cons, List.take_succ_cons] at h
      simp only [List.cons.injEq, true_and] at h
      cases p with
      | nil =>
        simp only [List.nil_append, List.cons.injEq] at h
        rw [h.1] at hc
        exact absurd hc (by decide +kernel)
      | cons d p =>
        simp only [List.cons_append, List.cons.injEq] at h
        rw [h.1, hp d (.head _)] at hc
        exact absurd hc (by decide)
    · obtain ⟨j, rfl⟩ : ∃ j, k = j + 1 := ⟨k - 1, by omega⟩
      rw [List.drop_succ_cons] at h
      rcases Nat.lt_or_ge j (cl q).length with hj | hj
      · rw [List.drop_append_of_le_length (Nat.le_of_lt hj), List.drop_eq_getElem_cons hj, List.cons_append, List.take_succ_cons] at h
        simp only [List.cons.injEq] at h
        exact hf (h.1 ▸ List.getElem_mem hj)
      · obtain ⟨i, rfl⟩ : ∃ i, j = (cl q).length + i := ⟨j - (cl q).length, by omega⟩
        rw [List.drop_append] at h
        rw [List.drop_of_length_le (by omega), List.nil_append, Nat.add_sub_cancel_left] at h
        exact no_at hp r (fun x hx => hq x (.tail _ hx)) i h
theorem kind_one {y : Str} (h : ∀ c ∈ cl y, c < 256) (x : Str) : Builtin.Str.strKind y ≤ Builtin.Str.strKind x := by
  have h1 : Builtin.Str.strKind y = 1 := by
    unfold Builtin.Str.strKind
    rw [if_pos]
    rw [← Array.all_toList]
    exact List.all_eq_true.mpr fun c hc => decide_eq_true (h c hc)
  rw [h1]
  unfold Builtin.Str.strKind
  split
  · omega
  · split <;> omega
theorem bare_eq {pad n : Str} (hp : pad ∈ padsL) {ks : List T} (g : Good n ks) (hks : ks ≠ []) : replF (pg pad (.node n ks)) [nl ++ pad ++ nl, nl] = Txt.join nl (n :: srt (ks.map (rw' pad))) := by
  obtain ⟨q, r, e, hcl⟩ := cl_node pad n hks
  have hy : cl (nl ++ pad ++ nl) = 10 :: (cl pad ++ [10]) := by rw [cl_app, cl_app, nl_cl]; rfl
  have hyl : (nl ++ pad ++ nl).length = (cl pad).length + 2 := by rw [← cl_len, hy]; simp
  have hrows : ∀ x ∈ q :: r, Solid (cl x) ∧ 10 ∉ cl x := fun x hx => by
    rw [← e] at hx
    obtain ⟨k, hk, rfl⟩ := List.mem_map.mp ((srt_perm _).mem_iff.mp hx)
    exact ⟨row_solid hp (g.kid k hk).1 (g.kid k hk).2, row_free hp (g.kid k hk).1 (g.kid k hk).2⟩
  have hcl2 : cl (pg pad (.node n ks)) = cl n ++ 10 :: (cl pad ++ flat [10] (q :: r)) := by
    rw [hcl, flat]
    simp only [List.append_assoc, List.singleton_append, List.cons_append, List.nil_append]
  have hxl : (pg pad (.node n ks)).length = (cl n).length + ((cl pad).length + (flat [10] (q :: r)).length + 1) := by
    rw [← cl_len, hcl2, List.length_append, List.length_cons, List.length_append]
  have hfl : 1 ≤ (flat [10] (q :: r)).length := by rw [flat]; simp
  have hA : ∀ i, StrLaws.At (pg pad (.node n ks)) (nl ++ pad ++ nl) (pg pad (.node n ks)).length i ↔ i = (cl n).length := by
    intro i
    rw [at_iff, hy, hyl, hcl2]
    constructor
    · rintro ⟨_, h⟩
      rcases Nat.lt_trichotomy i (cl n).length with hi | hi | hi
      · exfalso
        rw [List.drop_append_of_le_length (Nat.le_of_lt hi), List.drop_eq_getElem_cons hi, List.cons_append, List.take_succ_cons] at h
        simp only [List.cons.injEq] at h
        exact name_free g.nm (h.1 ▸ List.getElem_mem hi)
      · exact hi
      · exfalso
        obtain ⟨j, rfl⟩ : ∃ j, i = (cl n).length + (j + 1) := ⟨i - (cl n).length - 1, by omega⟩
        rw [List.drop_append, List.drop_of_length_le (by omega), List.nil_append, Nat.add_sub_cancel_left, List.drop_succ_cons] at h
        rcases Nat.lt_or_ge j (cl pad).length with hj | hj
        · rw [List.drop_append_of_le_length (Nat.le_of_lt hj), List.drop_eq_getElem_cons hj, List.cons_append, List.take_succ_cons] at h
          simp only [List.cons.injEq] at h
          exact pad_free hp (h.1 ▸ List.getElem_mem hj)
        · obtain ⟨k, rfl⟩ : ∃ k, j = (cl pad).length + k := ⟨j - (cl pad).length, by omega⟩
          rw [List.drop_append, List.drop_of_length_le (by omega), List.nil_append, Nat.add_sub_cancel_left] at h
          exact no_at (pad_white hp) _ hrows k h
    · rintro rfl
      refine ⟨by omega, ?_⟩
      rw [List.drop_left, List.take_succ_cons, flat, List.append_assoc, List.singleton_append]
      rw [show (cl pad).length + 1 = (cl pad ++ [10]).length by simp, show cl pad ++ 10 :: (cl q ++ flat [10] r) = (cl pad ++ [10]) ++ (cl q ++ flat [10] r) by simp, List.take_left]
  have hsp := split_once (x := pg pad (.node n ks)) (y := nl ++ pad ++ nl) (k := (cl n).length) (by omega) (kind_one (fun c hc => by
    rw [hy] at hc
    simp only [List.mem_cons, List.mem_append, List.mem_nil_iff, or_false] at hc
    rcases hc with rfl | hc | rfl
    · omega
    · rcases pad_base hp c hc with rfl | rfl | rfl | rfl | rfl <;> omega
    · omega) _) hA
  show Txt.join nl (Txt.split _ _) = _
  rw [hsp]
  apply cl_inj
  rw [cl_join, cl_join, e, nl_cl]
  show cl (Builtin.Str.strSub _ _ _) ++ ([10] ++ cl (Builtin.Str.strSub _ _ _) ++ flat [10] []) = _
  rw [show ∀ (s : Str) (i j : Nat), cl (Builtin.Str.strSub s i j) = ((cl s).drop i).take (j - i) from StrLaws.strSub_toList, show ∀ (s : Str) (i j : Nat), cl (Builtin.Str.strSub s i j) = ((cl s).drop i).take (j - i) from StrLaws.strSub_toList]
  show (List.take _ (List.drop 0 (cl (pg pad (.node n ks))))) ++ ([10] ++ List.take _ (List.drop _ (cl (pg pad (.node n ks)))) ++ flat [10] []) = _
  rw [hyl, List.take_of_length_le (l := List.drop ((cl n).length + ((cl pad).length + 2)) (cl (pg pad (.node n ks)))) (by rw [List.length_drop, cl_len]; omega), List.drop_zero, Nat.sub_zero, hcl2, List.take_left]
  rw [show (cl n).length + ((cl pad).length + 2) = (cl n).length + (((cl pad).length + 1) + 1) by omega, List.drop_append, List.drop_of_length_le (by omega), List.nil_append, Nat.add_sub_cancel_left, List.drop_succ_cons]
  rw [List.drop_append, List.drop_of_length_le (by omega), List.nil_append, Nat.add_sub_cancel_left]
  rw [show flat [10] (q :: r) = [10] ++ cl q ++ flat [10] r from rfl, show flat [10] ([] : List Str) = [] from rfl]
  simp only [List.append_assoc, List.append_nil, List.singleton_append, List.cons_append, List.nil_append, List.drop_succ_cons, List.drop_zero]
/-- splitdoc of the page without its blank row -/
theorem bare_ok {pad edge : Str} (hp : pad ∈ padsL) (he : edge ∈ edgesL) {t : T} (h8 : t.size ≤ 8) (hN : Named namesL t) (hks : t.kids ≠ []) :
    splitdocF (edge ++ replF (pg pad t) [nl ++ pad ++ nl, nl] ++ edge) = (Str.empty, replF (pg pad t) [nl ++ pad ++ nl, nl]) := by
  cases t with
  | node n ks =>
    have hks : ks ≠ [] := hks
    have g := Good.of h8 hN
    rw [bare_eq hp g hks]
    obtain ⟨q, r, e⟩ := srt_ne (xs := ks.map (rw' pad)) (by simpa using hks)
    have hfree : ∀ x ∈ n :: srt (ks.map (rw' pad)), 10 ∉ cl x := fun x hx => by
      rcases List.mem_cons.mp hx with rfl | hx
      · exact name_free g.nm
      · exact lines_free hp g x (.tail _ (.tail _ hx))
    have hrow : ∀ x ∈ srt (ks.map (rw' pad)), Solid (cl x) := fun x hx => by
      obtain ⟨k, hk, rfl⟩ := List.mem_map.mp ((srt_perm _).mem_iff.mp hx)
      exact row_solid hp (g.kid k hk).1 (g.kid k hk).2
    have hsol : Solid (cl (Txt.join nl (n :: srt (ks.map (rw' pad))))) := by
      rw [cl_join]
      exact solid_flat (name_solid g.nm) hrow
    rw [e] at hfree hrow hsol ⊢
    exact splitdoc_bare (edge_white he) hsol hfree (hrow q (.head _))
theorem ok_small {h c : Nat} (o : Ok h c) (e : h ≤ 100) : c < 0x110000 := by
  rcases o with o | ⟨i, hi, rfl⟩
  · rcases o with rfl | rfl | rfl | rfl | rfl <;> omega
  · unfold markN
    split <;> omega
theorem bare_small {pad : Str} (hp : pad ∈ padsL) {t : T} (h8 : t.size ≤ 8) (hN : Named namesL t) (hks : t.kids ≠ []) :
    PyData.strOk (replF (pg pad t) [nl ++ pad ++ nl, nl]) = true := by
  cases t with
  | node n ks =>
    have hks : ks ≠ [] := hks
    have g := Good.of h8 hN
    rw [bare_eq hp g hks]
    show Array.all _ _ = true
    rw [← Array.all_toList]
    refine List.all_eq_true.mpr fun c hc => decide_eq_true ?_
    have hc : c ∈ cl (Txt.join nl (n :: srt (ks.map (rw' pad)))) := hc
    rw [cl_join] at hc
    rcases List.mem_append.mp hc with hc | hc
    · exact ok_small (h := 0) (.inl (name_base g.nm c hc)) (by omega)
    · rcases mem_flat hc with hc | ⟨q, hq, hc⟩
      · rw [nl_cl, List.mem_singleton] at hc
        rw [hc]; omega
      · obtain ⟨k, hk, rfl⟩ := List.mem_map.mp ((srt_perm _).mem_iff.mp hq)
        rw [repl_up] at hc
        obtain ⟨d, hd, rfl⟩ := List.mem_map.mp hc
        exact ok_small ((pg_ok6 hp (g.kid k hk).1 (g.kid k hk).2 d hd).up (by omega)) (by omega)
end Mine
namespace Mine
local macro_rules | `(tactic| walk_at "compareOp NotEq ref ref") => `(tactic| (refine Stop.go ?_))
local macro_rules | `(tactic| walk_at "truthy ref") => `(tactic| (k_here; (with_reducible show wpAny _ _ (truthy (Value.ref _)) _ _ _); k_dflt (refine' truthy_lst ?zN ?zm ?zz ?_; (case zN => with_reducible assumption); (case zm => (repeat (first | with_reducible assumption | with_reducible exact List.mem_cons_self | refine List.mem_cons_of_mem _ ?_))); (case zz => first | with_reducible assumption | (simp only [List.length_nil]; omega)); k_whole); (try simp only [List.isEmpty_cons, List.isEmpty_nil, Bool.not_false, Bool.not_true])))
local macro_rules | `(tactic| walk_at "getMethod ref") => `(tactic| (k_here; (with_reducible show wpAny _ _ (getMethod (Value.ref _) (PySem.Str.ofString "append") _) _ _ _); k_dflt (refine' listMethod_K ?zN ?zm PySem.F.slot_list_append PySem.F.type_list_append ?_; (case zN => with_reducible assumption); (case zm => (repeat (first | with_reducible assumption | with_reducible exact List.mem_cons_self | refine List.mem_cons_of_mem _ ?_))))))
local macro_rules | `(tactic| walk_at "call builtin:list.append") => `(tactic| (refine Stop.go ?_))
local macro_rules | `(tactic| walk_at "call ref") => `(tactic| (refine Stop.go ?_))
local macro_rules | `(tactic| walk_at "pyIter ref") => `(tactic| (refine Stop.go ?_))
local macro_rules | `(tactic| walk_at "exec For Name Call cons nil") => `(tactic| (k_here; (rename Fr _ _ _ _ => lF'); (with_unfolding_all refine' For_invVF lF' ?k1 ?k2 ?_; (case k1 => exact rfl); (case k2 => exact rfl); k_whole)))
local macro_rules | `(tactic| walk_at "exec Assign cons ListComp") => `(tactic| (k_here; k_dflt (refine LCg.Assign_ListComp_U (F₀ := by k_asm) (by rfl) (by with_unfolding_all rfl) (by with_unfolding_all rfl) (by decide) (by rfl) (by decide) (by rfl) (by rfl) (by rfl) ?_)))
local macro_rules | `(tactic| walk_at "exec Assign cons ListComp") => `(tactic| (k_here; (with_reducible show wpAny _ _ (exec (Stmt.Assign [Expr.Name (Str.ofString "cells") _] _ _) _) _ _ _); refine Stop.go ?_))
local macro_rules | `(tactic| walk_at "eval ListComp") => `(tactic| (k_here; k_dflt (refine ListComp_S (F₀ := by k_asm) (by with_unfolding_all rfl) (by decide) (by rfl) (by decide) (by rfl) ?_)))
local macro_rules | `(tactic| walk_at "CompSrc") => `(tactic| (refine Stop.go ?_))
local macro_rules | `(tactic| walk_at "CompEnd") => `(tactic| (refine Stop.go ?_))
local macro_rules | `(tactic| walk_at "SrcS") => `(tactic| (refine Stop.go ?_))
local macro_rules | `(tactic| walk_at "eval Name") => `(tactic| (k_here; (with_reducible show wpAny _ _ (eval (Expr.Name _ _) (compEnvC _ _ _ _)) _ _ _); k_dflt (first
  | (refine' lcf_cell ?zN ?zc ?zm ?zd ?_ ?za ?zb; (case za => rfl); (case zb => rfl); (case zN => k_asm); (case zc => rfl); (case zm => (repeat (first | with_reducible assumption | with_reducible exact List.mem_cons_self | refine List.mem_cons_of_mem _ ?_))); (case zd => k_asm); k_whole)
  | (refine' lcf_free ?zN ?zc ?zm ?zd ?_ ?za ?zb; (case za => rfl); (case zb => rfl); (case zN => k_asm); (case zc => rfl); (case zm => (repeat (first | with_reducible assumption | with_reducible exact List.mem_cons_self | refine List.mem_cons_of_mem _ ?_))); (case zd => k_asm); k_whole))))
local macro_rules | `(tactic| walk_at "eval Name") => `(tactic| (k_here; (with_reducible show wpAny _ _ (eval (Expr.Name _ _) (envOfC _ _ _ _ _)) _ _ _); name_kind "cell"; k_dflt (refine' nameX_C ?zN ?zc ?zm ?zd ?_ ?za ?zb; (case za => rfl); (case zb => rfl); (case zN => with_reducible assumption); (case zc => rfl); (case zm => (repeat (first | with_reducible assumption | with_reducible exact List.mem_cons_self | refine List.mem_cons_of_mem _ ?_))); (case zd => with_reducible assumption); k_whole)))
local macro_rules | `(tactic| walk_at "subscriptTail") => `(tactic| (k_here; (with_reducible show wpAny _ _ (subscriptTail _ _ (Value.ref _) (Value.int _ _)) _ _ _); first
  | k_dflt (refine' item_tup ?zN ?zm ?za ?zb ?zx ?_ ?zs; (case zN => with_reducible assumption); (case zm => (repeat (first | with_reducible assumption | with_reducible exact List.mem_cons_self | refine List.mem_cons_of_mem _ ?_))); (case za => first | decide | omega); (case zb => first | decide | omega); (case zx => first | exact rfl | with_reducible assumption); (case zs => with_unfolding_all rfl); k_whole)
  | k_dflt (refine' item_lst ?zN ?zm ?za ?zb ?zx ?_ ?zs; (case zN => with_reducible assumption); (case zm => (repeat (first | with_reducible assumption | with_reducible exact List.mem_cons_self | refine List.mem_cons_of_mem _ ?_))); (case za => first | decide | omega); (case zb => first | decide | omega); (case zx => with_reducible assumption); (case zs => with_unfolding_all rfl); k_whole)
  | refine Stop.go ?_))
local macro_rules | `(tactic| walk_at "subscriptTail") => `(tactic| (k_here; (with_reducible show wpAny _ _ (subscriptTail _ _ (Value.ref _) (Value.int (Int.fmod _ _) _)) _ _ _); k_dflt (refine' item_menu ?zN ?zm ?zS ?za ?zb ?zz ?_ ?zs; (case zN => k_asm); (case zm => (repeat (first | with_reducible assumption | with_reducible exact List.mem_cons_self | refine List.mem_cons_of_mem _ ?_))); (case zS => rfl); (case za => decide); (case zb => (simp only [List.length_cons, List.length_nil]; omega)); (case zz => (simp only [List.length_cons, List.length_nil]; omega)); (case zs => (intro _; with_unfolding_all rfl)); k_whole); intro _ _ hMenu; walk_say "MENU"))
open LCg
theorem size_of (n : Nat) : ∃ z : Nat, 4 ≤ z ∧ z ≤ 8 ∧ (if (if (8 : Int) < (n : Int) then (8 : Int) else (n : Int)) > 4 then if (8 : Int) < (n : Int) then (8 : Int) else (n : Int) else 4) = (z : Int) := by
  refine ⟨(if (if (8 : Int) < (n : Int) then (8 : Int) else (n : Int)) > 4 then if (8 : Int) < (n : Int) then (8 : Int) else (n : Int) else 4).toNat, ?_, ?_, ?_⟩ <;> (repeat' split) <;> omega
set_option maxRecDepth 100000 in
set_option maxHeartbeats 8000000 in
theorem law_ok : PySem.Challenge.rw_rl0158_01.Holds := by
  refine Mine.hd ?_
  k_go0
  k_steps
  rename (_ = Data.cell (some (Value.int _ _))) => hsz
  rename (¬ (_ : Int) < _) => h63
  rename (IntsAre _ _) => hI
  rename (Fr _ _ _ _) => F
  rename (News _ _ _ _) => N
  rename List Int => xs
  obtain ⟨z, hz4, hz8, hz⟩ := size_of xs.length
  rw [hz] at hsz
  have hxl : xs.length ≤ 63 := by omega
  refine Stop.on (LCg.Assign_ListComp_U (F₀ := F) (by rfl) (by with_unfolding_all rfl) (by with_unfolding_all rfl) (by decide) (by rfl) (by decide) (by rfl) (by rfl) (by rfl) ?_)
  k_steps
  rename (Fr _ _ _ _) => F
  rename (News _ _ _ _) => N
  rename (IsRange _ _ _ _ _ _ _ _) => hr
  rename List Value => vsS
  have hvx : vsS.length = xs.length := hI.length
  refine Stop.on (CompSrc.range (n := z) rfl F N hr (range_small (by omega) (by omega) (by omega) (by omega) (by omega) (by omega)) (by rw [rangeSize_nat]; omega) (by rw [sizeLine_eq]; omega) fun g => compRest_of (fun i ys nx => nx = _ ∧ ∃ cs : List Int, cs.length = i ∧ IntsAre ys cs) (n := z) ?_ ?_ _ 0 [] _ (Nat.zero_add _) ⟨rfl, [], rfl, .nil⟩)
  ·
    --BEGIN
    rintro i v ys nx I oI Cc oC D m₂ h tk E' hi ⟨rfl, cs, hcl, hcs⟩ ⟨t, rfl⟩ hC hx F5 N5 off hIC hID hCD
    k_steps
    rename (Fr _ _ _ _) => F6
    rename (News _ _ _ _) => N6
    rename (IsRange _ _ _ _ _ _ _ _) => hr6
    obtain ⟨nn, hnn, hnn2⟩ := range_len (a := 0 + (i : Int)) (b := (xs.length : Int)) (c := (z : Int)) (by omega) (by omega) (by omega)
    refine Stop.on ⟨_, _, _, _, _, _, _, nn, _, rfl, rfl, F6, N6, hr6, range_small (by omega) (by omega) (by omega) (by omega) (by omega) (by omega), hnn, (by rw [sizeLine_eq]; omega), ?_⟩
    rintro s₂ ⟨g2, rfl⟩
    refine compRest_of (fun k zs nx => nx = _ ∧ ∃ ds : List Int, ds.length = k ∧ IntsAre zs ds) (n := nn) ?_ ?_ _ 0 [] _ (Nat.zero_add _) ⟨rfl, [], rfl, .nil⟩
    · rintro k v zs nx I2 oI2 C2 oC2 D2 m3 h3 tk3 E3 hk ⟨rfl, ds, hdl, hds⟩ ⟨t3, rfl⟩ hC3 hx3 F7 N7 off7 hIC7 hID7 hCD7
      have hj0 : (0 : Int) ≤ 0 + (i : Int) + (k : Int) * (z : Int) := by
        have := Int.mul_nonneg (Int.natCast_nonneg k) (Int.natCast_nonneg z)
        omega
      have hj1 := range_in (by omega) hnn hk
      k_steps
      refine Stop.on (CompEnd.intro F7 N7 _ (fun p hp => hp) off7 trivial ⟨rfl, ds ++ [_], by rw [List.length_append, hdl]; rfl, IntsAre.append hds (.cons _ _ .nil)⟩)
    · rintro zs nx ⟨rfl, ds, hdl, hds⟩
      intro D2 h3 tk3 F7 N7 off7
      k_steps
      rename (Fr _ _ _ _) => F8
      rename (News _ _ _ _) => N8
      refine Stop.on (CompEnd.intro F8 N8 _ ?_ off trivial ⟨rfl, cs ++ [_], by rw [List.length_append, hcl]; rfl, IntsAre.append hcs (.cons _ _ .nil)⟩)
      intro p hp
      first | exact hp | exact .tail _ hp
    --END
  · rintro ys nx ⟨rfl, cs, hcl, hcs⟩
    intro D h3 tk3 F7 N7 off7
    simp only [Off1, and_true] at off7
    have hyl : ys.length = z := by rw [hcs.length]; exact hcl
    k_steps
    rename_i aNames q1 ltN q2 oNames dNames q3 aPadM q4 q5 q6 padv padt hPad q7 oPad dPad q8 aEdgeM q9 q10 q11 edgev edget hEdge q12 q13 aUp q14 q15 q16 oUp dUp q17 aDown q18 ltDown q19 F8 N8
    obtain ⟨Bs, N9, off37, mDown, mUp, mNames, mCells, mcUp, mcPad, mcNames, mcSize⟩ := regroup N8 ltN.2.2.2.2.2.2 q5.1 q10.1 q15.1 ltDown.1 off7.2.2.2.2.2 (by assumption)
    obtain ⟨vsD, hsD, mDown⟩ : ∃ vsD, StrsAre vsD downL ∧ (aDown, lstO vsD 0) ∈ Bs := ⟨_, by (repeat (first | exact StrsAre.nil | refine StrsAre.cons _ _ ?_)), mDown⟩
    obtain ⟨vsU, hsU, mUp⟩ : ∃ vsU, StrsAre vsU upL ∧ (aUp, lstO vsU 0) ∈ Bs := ⟨_, by (repeat (first | exact StrsAre.nil | refine StrsAre.cons _ _ ?_)), mUp⟩
    clear N8
    refine Stop.on (CompSrc.ledger (its := ys.toArray) (k := ys.length) rfl F8 N9 (.tail _ mCells) (by rw [List.size_toArray, sizeLine_eq]; omega) fun g => compRest_of (fun i zs nx => ∃ rs : List R, nx = ledAll rs ++ ((37, tabObj #[]) :: Bs) ∧ zs = rs.map (fun r => Value.ref r.a) ∧ rs.length = i ∧ (∀ r ∈ rs, r.kids = [] ∧ r.nm ∈ namesL) ∧ SepR rs ∧ (∀ q ∈ ledAll rs, ∀ p ∈ ((37, tabObj #[]) :: Bs : Led), q.1 ≠ p.1)) (n := ys.toArray.size) ?_ ?_ _ 0 [] _ (Nat.zero_add _) ⟨[], rfl, rfl, rfl, (fun _ h => (nomatch h)), SepR.nil, fun _ h => (nomatch h)⟩)
    ·
      --BEGIN
      rintro i v zs nx I oI Cc oC Dl m₂ hh tk2 E' hi ⟨rs, rfl, rfl, hln, hkid, hsep, hap⟩ hv hC hx F5 N5 off hIC hID hCD
      have hv' : ys[i]? = some v := by simpa using hv
      obtain ⟨cv, ct, rfl, hcv⟩ := ints_at hcs hv'
      obtain ⟨Xl, hXl⟩ : ∃ Xl : Led, Xl = ledAll rs ++ ((37, tabObj #[]) :: Bs) := ⟨_, rfl⟩
      rw [← hXl] at N5 off
      have xNames := mem_app (A := ledAll rs) (e := (37, tabObj #[])) mNames
      have xcNames := mem_app (A := ledAll rs) (e := (37, tabObj #[])) mcNames
      rw [← hXl] at xNames xcNames
      clear mDown mUp mNames mcUp mcPad mcNames mcSize hsD hsU F8 N9
      k_steps
      rename_i x9 t9 hM9 l9 hA9 l9lt D9 hB9 F9 N9' D9lt
      obtain ⟨q1, q2, q3, q4, q5⟩ := trees_step (A := (37, tabObj #[]) :: Bs) hXl off l9lt D9lt hM9 hkid hsep hap
      refine Stop.on (CompEnd.intro F9 N9' _ q1 q2 (.inr ⟨lstO ys ys.length, List.mem_append_right _ (.tail _ mCells), rfl, ys.length, rfl⟩) ⟨_, rfl, ?_, ?_, q3, q4, q5⟩)
      · rw [List.map_append]; rfl
      · rw [List.length_append, hln]; rfl
      --END
    · rintro zs nx ⟨rs, rfl, rfl, hln, hkid, hsep, hap⟩
      intro Dt h5 tk5 F5 N5 off5
      clear N9
      rw [List.size_toArray] at hln
      have hpadL : padv ∈ padsL := by
        simp only [List.mem_cons, Value.str.injEq, List.mem_nil_iff, or_false] at hPad
        rcases hPad with ⟨rfl, _⟩ | ⟨rfl, _⟩ | ⟨rfl, _⟩
        · exact .head _
        · exact .tail _ (.head _)
        · exact .tail _ (.tail _ (.head _))
      have hedgeL : edgev ∈ edgesL := by
        simp only [List.mem_cons, Value.str.injEq, List.mem_nil_iff, or_false] at hEdge
        rcases hEdge with ⟨rfl, _⟩ | ⟨rfl, _⟩ | ⟨rfl, _⟩ | ⟨rfl, _⟩
        · exact .head _
        · exact .tail _ (.head _)
        · exact .tail _ (.tail _ (.head _))
        · exact .tail _ (.tail _ (.tail _ (.head _)))
      have hDt37 : Dt ≠ 37 := fun e => off1_mem off5 (37, tabObj #[]) (List.mem_append_right _ (.head _)) e.symm
      clear hPad hEdge hT8
      (try (rename (Ground _ _ _ _ _ _ _ _ _) => z9; clear z9))
      (try (rename (Hook.says _ _ _) => z9; clear z9))
      (try (rename (Heap.CodeRec _ _ _) => z9; clear z9))
      (try (rename (Flt.MathXP _ _ _) => z9; clear z9))
      (try (rename (LooseAre _ _ _) => z9; clear z9))
      (try (rename (Tables _ _ _ _) => z9; clear z9))
      (try (rename (TopE _ _ _ _) => z9; clear z9))
      (try (rename (TopW _ _ _) => z9; clear z9))
      (try (rename (Dflts _ _ _ _ _ _) => z9; clear z9))
      (try (rename (CellsAre _ _ _) => z9; clear z9))
      (try (rename (ReadsAllW _ _ _ _ _ _) => z9; clear z9))
      (try (rename (ReadsAll _ _ _ _) => z9; clear z9))
      (try (rename (Reads _ _ _) => z9; clear z9))
      (try (rename (Well _ _ _ _) => z9; clear z9))
      (try (rename (_ = Data.cell (bindC _ _ _ _)) => z9; clear z9))
      (try (rename (_ = Data.cell (bindC _ _ _ _)) => z9; clear z9))
      (try (rename (_ = Data.cell (bindC _ _ _ _)) => z9; clear z9))
      (try (rename (_ = Data.cell (bindC _ _ _ _)) => z9; clear z9))
      (try (rename (_ = Data.cell (bindC _ _ _ _)) => z9; clear z9))
      have clr9 : True := by
        (apply clr; (case a => trivial); (case b => trivial); (case c => trivial); (case d => trivial); (case e => trivial); (case f => trivial); (case k => trivial); (case m => trivial); (case n => trivial); (case s => trivial); (case t => trivial); (case v => trivial); (case w => trivial); (case z => trivial); (case x => trivial); (case y => trivial); (case l => trivial); (case i => trivial); (case j => trivial); (case p => trivial); (case q => trivial); (case r => trivial); (case u => trivial); (case N => trivial); (case F => trivial); (case X => trivial); (case T => trivial); (case A => trivial); (case B => trivial); (case D => trivial); (case U => trivial); (case C => trivial); (case S => trivial); (case E => trivial); (case Q => trivial); (case k1 => trivial); (case k2 => trivial); (case k3 => trivial); (case k4 => trivial); (case k5 => trivial); (case k6 => trivial); (case k7 => trivial); (case k8 => trivial); (case k9 => trivial); (case h => trivial))
      clear clr9
      rename (Below _ _ _ _) => kB
      rename (Top _ _ _ _ _ _) => kT
      rename (Frag.In _ _) => kX
      obtain ⟨m0, F6, hLF⟩ : ∃ m0, Fr _ _ h5 m0 ∧ LF m0 D Dt aDown edgev edget := ⟨_, F5, ⟨rfl, rfl, rfl, rfl⟩⟩
      clear F5
      rw [hLF.rep] at F6
      obtain ⟨zs, hzs⟩ : ∃ zs : List Value, zs = rs.map (fun r => Value.ref r.a) := ⟨_, rfl⟩
      rw [← hzs] at N5
      have hzl : zs.length = z := by rw [hzs, List.length_map, hln, hyl]
      obtain ⟨A1, hA1⟩ : ∃ A1 : Led, A1 = (Dt, lstO zs zs.length) :: (37, tabObj #[]) :: Bs := ⟨_, rfl⟩
      have N6 : News (ghostOf _ [(41, 37)]) _ h5 (ledAll rs ++ A1) := news_sub N5 fun p hp => by
        rw [hA1] at hp
        simp only [List.mem_append, List.mem_cons] at hp ⊢
        rcases hp with hp | hp | hp | hp <;> simp only [hp, true_or, or_true]
      have hap1 : ∀ q ∈ ledAll rs, ∀ p ∈ A1, q.1 ≠ p.1 := by
        have h1 := off1_mem off5
        intro q hq p hp
        rw [hA1] at hp
        rcases List.mem_cons.mp hp with rfl | hp
        · exact h1 q (List.mem_append_left _ hq)
        · exact hap q hq p hp
      clear N5 off5 hap
      obtain ⟨Xl, hXl⟩ : ∃ Xl : Led, Xl = ledAll rs ++ A1 := ⟨_, rfl⟩
      rw [← hXl] at N6
      have hBX : ∀ q ∈ Bs, q ∈ Xl := fun q hq => by
        rw [hXl, hA1]
        exact List.mem_append_right _ (.tail _ (.tail _ hq))
      have xcSize := hBX _ mcSize
      have hzz : Stop (4 ≤ z ∧ z ≤ 8) := ⟨hz4, hz8⟩
      clear hz4 hz8 hz F8
      k_steps
      rename_i h7 tk7 ta ub vc hr7 F7 N7 kp7
      have hz1 : (z : Int) - 1 = ((z - 1 : Nat) : Int) := by have := hzz.go; omega
      have hza : z - 1 ≤ 100 := by have := hzz.go; omega
      refine Stop.on (iter_range (fun i m₁ nx => LF m₁ D Dt aDown edgev edget ∧ ∃ rs ts, nx = ledAll rs ++ A1 ∧ zs = rs.map (fun r => Value.ref r.a) ∧ Hung namesL z (z - 1 - i) rs ts ∧ SepR rs ∧ (∀ q ∈ ledAll rs, ∀ p ∈ A1, q.1 ≠ p.1)) (n := z - 1) rfl hr7 (by rw [hz1]; exact (range_down hza).2) (by rw [hz1]; exact (range_down hza).1) F7 N7 ?_ ?_ ?_)
      · refine ⟨⟨rfl, rfl, rfl, rfl⟩, rs, leafs rs, hXl, hzs, Hung.start (by rw [hln, hyl]) (by have := hzz.go; omega) hkid, hsep, hap1⟩
      ·
        --BEGIN
        rintro i ti m₁ nx h8 tk8 I oI hi ⟨hLF8, rs, ts, rfl, hzs, hH, hsep, hap⟩ hoI F8 N8
        clear F7 N7
        obtain ⟨k, hk⟩ : ∃ k, z - 1 - i = k + 1 := ⟨z - 2 - i, by omega⟩
        have hki : (z : Int) - 1 + (i : Int) * (-1) = ((k + 1 : Nat) : Int) := by omega
        have hkz : k + 1 < z := by omega
        rw [hki, hLF8.rep] at F8
        rw [hk] at hH
        obtain ⟨cv, ct, hcv⟩ : ∃ cv ct, ys[((k + 1 : Nat) : Int).toNat]? = some (.int cv ct) := by
          have h1 : k + 1 < ys.length := by omega
          obtain ⟨n, t, e, _⟩ := ints_at hcs (List.getElem?_eq_getElem h1)
          exact ⟨n, t, by rw [← e]; exact List.getElem?_eq_getElem h1⟩
        obtain ⟨Xl, hXl⟩ : ∃ Xl : Led, Xl = ledAll rs ++ A1 := ⟨_, rfl⟩
        have hAX : ∀ q ∈ A1, q ∈ Xl := fun q hq => hXl ▸ List.mem_append_right _ hq
        have hRX : ∀ q ∈ ledAll rs, q ∈ Xl := fun q hq => hXl ▸ List.mem_append_left _ hq
        have xCells : (D, lstO ys ys.length) ∈ Xl := hAX _ (hA1 ▸ .tail _ (.tail _ mCells))
        have xTrees : (Dt, lstO zs zs.length) ∈ Xl := hAX _ (hA1 ▸ .head _)
        rw [← hXl] at N8
        have hfm0 : 0 ≤ (cv.fdiv 3).fmod ((k + 1 : Nat) : Int) := Int.fmod_nonneg_of_pos _ (by omega)
        have hfm1 : (cv.fdiv 3).fmod ((k + 1 : Nat) : Int) < ((k + 1 : Nat) : Int) := Int.fmod_lt_of_pos _ (by omega)
        have hrl : rs.length = z := hH.len
        obtain ⟨rp, hrp⟩ : ∃ rp, rs[((cv.fdiv 3).fmod ((k + 1 : Nat) : Int)).toNat]? = some rp := ⟨_, List.getElem?_eq_getElem (by omega)⟩
        obtain ⟨rk, hrk⟩ : ∃ rk, rs[k + 1]? = some rk := ⟨_, List.getElem?_eq_getElem (by omega)⟩
        have hzp : zs[((cv.fdiv 3).fmod ((k + 1 : Nat) : Int)).toNat]? = some (.ref rp.a) := by rw [hzs, List.getElem?_map, hrp]; rfl
        have hzk : zs[((k + 1 : Nat) : Int).toNat]? = some (.ref rk.a) := by
          rw [hzs, List.getElem?_map, show ((k + 1 : Nat) : Int).toNat = k + 1 from rfl, hrk]; rfl
        have xP := hRX _ (ledAll_mem hrp).1
        have xL := hRX _ (ledAll_mem hrp).2
        have hkl := hH.kids_len hrp
        have hkl2 : rp.kids.length ≤ 100000 := by have := hzz.go; omega
        obtain ⟨tp, tq, htp, htq, hH2⟩ := hH.step (n := rp.n2 + 1) (p := ((cv.fdiv 3).fmod ((k + 1 : Nat) : Int)).toNat) (by omega) hkz hrp hrk
        obtain ⟨pre, post, e1, e2, hpre, hpost, hsep2⟩ := led_push hrp (.ref rk.a) (rp.n2 + 1) hsep
        k_steps
        rename (Fr _ _ _ _) => F9
        rename (News _ _ _ _) => N9
        have hIl : I ≠ rp.l := (hoI (rp.l, lstO rp.kids rp.n2) (List.mem_append_left _ (ledAll_mem hrp).2)).symm
        refine Stop.on (append_led (pre := (I, oI) :: pre) (post := post ++ A1) (n := rp.n2) (vs := rp.kids) F9 (news_sub N9 ?_) ?_ ?_ hkl2 ?_)
        · intro q hq
          rw [hXl, e1]
          simp only [List.mem_cons, List.mem_append, List.cons_append] at hq ⊢
          rcases hq with hq | hq | hq | hq | hq <;> simp only [hq, true_or, or_true]
        · exact offC (P := fun q => q.1 ≠ rp.l) hIl hpre
        · intro q hq
          rcases List.mem_append.mp hq with hq | hq
          · exact hpost q hq
          · exact (hap _ (ledAll_mem hrp).2 q hq).symm
        intro h10 F10 N10
        k_steps
        have hcur : z - 1 - (i + 1) = k := by omega
        refine ⟨_, _, _, ledAll (rs.set ((cv.fdiv 3).fmod ((k + 1 : Nat) : Int)).toNat (rp.push (.ref rk.a) (rp.n2 + 1))) ++ A1, rfl, F10, news_sub N10 ?_, ?_, ⟨rfl, rfl, rfl, rfl⟩, _, ts.set ((cv.fdiv 3).fmod ((k + 1 : Nat) : Int)).toNat (addKid tp tq), rfl, ?_, (by rw [hcur]; exact hH2), hsep2, ?_⟩
        · intro q hq
          rw [e2] at hq
          simp only [List.mem_cons, List.mem_append, List.cons_append] at hq ⊢
          rcases hq with hq | (hq | hq | hq) | hq <;> simp only [hq, true_or, or_true]
        · intro q hq
          rcases List.mem_append.mp hq with hq | hq
          · exact led_same (P := fun a => a ≠ I) hrp _ _ (fun q hq => hoI q (List.mem_append_left _ hq)) q hq
          · exact hoI q (List.mem_append_right _ hq)
        · rw [push_map hrp]; exact hzs
        · exact fun q hq p hp => led_same (P := fun a => a ≠ p.1) hrp _ _ (fun q hq => hap q hq p hp) q hq
        --END
      · rintro m₁ nx h8 tk8 ⟨hLF8, rs, ts, rfl, hzs, hH, hsep, hap⟩ F8 N8
        clear F7 N7
        rw [Nat.sub_self] at hH
        rw [hLF8.rep] at F8
        obtain ⟨Cs, hCs⟩ : ∃ Cs : Led, Cs = ledAll rs ++ (Dt, lstO zs zs.length) :: Bs := ⟨_, rfl⟩
        have N9 : News (ghostOf _ [(41, 37)]) _ h8 ((37, tabObj #[]) :: Cs) := news_sub N8 fun q hq => by
          rw [hCs] at hq
          rw [hA1]
          simp only [List.mem_append, List.mem_cons] at hq ⊢
          rcases hq with hq | hq | hq | hq <;> simp only [hq, true_or, or_true]
        have offC37 : ∀ q ∈ Cs, q.1 ≠ 37 := by
          intro q hq
          rw [hCs] at hq
          rcases List.mem_append.mp hq with hq | hq
          · exact hap q hq (37, tabObj #[]) (hA1 ▸ .tail _ (.head _))
          · rcases List.mem_cons.mp hq with rfl | hq
            · exact hDt37
            · exact off37 q hq
        clear N8
        have hBC : ∀ q ∈ Bs, q ∈ Cs := fun q hq => hCs ▸ List.mem_append_right _ (.tail _ hq)
        have xTrees : (Dt, lstO zs zs.length) ∈ Cs := hCs ▸ List.mem_append_right _ (.head _)
        have hrl : rs.length = z := hH.len
        have hTr : ∀ j, j < z → ∃ t v, ts[j]? = some t ∧ zs[j]? = some v ∧ TreeIn Cs v t := fun j hj => by
          obtain ⟨r, hr⟩ : ∃ r, rs[j]? = some r := ⟨_, List.getElem?_eq_getElem (by omega)⟩
          obtain ⟨t, ht, hT⟩ := hH.tree hr
          exact ⟨t, .ref r.a, ht, by rw [hzs, List.getElem?_map, hr]; rfl, hT.mono fun q hq => hCs ▸ List.mem_append_left _ hq⟩
        have hNm := hH.named
        have hSm := hH.small
        have htl := hH.len2
        clear hap hsep
        k_steps
        rename (Fr _ _ _ _) => F9
        rename (News _ _ _ _) => N10
        refine Stop.on (CompSrc.ledger (its := zs.toArray) (k := zs.length) rfl F9 N10 (.tail _ xTrees) (by rw [List.size_toArray, sizeLine_eq]; have := hzz.go; omega) fun g => compRest_of (fun i ys nx => ∃ ps' tl, nx = (37, tabObj ps') :: (Cs ++ tl) ∧ (ps' = #[] ∨ LamOk ps' tl) ∧ Grew Cs tl ∧ (∀ q ∈ tl, 37 < q.1) ∧ StrsAre ys ((ts.take i).map (pageF padv upL))) (n := zs.toArray.size) ?_ ?_ _ 0 [] _ (Nat.zero_add _) ⟨#[], [], by rw [List.append_nil], .inl rfl, Grew.nil, (fun _ h => (nomatch h)), .nil⟩)
        ·
          --BEGIN
          rintro i v ys' nx I oI Cc oC Dl m₂ hh tk2 E' hi ⟨ps', tl, rfl, hst, hgr, htl2, hys⟩ hv hC hx F5 N5 off hIC hID hCD
          have hiz : i < z := by rw [List.size_toArray] at hi; omega
          obtain ⟨t, v', ht, hv2, hT⟩ := hTr i hiz
          have hv' : zs[i]? = some v := by simpa using hv
          rw [hv'] at hv2
          cases hv2
          have htm := List.mem_of_getElem? ht
          obtain ⟨Xl, hXl⟩ : ∃ Xl : Led, Xl = (37, tabObj ps') :: (Cs ++ tl) := ⟨_, rfl⟩
          have hCX : ∀ q ∈ Cs, q ∈ Xl := fun q hq => hXl ▸ .tail _ (List.mem_append_left _ hq)
          rw [← hXl] at N5 off
          have xcPad := hCX _ (hBC _ mcPad)
          have xcUp := hCX _ (hBC _ mcUp)
          have tsz : t.size ≤ 8 := Nat.le_trans (hSm t htm) hzz.go.2
          have tNm := hNm t htm
          k_steps
          rename (Fr _ _ _ _) => F6
          rename (News _ _ _ _) => N6
          have offm := Off3.mem off
          refine Stop.on (page_ok 8 (ps := ps') (B := kB) (F := F6) (X := kX) (T := kT) (hk := rfl) (news := (I, oI) :: (Cc, oC) :: (Dl, lst ys') :: (Cs ++ tl)) (N := news_sub N6 ?_) (hlam := ?_) (hd := by ktr_room) (hu := by ktr_units) (C := codeHd) (hoff := ?_) (hm := hT.mono ?_) (ku := 0) (hU := ?_) (hus := hsU) (hul := ?_) (hev := ev_up) (hpad := pad_len hpadL) (ht := named_short tNm) (hn := tsz) (hn2 := by omega) (ret := ?_))
          · intro p hp
            rw [hXl]
            simp only [List.mem_cons] at hp ⊢
            rcases hp with hp | hp | hp | hp | hp <;> simp only [hp, true_or, or_true]
          · rcases hst with rfl | hst
            · exact .inl rfl
            · exact hst.mono fun p hp => .tail _ (.tail _ (.tail _ (List.mem_append_right _ hp)))
          · have e3 := offm (37, tabObj ps') (hXl ▸ .head _)
            refine offC (P := fun q => q.1 ≠ 37) (Ne.symm e3.1) (offC (P := fun q => q.1 ≠ 37) (Ne.symm e3.2.1) (offC (P := fun q => q.1 ≠ 37) (Ne.symm e3.2.2) fun q hq => ?_))
            rcases List.mem_append.mp hq with hq | hq
            · exact offC37 q hq
            · exact (Nat.ne_of_lt (htl2 q hq)).symm
          · exact fun q hq => .tail _ (.tail _ (.tail _ (List.mem_append_left _ hq)))
          · exact .tail _ (.tail _ (.tail _ (List.mem_append_left _ (hBC _ mUp))))
          · rw [strs_len hsU]; decide
          intro ta ps2 tl3 h6 tk6 F7 N7 gr2 ht2 st2
          k_steps
          rename (Fr _ _ _ _) => F11
          rename (News _ _ _ _) => N11
          refine Stop.on (CompEnd.intro F11 N11 ((37, tabObj ps2) :: (Cs ++ (tl ++ tl3))) ?_ ?_ (.inr ⟨lstO zs zs.length, .tail _ (List.mem_append_left _ xTrees), rfl, zs.length, rfl⟩) ⟨ps2, tl ++ tl3, rfl, LamOk.step hst st2, hgr.add (gr2.of_sub ?_), ?_, ?_⟩)
          · intro p hp
            simp only [List.mem_cons, List.mem_append, List.cons_append] at hp ⊢
            rcases hp with hp | hp | hp | hp | hp | hp | hp <;> simp only [hp, true_or, or_true]
          · refine Off3.of ?_
            intro q hq
            rcases List.mem_cons.mp hq with rfl | hq
            · exact offm (37, tabObj ps') (hXl ▸ .head _)
            · rw [← List.append_assoc] at hq
              rcases List.mem_append.mp hq with hq | hq
              · exact offm q (hXl ▸ .tail _ hq)
              · exact ⟨(Nat.ne_of_lt (gr2 _ (.head _) q hq)).symm, (Nat.ne_of_lt (gr2 _ (.tail _ (.head _)) q hq)).symm, (Nat.ne_of_lt (gr2 _ (.tail _ (.tail _ (.head _))) q hq)).symm⟩
          · intro q hq
            exact .tail _ (.tail _ (.tail _ (List.mem_append_left _ hq)))
          · intro q hq
            exact (List.mem_append.mp hq).elim (htl2 q) (ht2 q)
          · rw [take_snoc ht, List.map_append]
            exact strs_snoc hys _ ta
          --END
        · rintro ys' nx ⟨ps', tl, rfl, hst, hgr, htl2, hys⟩
          intro Dp h6 tk6 F6 N6 off6
          have hys2 : StrsAre ys' (ts.map (pageF padv upL)) := by
            rw [List.take_of_length_le (by rw [List.size_toArray]; omega)] at hys
            exact hys
          clear hys
          obtain ⟨m1, F7, hLP⟩ : ∃ m1, Fr _ _ h6 m1 ∧ LP m1 Dt aDown Dp edgev edget := ⟨_, F6, ⟨rfl, rfl, rfl, rfl⟩⟩
          clear F6
          rw [hLP.rep] at F7
          obtain ⟨Es, hEs⟩ : ∃ Es : Led, Es = (Dp, lst ys') :: (37, tabObj ps') :: (Cs ++ tl) := ⟨_, rfl⟩
          have hCE : ∀ q ∈ Cs, q ∈ Es := fun q hq => hEs ▸ .tail _ (.tail _ (List.mem_append_left _ hq))
          rw [← hEs] at N6
          have xcSize := hCE _ (hBC _ mcSize)
          have hTE : ∀ j, j < z → ∃ t v, ts[j]? = some t ∧ zs[j]? = some v ∧ TreeIn Es v t := fun j hj => by
            obtain ⟨t, v, h1, h2, h3⟩ := hTr j hj
            exact ⟨t, v, h1, h2, h3.mono hCE⟩
          k_steps
          rename_i h7 tk7 ta ub vc hr7 F8 N8 kp7
          have hza : z ≤ 100 := by have := hzz.go; omega
          refine Stop.on (iter_range (fun i m₁ nx => LP m₁ Dt aDown Dp edgev edget ∧ nx = Es) (n := z) rfl hr7 (range_small (by omega) (by omega) (by omega) (by omega) (by omega) (by omega)) (by rw [rangeSize_nat]; omega) F8 N8 ⟨⟨rfl, rfl, rfl, rfl⟩, rfl⟩ ?_ ?_)
          · rintro i ti m₁ nx h8 tk8 I oI hi ⟨hLP8, rfl⟩ hoI F9 N9
            clear F8 N8
            have hiv : (0 : Int) + (i : Int) * 1 = ((i : Nat) : Int) := by omega
            rw [hiv, hLP8.rep] at F9
            obtain ⟨t, v, ht, hv, hT⟩ := hTE i hi
            have htm := List.mem_of_getElem? ht
            have tsz : t.size ≤ 8 := Nat.le_trans (hSm t htm) hzz.go.2
            have tNm := hNm t htm
            obtain ⟨tokp, hpv⟩ := strs_get hys2 (i := i) (x := pageF padv upL t) (by rw [List.getElem?_map, ht]; rfl)
            obtain ⟨u, husz, huN, hupg, hRead, hWr⟩ := told_ok hpadL hedgeL 8 t tsz (Nat.le_refl 8) tNm
            have hW0 : writtenF padv 0 u = pageF padv upL t := cl_inj ((hWr 0 (by omega)).trans (map_id_of fun c _ => rfl))
            have husz8 : u.size ≤ 8 := by omega
            have hS0 : sameN 8 u t = true := by
              rw [same_pg hpadL 8 u t husz8 (Nat.le_refl 8) tsz huN tNm, decide_eq_true_eq]
              exact hupg
            have hv' : zs[((i : Nat) : Int).toNat]? = some v := hv
            have hpv' : ys'[((i : Nat) : Int).toNat]? = some (.str (pageF padv upL t) tokp) := hpv
            have hplen := pageF_len (up := upL) (pad_len hpadL) ev_up t (named_short tNm)
            have xPages : (Dp, lstO ys' ys'.length) ∈ nx := hEs ▸ .head _
            have xTrees2 := hCE _ xTrees
            have xcPad := hCE _ (hBC _ mcPad)
            k_steps
            rename (Fr _ _ _ _) => F10
            rename (News _ _ _ _) => N10
            refine Stop.on (read_ok 8 (t := u) (B := kB) (F := F10) (X := kX) (T := kT) (hk := rfl) (N := N10) (hd := by ktr_room) (hu := by ktr_units) (hm := hRead) (ku := 0) (hU := .tail _ (hCE _ (hBC _ mDown))) (hus := hsD) (hul := by rw [strs_len hsD]; decide) (hev := ev_down) (hedge := edge_len hedgeL) (hn := husz8) (hn2 := by omega) (ret := ?_))
            intro r tl2 h11 tk11 F11 N11 ap11 tr11
            obtain ⟨Ys, hYs⟩ : ∃ Ys : Led, Ys = nx ++ tl2 := ⟨_, rfl⟩
            have N12 : News (ghostOf _ [(41, 37)]) _ h11 ((I, oI) :: Ys) := news_sub N11 fun q hq => by
              rw [hYs] at hq
              exact hq
            have hEY : ∀ q ∈ nx, q ∈ Ys := fun q hq => hYs ▸ List.mem_append_left _ hq
            have tr12 : TreeIn Ys r u := tr11.mono fun q hq => hYs ▸ List.mem_append_right _ hq
            have hT12 := hT.mono hEY
            have xPages2 := hEY _ xPages
            have xTrees3 := hEY _ xTrees2
            have xcPad2 := hEY _ xcPad
            clear N10 F10 N11
            k_steps
            rename (Fr _ _ _ _) => F13
            rename (News _ _ _ _) => N13
            refine Stop.on (written_ok 8 (d := 0) (t := u) (B := kB) (F := F13) (X := kX) (T := kT) (hk := rfl) (N := N13) (hd := by ktr_room) (hu := by ktr_units) (hm := tr12.mono fun q hq => .tail _ hq) (hpad := pad_len hpadL) (ht := named_short huN) (hn := husz8) (hn2 := by omega) (ret := ?_))
            intro ta14 h14 tk14 F14 N14
            rw [hW0]
            k_steps
            · exfalso
              rename ((_ != _) = true) => hx
              simp at hx
            rename (Fr _ _ _ _) => F15
            rename (News _ _ _ _) => N15
            refine Stop.on (same_ok 8 (t := u) (u := t) (B := kB) (F := F15) (X := kX) (T := kT) (hk := rfl) (N := N15) (hd := by ktr_room) (hu := by ktr_units) (hm := tr12.mono fun q hq => .tail _ hq) (hm2 := hT12.mono fun q hq => .tail _ hq) (hn := husz8) (hn2 := by omega) (hu2 := by omega) (ret := ?_))
            intro h16 tk16 F16 N16
            rw [hS0]
            clear F15 N15
            have hnl1 : (Str.ofString "\n").length = 1 := by decide
            have hnl2 : nl.length = 1 := by decide
            have hpl := pad_len hpadL
            have hel := edge_len hedgeL
            k_steps
            rename (Fr _ _ _ _) => F17
            rename (News _ _ _ _) => N17
            refine Stop.on (replace_ok (text := pageF padv upL t) (ps := [nl ++ padv ++ nl, nl]) (B := kB) (F := F17) (X := kX) (T := kT) (hk := rfl) (N := N17) (hd := by ktr_room) (hu := by ktr_units) (hlen := by omega) (hps := StrsAre.cons _ _ (StrsAre.cons _ _ .nil)) (hvs := by simp only [List.length_cons, List.length_nil]; omega) (hev := ⟨by rw [Str.length_append, Str.length_append]; omega, by omega, trivial⟩) (ret := ?_))
            intro ta18 h18 tk18 F18 N18
            have hbl := replF_len [nl ++ padv ++ nl, nl] (pageF padv upL t) ⟨by rw [Str.length_append, Str.length_append]; omega, by omega, trivial⟩
            have hbare := bare_ok hpadL hedgeL tsz tNm
            obtain ⟨bare, hbr⟩ : ∃ b, b = replF (pageF padv upL t) [nl ++ padv ++ nl, nl] := ⟨_, rfl⟩
            have hbok := bare_small hpadL tsz tNm
            rw [← hbr] at hbl hbare hbok ⊢
            cases hT12 with
            | @node a9 l9 nm9 tk9 ks9 vs9 n91 n92 ha9 hl9 hf9 =>
            have hvl9 : vs9.length ≤ 100000 := by
              have h1 := len_le_sizes ks9
              rw [T.size] at tsz
              rw [hf9.len]; omega
            cases hf9 with
            | nil =>
              k_steps
              rename_i h27 tk27 tq27 uq27 vq27 hr27 F28 N28 kp27
              have N29 : News (ghostOf _ [(41, 37)]) _ h27 ((I, oI) :: Ys) := news_sub N28 fun p hp => by
                first | exact hp | exact .tail _ hp | exact .tail _ (.tail _ hp) | exact .tail _ (.tail _ (.tail _ hp))
              refine Stop.on (iter_range (fun j m₁ nx => (LP m₁ Dt aDown Dp edgev edget ∧ m₁ (Str.ofString "i") = some (.int ((i : Nat) : Int) ti)) ∧ nx = (I, oI) :: Ys) (n := i) rfl hr27 (range_small (by omega) (by omega) (by omega) (by omega) (by omega) (by omega)) (by rw [rangeSize_nat]; omega) F28 N29 ⟨⟨⟨rfl, rfl, rfl, rfl⟩, rfl⟩, rfl⟩ ?_ ?_)
              · rintro j tj m₁ nx3 h30 tk30 I3 oI3 hj ⟨⟨hLP3, hi3⟩, rfl⟩ hoI3 F30 N30
                have hjv : (0 : Int) + (j : Int) * 1 = ((j : Nat) : Int) := by omega
                rw [hjv, hLP3.repi hi3] at F30
                obtain ⟨t3, v3, ht3, hv3, hT3⟩ := hTE j (by omega)
                have htm3 := List.mem_of_getElem? ht3
                have tsz3 : t3.size ≤ 8 := Nat.le_trans (hSm t3 htm3) hzz.go.2
                have tNm3 := hNm t3 htm3
                obtain ⟨tokp3, hpv3⟩ := strs_get hys2 (i := j) (x := pageF padv upL t3) (by rw [List.getElem?_map, ht3]; rfl)
                have hv3' : zs[((j : Nat) : Int).toNat]? = some v3 := hv3
                have hpv3' : ys'[((j : Nat) : Int).toNat]? = some (.str (pageF padv upL t3) tokp3) := hpv3
                have hS3 := same_pg hpadL 8 _ t3 tsz (Nat.le_refl 8) tsz3 tNm tNm3
                clear F28 N28 N29
                k_steps
                rename (Fr _ _ _ _) => F31
                rename (News _ _ _ _) => N31
                refine Stop.on (same_ok 8 (u := t3) (B := kB) (F := F31) (X := kX) (T := kT) (hk := rfl) (N := N31) (hd := by ktr_room) (hu := by ktr_units) (hm := hT.mono fun q hq => .tail _ (.tail _ (hEY q hq))) (hm2 := hT3.mono fun q hq => .tail _ (.tail _ (hEY q hq))) (hn := tsz) (hn2 := by omega) (hu2 := by omega) (ret := ?_))
                intro h32 tk32 F32 N32
                rw [hS3]
                (first | (k_unfold; (try dsimp only)) | walk1 | (dsimp only; walk1))
                rw [show ((pageF padv upL _ == pageF padv upL t3) != decide (pg padv _ = pg padv t3)) = false from bne_self_eq_false _]
                k_steps
                rename (Fr _ _ _ _) => F33
                rename (News _ _ _ _) => N33
                exact ⟨_, _, _, (I, oI) :: Ys, rfl, F33, N33, hoI3, ⟨⟨rfl, rfl, rfl, rfl⟩, rfl⟩, rfl⟩
              · rintro m₁ nx3 h30 tk30 ⟨⟨hLP3, hi3⟩, rfl⟩ F30 N30
                k_steps
                exact ⟨_, _, _, nx, rfl, F30, news_sub N30 (fun p hp => (List.mem_cons.mp hp).elim (fun e => e ▸ .head _) (fun hp => .tail _ (hEY p hp))), hoI, hLP3, rfl⟩
            | @cons v91 vs91 k91 ks91 hv91 hvs91 =>
              replace hbare := hbare (by simp [T.kids])
              replace hbok := hbok (by simp [T.kids])
              k_steps
              rename (Fr _ _ _ _) => F19
              rename (News _ _ _ _) => N19
              refine Stop.on (splitdoc_ok (B := kB) (F := F19) (X := kX) (N := N19) (T := kT) (hk := rfl) (hd := by ktr_room) (hu := by ktr_units) (hlen := by simp only [Str.length_append]; omega) (ret := ?_))
              intro D20 ta20 tb20 n20 h20 tk20 F20 N20 lt20
              replace N20 := news_snoc N20
              rw [hbare, show (Str.empty, bare) = (Str.ofString "", bare) from by rw [show Str.empty = Str.ofString "" from by decide +kernel]] at N20
              dsimp only at N20
              clear F19 N19
              k_steps
              rename (Fr _ _ _ _) => F21
              rename (News _ _ _ _) => N21
              refine Stop.on (ne_tups N21 (.tail _ (.head _)) (.head _) (by decide +kernel) hbok (by ktr_units) ?_)
              k_steps
              rename_i h27 tk27 tq27 uq27 vq27 hr27 F28 N28 kp27
              have N29 : News (ghostOf _ [(41, 37)]) _ h27 ((I, oI) :: Ys) := news_sub N28 fun p hp => by
                first | exact hp | exact .tail _ hp | exact .tail _ (.tail _ hp) | exact .tail _ (.tail _ (.tail _ hp))
              refine Stop.on (iter_range (fun j m₁ nx => (LP m₁ Dt aDown Dp edgev edget ∧ m₁ (Str.ofString "i") = some (.int ((i : Nat) : Int) ti)) ∧ nx = (I, oI) :: Ys) (n := i) rfl hr27 (range_small (by omega) (by omega) (by omega) (by omega) (by omega) (by omega)) (by rw [rangeSize_nat]; omega) F28 N29 ⟨⟨⟨rfl, rfl, rfl, rfl⟩, rfl⟩, rfl⟩ ?_ ?_)
              · rintro j tj m₁ nx3 h30 tk30 I3 oI3 hj ⟨⟨hLP3, hi3⟩, rfl⟩ hoI3 F30 N30
                have hjv : (0 : Int) + (j : Int) * 1 = ((j : Nat) : Int) := by omega
                rw [hjv, hLP3.repi hi3] at F30
                obtain ⟨t3, v3, ht3, hv3, hT3⟩ := hTE j (by omega)
                have htm3 := List.mem_of_getElem? ht3
                have tsz3 : t3.size ≤ 8 := Nat.le_trans (hSm t3 htm3) hzz.go.2
                have tNm3 := hNm t3 htm3
                obtain ⟨tokp3, hpv3⟩ := strs_get hys2 (i := j) (x := pageF padv upL t3) (by rw [List.getElem?_map, ht3]; rfl)
                have hv3' : zs[((j : Nat) : Int).toNat]? = some v3 := hv3
                have hpv3' : ys'[((j : Nat) : Int).toNat]? = some (.str (pageF padv upL t3) tokp3) := hpv3
                have hS3 := same_pg hpadL 8 _ t3 tsz (Nat.le_refl 8) tsz3 tNm tNm3
                clear F28 N28 N29
                k_steps
                rename (Fr _ _ _ _) => F31
                rename (News _ _ _ _) => N31
                refine Stop.on (same_ok 8 (u := t3) (B := kB) (F := F31) (X := kX) (T := kT) (hk := rfl) (N := N31) (hd := by ktr_room) (hu := by ktr_units) (hm := hT.mono fun q hq => .tail _ (.tail _ (hEY q hq))) (hm2 := hT3.mono fun q hq => .tail _ (.tail _ (hEY q hq))) (hn := tsz) (hn2 := by omega) (hu2 := by omega) (ret := ?_))
                intro h32 tk32 F32 N32
                rw [hS3]
                (first | (k_unfold; (try dsimp only)) | walk1 | (dsimp only; walk1))
                rw [show ((pageF padv upL _ == pageF padv upL t3) != decide (pg padv _ = pg padv t3)) = false from bne_self_eq_false _]
                k_steps
                rename (Fr _ _ _ _) => F33
                rename (News _ _ _ _) => N33
                exact ⟨_, _, _, (I, oI) :: Ys, rfl, F33, N33, hoI3, ⟨⟨rfl, rfl, rfl, rfl⟩, rfl⟩, rfl⟩
              · rintro m₁ nx3 h30 tk30 ⟨⟨hLP3, hi3⟩, rfl⟩ F30 N30
                k_steps
                exact ⟨_, _, _, nx, rfl, F30, news_sub N30 (fun p hp => (List.mem_cons.mp hp).elim (fun e => e ▸ .head _) (fun hp => .tail _ (hEY p hp))), hoI, hLP3, rfl⟩
          · rintro m₁ nx h30 tk30 ⟨hLP3, rfl⟩ F30 N30
            have x37 : (37, tabObj ps') ∈ nx := hEs ▸ .tail _ (.head _)
            iterate 4 (first | (k_unfold; (try dsimp only)) | walk1 | (dsimp only; walk1))
            · show GoodW _ _ _ _ _ (Except.ok (Flow.ret (Value.bool true))) _
              refine goodW_bool F30 (by with_reducible assumption) (raisesW_false ?_) ?_
              · wrow_none_raised
              · kc_post
            · exact ⟨GrownAt.of N30 x37, trivial⟩
end Mine
set_option maxRecDepth 100000 in
theorem PySem.Challenge.cw_rl0158_01_holds : PySem.Challenge.rw_rl0158_01.Holds := by
  exact Mine.law_ok
