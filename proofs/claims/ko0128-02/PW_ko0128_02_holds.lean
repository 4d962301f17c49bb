import PyProof.Rows.All
import Wide.All
import OpenK.AllK
import Wide.FinOn
import Lean
import PySem.Challenge.RW_ko0128_02
open PySem PySem.W PyProof.Rows
set_option Elab.async false
set_option maxRecDepth 100000
set_option linter.unusedVariables false
set_option linter.unusedSimpArgs false
set_option compiler.extract_closed false
namespace Mine
section
open PySem.Calls
theorem kind_isubn : builtinKind "issubclass.nested" = none := by decide +kernel
theorem plain_isubn : plainId "issubclass.nested" = true := by decide +kernel
theorem args_isubn (a b c : Value) : argsOk "issubclass.nested" ⟨[a, b, c], []⟩ := by unfold argsOk; kernel_rfl
theorem meta_str : typeOf (.type "str") = pure (.type "type") := by kernel_rfl
theorem meta_bytes : typeOf (.type "bytes") = pure (.type "type") := by kernel_rfl
theorem tt_sub : isSubtype (.type "type") (.type "type") = pure true := by rw [isSubtype_type]; kernel_rfl
theorem ss_sub : isSubtype (.type "str") (.type "str") = pure true := by rw [isSubtype_type]; kernel_rfl
theorem bs_sub : isSubtype (.type "bytes") (.type "str") = pure false := by rw [isSubtype_type]; kernel_rfl
theorem bb_sub : isSubtype (.type "bytes") (.type "bytes") = pure true := by rw [isSubtype_type]; kernel_rfl
theorem isub_nested {T U : String} {b : Bool} (h1 : typeOf (.type T) = pure (.type "type")) (h2 : typeOf (.type U) = pure (.type "type")) (h3 : isSubtype (.type T) (.type U) = pure b) {dep : Int} {tk : Tok} :
    Meets (Builtin.«issubclass.nested» ⟨[.type T, .type U, .int dep tk], []⟩) (fun _ R s => R (.ok (.ret (.bool b))) s) := by
  intro prog w A R s hs
  have f1 := tt_sub
  repeat (any_goals (first | assumption | (rw [h3]) | wp_step))
theorem isub_tuple {T : String} {tp : Addr} {cs : List Value} (h1 : typeOf (.type T) = pure (.type "type")) (h3 : isSubtype (.type T) (.type "str") = pure (T == "str")) (h4 : isSubtype (.type T) (.type "bytes") = pure (T == "bytes")) (hcs : cs = [.type "str", .type "bytes"]) :
    Meets (Builtin.«issubclass» ⟨[.type T, .ref tp], []⟩) (fun _ R s => s.heap.get? tp = some { cls := .type "tuple", data := .seq cs.toArray } ∧ R (.ok (.ret (.bool (T == "str" || T == "bytes")))) s) := by
  intro prog w A R s ⟨hx, hs⟩
  refine issubclass_outer ?_
  obtain ⟨h, g, d, t, os⟩ := s
  have hT2 : (⟨h, g, d, t, os⟩ : Shared).TypeIs (.ref tp) "tuple" := ⟨_, hx, rfl⟩
  have f1 := F.isi_sub_tuple
  repeat (any_goals (first | assumption | wp_step))
  refine wpAny_arrayLoop ?_
  subst hcs
  simp only [Option.getD_some, List.toList_toArray]
  rw [List.forIn_cons]
  refine wpAny_bind (wpAny_bind (call_function_meets kind_isubn plain_isubn F.entry_issubclass_nested (args_isubn _ _ _) (isub_nested h1 meta_str h3) ?_))
  cases hT : (T == "str") with
  | true => 
    rw [hT] at hs
    repeat (any_goals (first | assumption | wp_step))
  | false =>
    rw [hT] at hs
    show wpAny _ _ (truthy (.bool false) >>= _) _ _ _
    refine wpAny_bind (m := truthy (.bool false)) (wpAny_pure (wpAny_pure ?_))
    show wpAny _ _ (forIn [Value.type "bytes"] _ _) _ _ _
    rw [List.forIn_cons]
    refine wpAny_bind (wpAny_bind (call_function_meets kind_isubn plain_isubn F.entry_issubclass_nested (args_isubn _ _ _) (isub_nested h1 meta_bytes h4) ?_))
    cases hU : (T == "bytes") with
    | true => 
      rw [hU] at hs
      repeat (any_goals (first | assumption | wp_step))
    | false =>
      rw [hU] at hs
      show wpAny _ _ (truthy (.bool false) >>= _) _ _ _
      refine wpAny_bind (m := truthy (.bool false)) (wpAny_pure (wpAny_pure ?_))
      repeat (any_goals (first | assumption | wp_step))
theorem call_isub {prog : Program} {w : World} {A : Around} {E : Value → Shared → Prop} {s : Shared} {T : String} {tp : Addr} {Q : Value → Shared → Prop} (hT : T = "str" ∨ T = "bytes")
    (hx : s.heap.get? tp = some { cls := .type "tuple", data := .seq [.type "str", .type "bytes"].toArray }) (h : Q (.bool true) s) :
    wpAny (model prog w) A (call (.builtin "issubclass") [.type T, .ref tp]) Q E s := by
  rcases hT with rfl | rfl
  · exact call_issubclass (isub_tuple meta_str ss_sub (by rw [isSubtype_type]; kernel_rfl) rfl) ⟨hx, h⟩
  · exact call_issubclass (isub_tuple meta_bytes bs_sub bb_sub rfl) ⟨hx, h⟩
end
end Mine
namespace Mine
section
open PySem.Calls
theorem bind_rest1 {name qual : Str} {pa : Arg} {va : Arg} {body : List Stmt} {scope : Scope} {doc pm cdv ct : Value} {an : Option Addr} {v : Value} {vs : List Value} :
    bindArgs (fnOf name qual { posonlyargs := [], args := [pa], vararg := some va, kwonlyargs := [], kw_defaults := [], kwarg := none, defaults := [] } body scope .none .none doc pm an cdv ct) ⟨v :: vs, []⟩ =
      (newTuple vs >>= fun t => pure [(pa.arg, v), (va.arg, t)]) := by
  unfold bindArgs fnOf
  simp only [List.map_cons, List.map_nil, List.nil_append, List.length_cons, List.length_nil, List.zip_cons_cons, List.append_nil, Option.isNone_some, Bool.and_false, List.drop_succ_cons, List.drop_zero]
  have e : (pa.arg == pa.arg) = true := beq_self_eq_true _
  have e2 : List.lookup pa.arg ((pa.arg, v) :: List.zip ([] : List Str) vs) = some v := by simp [List.lookup, e]
  simp only [List.forIn_nil, bind_pure_comp, pure_bind, Bool.false_eq_true, if_false]
  rw [show seqItems? Value.none = pure none from rfl]
  simp only [pure_bind, Option.getD_none, List.length_nil, List.drop_nil, List.take, List.filter, e2, Option.isNone_some, List.isEmpty_nil, Bool.not_true, Bool.false_eq_true, if_false]
  show ((do
      let __s ← (pure ((pa.arg, v) :: List.zip ([] : List Str) vs) : Sem (List (Str × Value)))
      (fun a => List.filterMap (fun n => Option.map (fun x => (n, x)) (List.lookup n __s)) [pa.arg] ++ [(va.arg, a)]) <$> newTuple vs) : Sem (List (Str × Value))) = _
  simp only [pure_bind, List.filterMap_cons, List.filterMap_nil, e2, Option.map_some, List.cons_append, List.nil_append]
abbrev Kp (h h' : Heap) : Prop := ∀ b o, h.get? b = some o → h'.get? b = some o
theorem Kp.trans {h h' h'' : Heap} (a : Kp h h') (b : Kp h' h'') : Kp h h'' := fun x o e => b x o (a x o e)
theorem below_keeps {A : Around} {base h h' : Heap} {l : List Env} (B : Below A base l h) (k : Kp h h') : Below A base l h' :=
  ⟨B.stack, fun b o e => k b o (B.stays b o e), B.frames.of_keeps fun b o e _ => ⟨o, k b o e, rfl⟩⟩
theorem none_size {h : Heap} {a : Addr} (ha : h.objs.size ≤ a) : h.get? a = none := by
  cases e : h.get? a with
  | none => rfl
  | some o => exact absurd (Heap.lt_size e) (Nat.not_lt.mpr ha)
section
variable {prog : Program} {w : World} {A : Around} {s : Shared} {K : Frag} {base : Heap} {mg mb : Str → Option Value} {p : Program} {loose : List Str} {mean : ExcName → Option Value} {fs : List Env}
theorem enterK {R : Result → Shared → Prop} {name qual : Str} {params : Arguments} {body : List Stmt} {scope : Scope} {dV kV doc pm cdv ct oc : Value} {an od : Option Addr} {osl : Array (Option Value)} {f : Addr} {args : Args} {binds : List (Str × Value)}
    (X : K.In s.heap) (T : Top p loose mean mg mb s.heap) (hroom : A.depth < recursionLimit)
    (ho : K.lookup f = some ⟨oc, od, .func (fnOf name qual params body scope dV kV doc pm an cdv ct), osl⟩) (hcd : codeIn K cdv qual = true)
    (hbind : BindsTo s (fnOf name qual params body scope dV kV doc pm an cdv ct) args binds) (hloc : ∀ y ∈ binds, scope.names.lookup y.1 = some .local)
    (h : ∀ L h₁, Fr s.heap L h₁ (fun y => binds.reverse.lookup y) → News s.heap L h₁ [] →
      wpAny (model prog w) (A.deeper (envOf qual scope L f cdv)) (execs body (envOf qual scope L f cdv))
        (fun fl s' => R (.ok (.ret (match fl with | .ret v => v | _ => .none))) s')
        (fun e s' => wpAny (model prog w) (A.deeper (envOf qual scope L f cdv)) (leaving (envOf qual scope L f cdv) e) (fun _ s'' => R (.error e) s'') (fun e' s'' => R (.error e') s'') s')
        { s with heap := h₁, toks := s.toks + binds.length })
    (hcell : ∀ x ∈ scope.names, x.2 ≠ .cell) (hco : scope.isCoroutine = false) (hgen : scope.isGenerator = false) (hk : scope.kind = .function) :
    codeAny (model prog w) A (.call (.ref f) args) R s := by
  refine codeAny_call_def (fd := fnOf name qual params body scope dV kV doc pm an cdv ct) (body := body) (binds := binds) hroom (X _ _ ho) rfl T.nolimit (codeRec_of X hcd) rfl hbind hcell hloc (fun h₁ hns hk₁ => ?_) hco hgen hk
  exact h s.heap.objs.size h₁ ⟨hns, hk₁, Nat.le_refl _⟩ News.nil
theorem enterR {R : Result → Shared → Prop} {name qual : Str} {params : Arguments} {body : List Stmt} {scope : Scope} {dV kV doc pm cdv ct oc : Value} {an od : Option Addr} {osl : Array (Option Value)} {f : Addr} {args : Args} {vs : List Value} {binds : Value → List (Str × Value)}
    (X : K.In s.heap) (T : Top p loose mean mg mb s.heap) (hroom : A.depth < recursionLimit)
    (ho : K.lookup f = some ⟨oc, od, .func (fnOf name qual params body scope dV kV doc pm an cdv ct), osl⟩) (hcd : codeIn K cdv qual = true)
    (hp : bindArgs (fnOf name qual params body scope dV kV doc pm an cdv ct) args = (newTuple vs >>= fun t => pure (binds t))) (hz : vs.length ≤ sizeLine)
    (hloc : ∀ D, ∀ y ∈ binds D, scope.names.lookup y.1 = some .local)
    (h : ∀ D L h₁, D < L → Fr s.heap L h₁ (fun y => (binds (.ref D)).reverse.lookup y) → News s.heap L h₁ [(D, ({ cls := .type "tuple", data := .seq vs.toArray } : Obj))] →
      wpAny (model prog w) (A.deeper (envOf qual scope L f cdv)) (execs body (envOf qual scope L f cdv))
        (fun fl s' => R (.ok (.ret (match fl with | .ret v => v | _ => .none))) s')
        (fun e s' => wpAny (model prog w) (A.deeper (envOf qual scope L f cdv)) (leaving (envOf qual scope L f cdv) e) (fun _ s'' => R (.error e) s'') (fun e' s'' => R (.error e') s'') s')
        { s with heap := h₁, toks := s.toks + (binds (.ref D)).length })
    (hcell : ∀ x ∈ scope.names, x.2 ≠ .cell) (hco : scope.isCoroutine = false) (hgen : scope.isGenerator = false) (hk : scope.kind = .function) :
    codeAny (model prog w) A (.call (.ref f) args) R s := by
  refine codeAny_call_function (fd := fnOf name qual params body scope dV kV doc pm an cdv ct) (body := body) hroom (X _ _ ho) rfl hco hgen rfl (codeRec_of X hcd) ?_
  rw [hp]
  refine wpAny_bind (wpAny_newObj_type (wpAny_pure ?_) (by show vs.toArray.size ≤ sizeLine; rw [List.size_toArray]; exact hz))
  refine wpAny_newFunctionEnv hcell (hloc _) (fun h₁ hns hsb => ?_) hk
  have hk₁ : Kp (s.heap.push { cls := .type "tuple", data := .seq vs.toArray }) h₁ := fun b o e => hsb.extBut b o (Nat.ne_of_lt (Heap.lt_size e)) (Heap.get?_push_of_some _ e)
  have hk₀ : Kp s.heap h₁ := fun b o e => hk₁ b o (Heap.get?_push_of_some _ e)
  refine ⟨(T.nolimit.keeps fun b o e => Heap.get?_push_of_some _ e).fresh _ hsb, codeAny_func ?_⟩
  refine h s.heap.objs.size (s.heap.push { cls := .type "tuple", data := .seq vs.toArray }).objs.size h₁ (by rw [Heap.size_push]; exact Nat.lt_succ_self _) ⟨hns, hk₀, by rw [Heap.size_push]; exact Nat.le_succ _⟩ (fun q hq => ?_)
  rw [List.mem_singleton.mp hq]
  exact ⟨hk₁ _ _ (Heap.get?_push_size _ rfl), by show s.heap.objs.size ≠ _; rw [Heap.size_push]; exact Nat.ne_of_lt (Nat.lt_succ_self _), none_size (Nat.le_refl _)⟩
end
theorem news_sub {h₀ h : Heap} {L : Addr} {n n' : List (Addr × Obj)} (N : News h₀ L h n') (hs : ∀ p ∈ n, p ∈ n') : News h₀ L h n := fun p hp => N p (hs p hp)
end
end Mine
namespace Mine
section
open PySem.Calls
def TurnEnd (h₀ : Heap) (L : Addr) (wr : List Addr) (own : List (Addr × Obj)) (J : (Str → Option Value) → List (Addr × Obj) → Prop) (s : Shared) (Q : Flow → Shared → Prop) (f : Flow) (s₂ : Shared) : Prop :=
  match f with
  | .ret v => Q (.ret v) s₂
  | .brk => Q .next s₂
  | _ => ∃ h' tk m' nx, s₂ = { s with heap := h', toks := tk } ∧ Fr h₀ L h' m' ∧ News h₀ L h' (own ++ nx) ∧ (∀ p ∈ nx, p.1 ∉ wr) ∧ J m' nx
section
variable {prog : Program} {w : World} {A : Around} {E : Value → Shared → Prop} {s : Shared} {env : Env} {h₀ : Heap} {x : Str} {body : List Stmt} {Q : Flow → Shared → Prop}
theorem for_walk {I : Addr} {fp wr : List Addr} {n : Nat} {P : Nat → Value → Prop} {St : Nat → Heap → Prop} {m₀ : Str → Option Value} {news : List (Addr × Obj)} (J : Nat → (Str → Option Value) → List (Addr × Obj) → Prop)
    (W : Walks prog w A I fp wr n P St) (hLf : env.locals ∉ fp) (hwr : ∀ b ∈ wr, h₀.get? b = none) (hnw : ∀ p ∈ news, p.1 ∉ wr) (hob : ∀ i h, St i h → ∀ b ∈ wr, ∃ o, h.get? b = some o)
    (hst : St 0 s.heap) (F : Fr h₀ env.locals s.heap m₀) (N : News h₀ env.locals s.heap news) (hj : J 0 m₀ news)
    (turn : ∀ i v m₁ nx h tk own, i < n → P i v → (∀ b ∈ wr, ∃ o, (b, o) ∈ own) → (∀ p ∈ nx, p.1 ∉ wr) → J i m₁ nx → Fr h₀ env.locals h (fun y => if y = x then some v else m₁ y) → News h₀ env.locals h (own ++ nx) →
      wpAny (model prog w) A (execs body env) (TurnEnd h₀ env.locals wr own (J (i + 1)) s Q) E { s with heap := h, toks := tk })
    (done : ∀ m₁ nx h tk, J n m₁ nx → Fr h₀ env.locals h m₁ → News h₀ env.locals h nx → Q .next { s with heap := h, toks := tk }) :
    LoopAtV prog w A h₀ env x body Q E (.ref I) s := by
  refine ⟨I, fp, wr, n, P, St, m₀, news, J, rfl, W, hLf, hwr, hnw, hst, F, N, hj, ?_, ?_⟩
  · rintro i v m₁ nx s₁ own ⟨h, tk, rfl⟩ hi hP hJ hoff _ _ hall hst' F₁ N₁
    refine wpAny_mono (turn i v m₁ nx h tk own hi hP (fun b hb => ?_) hoff hJ F₁ N₁) (fun f s₂ q => ?_) fun _ _ e => e
    · obtain ⟨o, ho⟩ := hob _ _ hst' b hb
      exact ⟨o, hall b (W.sub b hb) (hwr b hb) o ho⟩
    · cases f with
      | ret v => exact .ret q
      | brk => exact .brk q
      | next => obtain ⟨h', tk', m', nx', rfl, F', N', ho, hJ'⟩ := q; exact .next ⟨rfl, h', tk', m', nx', rfl, F', N', ho, hJ'⟩
      | cont => obtain ⟨h', tk', m', nx', rfl, F', N', ho, hJ'⟩ := q; exact .cont ⟨rfl, h', tk', m', nx', rfl, F', N', ho, hJ'⟩
  · rintro h' tk m' nx F' N' _ hJ
    exact done m' nx h' tk hJ F' N'
theorem lt_ne_size {h : Heap} {a : Addr} {o : Obj} (e : h.get? a = some o) : a ≠ h.objs.size := Nat.ne_of_lt (Heap.lt_size e)
theorem for_tup {D : Addr} {vs : List Value} {m₀ : Str → Option Value} {news : List (Addr × Obj)} (J : Nat → (Str → Option Value) → List (Addr × Obj) → Prop)
    (hh : A.handled = none) (hD : s.heap.IsTuple D vs.toArray) (hDL : D ≠ env.locals) (F : Fr h₀ env.locals s.heap m₀) (N : News h₀ env.locals s.heap news) (hj : J 0 m₀ news)
    (turn : ∀ I i v m₁ nx h tk own, vs[i]? = some v → (∃ o, (I, o) ∈ own) → (∀ p ∈ nx, p.1 ∉ [I]) → J i m₁ nx → Fr h₀ env.locals h (fun y => if y = x then some v else m₁ y) → News h₀ env.locals h (own ++ nx) →
      wpAny (model prog w) A (execs body env) (TurnEnd h₀ env.locals [I] own (J (i + 1)) s Q) E { s with heap := h, toks := tk })
    (done : ∀ m₁ nx h tk, J vs.length m₁ nx → Fr h₀ env.locals h m₁ → News h₀ env.locals h nx → Q .next { s with heap := h, toks := tk }) :
    wpAny (model prog w) A (pyIter (.ref D)) (fun it s₂ => LoopAtV prog w A h₀ env x body Q E it s₂) E s := by
  obtain ⟨oD, hoD, hr⟩ := id hD
  have hne : D ≠ s.heap.objs.size := lt_ne_size hoD
  refine wpAny_pyIter_tuple hD ?_
  have W := Walks.tuple (prog := prog) (w := w) hh s.heap.objs.size D hne vs.toArray
  have hlen : vs.toArray.size = vs.length := by simp
  rw [hlen] at W
  refine for_walk J W ?_ ?_ ?_ ?_ ⟨⟨_, Heap.get?_push_size _ rfl, rfl, rfl⟩, ⟨oD, Heap.get?_push_of_some _ hoD, hr⟩⟩ (F.push _) (fun p hp => ⟨Heap.get?_push_of_some _ (N p hp).1, (N p hp).2⟩) hj ?_ ?_
  · intro hm
    rcases List.mem_cons.mp hm with e | hm
    · exact absurd F.ns.lt (e ▸ Nat.lt_irrefl _)
    · exact hDL (List.mem_singleton.mp hm).symm
  · intro b hb; rw [List.mem_singleton.mp hb]; exact next_is_new F
  · intro p hp hI; exact absurd (Heap.lt_size (N p hp).1) ((List.mem_singleton.mp hI) ▸ Nat.lt_irrefl _)
  · intro i h hi b hb; rw [List.mem_singleton.mp hb]; obtain ⟨⟨o, ho, _⟩, _⟩ := hi; exact ⟨o, ho⟩
  · intro i v m₁ nx h tk own hi hP hI ho hJ F₁ N₁
    exact turn _ i v m₁ nx h tk own (by simpa using hP) (hI _ (.head _)) ho hJ F₁ N₁
  · exact fun m₁ nx h tk hJ F₁ N₁ => done m₁ nx h tk hJ F₁ N₁
end
section
variable {prog : Program} {w : World} {A : Around} {E : Value → Shared → Prop} {s : Shared} {env : Env} {h₀ : Heap} {x : Str} {body : List Stmt} {Q : Flow → Shared → Prop}
theorem for_tupS {D : Addr} {vs : List Value} {m₀ : Str → Option Value} {news : List (Addr × Obj)} (J : (Str → Option Value) → Nat → (Str → Option Value) → List (Addr × Obj) → Prop)
    (hh : A.handled = none) (F : Fr h₀ env.locals s.heap m₀) (N : News h₀ env.locals s.heap news) (hD : s.heap.IsTuple D vs.toArray) (hDL : D ≠ env.locals) (hj : J m₀ 0 m₀ news)
    (turn : ∀ I i v m₁ nx h tk own, vs[i]? = some v → (∃ o, (I, o) ∈ own) → (∀ p ∈ nx, p.1 ∉ [I]) → J m₀ i m₁ nx → Fr h₀ env.locals h (fun y => if y = x then some v else m₁ y) → News h₀ env.locals h (own ++ nx) →
      wpAny (model prog w) A (execs body env) (TurnEnd h₀ env.locals [I] own (J m₀ (i + 1)) s Q) E { s with heap := h, toks := tk })
    (done : ∀ m₁ nx h tk, J m₀ vs.length m₁ nx → Fr h₀ env.locals h m₁ → News h₀ env.locals h nx → Q .next { s with heap := h, toks := tk }) :
    wpAny (model prog w) A (pyIter (.ref D)) (fun it s₂ => LoopAtV prog w A h₀ env x body Q E it s₂) E s := for_tup (J m₀) hh hD hDL F N hj turn done
end
abbrev MapS := Str → Option Value
def Same (ns : List Str) (m m₀ : MapS) : Prop := ∀ y, ns.contains y = false → m y = m₀ y
theorem Same.refl {ns : List Str} {m : MapS} : Same ns m m := fun _ _ => rfl
theorem map0 {m m₀ : MapS} {ns : List Str} (hs : Same ns m m₀) : m = fun y => if ns.contains y then m y else m₀ y := by
  funext y
  cases h : ns.contains y with
  | true => rfl
  | false => simp only [Bool.false_eq_true, if_false]; exact hs y h
theorem map1 {m m₀ : MapS} {ns : List Str} {a : Str} {v : Value} (h1 : m a = some v) (hs : Same ns m m₀) : m = fun y => if y = a then some v else if ns.contains y then m y else m₀ y := by
  funext y
  by_cases h : y = a
  · subst h; rw [if_pos rfl, h1]
  · rw [if_neg h]; exact congrFun (map0 hs) y
theorem map2 {m m₀ : MapS} {ns : List Str} {a b : Str} {v u : Value} (h1 : m a = some v) (h2 : m b = some u) (hs : Same ns m m₀) : m = fun y => if y = a then some v else if y = b then some u else if ns.contains y then m y else m₀ y := by
  funext y
  by_cases h : y = a
  · subst h; rw [if_pos rfl, h1]
  · rw [if_neg h]; exact congrFun (map1 h2 hs) y
def WTurn (h₀ : Heap) (L : Addr) (s : Shared) (J : Nat → (Str → Option Value) → List (Addr × Obj) → Prop) (Q : Flow → Shared → Prop) (n : Nat) (f : Flow) (s₃ : Shared) : Prop :=
  match f with
  | .ret v => Q (.ret v) s₃
  | .brk => Q .next s₃
  | _ => ∃ h' tk m₂ nx n', s₃ = { s with heap := h', toks := tk } ∧ Fr h₀ L h' m₂ ∧ News h₀ L h' nx ∧ n' < n ∧ J n' m₂ nx
section
variable {prog : Program} {w : World} {A : Around} {E : Value → Shared → Prop} {Q : Flow → Shared → Prop} {s : Shared} {env : Env} {h₀ : Heap} {L : Addr}
theorem while_inv {test : Expr} {body : List Stmt} {pos : Pos} {m : Str → Option Value} {news : List (Addr × Obj)} (J : (Str → Option Value) → Nat → (Str → Option Value) → List (Addr × Obj) → Prop) (n₀ : Nat)
    (F : Fr h₀ L s.heap m) (N : News h₀ L s.heap news) (hJ : J m n₀ m news)
    (turn : ∀ n m₁ nx h₁ tk₁, J m n m₁ nx → Fr h₀ L h₁ m₁ → News h₀ L h₁ nx →
      wpAny (model prog w) A (isTrue test env (eval test env)) (fun b s₂ =>
        if b = true then wpAny (model prog w) A (execs body env) (WTurn h₀ L s (J m) Q n) E s₂ else Q .next s₂) E { s with heap := h₁, toks := tk₁ })
    (hE : PassesOwn (model prog w) A env E := by passes_own) :
    wpAny (model prog w) A (exec (.While test body [] pos) env) Q E s := by
  refine wpAny_While (codeAny_whileLoop (fun n s' => ∃ h₁ tk₁ m₁ nx, s' = { s with heap := h₁, toks := tk₁ } ∧ Fr h₀ L h₁ m₁ ∧ News h₀ L h₁ nx ∧ J m n m₁ nx) ?_ n₀ ⟨s.heap, s.toks, m, news, rfl, F, N, hJ⟩)
  rintro n s' ⟨h₁, tk₁, m₁, nx, rfl, F₁, N₁, J₁⟩
  refine wpAny_mono (turn n m₁ nx h₁ tk₁ J₁ F₁ N₁) (fun b s₂ h₂ => ?_) hE
  cases b with
  | false =>
    simp only [Bool.false_eq_true, if_false] at h₂ ⊢
    exact wpAny_execs_nil h₂
  | true =>
    simp only [if_true] at h₂ ⊢
    refine wpAny_mono h₂ (fun f s₃ h₃ => ?_) hE
    cases f with
    | ret v => exact h₃
    | brk => exact h₃
    | next => obtain ⟨h', tk, m₂, nx₂, n', rfl, F₂, N₂, hn, J₂⟩ := h₃; exact ⟨n', hn, h', tk, m₂, nx₂, rfl, F₂, N₂, J₂⟩
    | cont => obtain ⟨h', tk, m₂, nx₂, n', rfl, F₂, N₂, hn, J₂⟩ := h₃; exact ⟨n', hn, h', tk, m₂, nx₂, rfl, F₂, N₂, J₂⟩
end
def Halt (P : Prop) : Prop := P
theorem Halt.mk {P : Prop} (h : Halt P) : P := h
def Hid (P K : Flow → Shared → Prop) : Prop := ∀ f s, P f s → K f s
theorem hide_post {M : Model} {A : Around} {E : Value → Shared → Prop} {s : Shared} {m : Sem Flow} {P : Flow → Shared → Prop} (h : ∀ K, Hid P K → wpAny M A m K E s) : wpAny M A m P E s := h P fun _ _ x => x
section
variable {prog : Program} {w : World} {A : Around} {E : Value → Shared → Prop} {Q : Flow → Shared → Prop} {s : Shared} {env : Env} {h₀ : Heap} {L : Addr}
theorem while_invH {test : Expr} {body : List Stmt} {pos : Pos} {m : Str → Option Value} {news : List (Addr × Obj)} (J : (Str → Option Value) → Nat → (Str → Option Value) → List (Addr × Obj) → Prop) (n₀ : Nat)
    (F : Fr h₀ L s.heap m) (N : News h₀ L s.heap news) (hJ : J m n₀ m news)
    (turn : ∀ n m₁ nx h₁ tk₁, J m n m₁ nx → Fr h₀ L h₁ m₁ → News h₀ L h₁ nx → ∀ (K : Flow → Shared → Prop) (Z : Shared → Prop), Hid (WTurn h₀ L s (J m) Q n) K → (∀ s, Q .next s → Z s) →
      wpAny (model prog w) A (isTrue test env (eval test env)) (fun b s₂ =>
        if b = true then wpAny (model prog w) A (execs body env) K E s₂ else Z s₂) E { s with heap := h₁, toks := tk₁ })
    (hE : PassesOwn (model prog w) A env E := by passes_own) :
    wpAny (model prog w) A (exec (.While test body [] pos) env) Q E s :=
  while_inv J n₀ F N hJ (fun n m₁ nx h₁ tk₁ a b c => turn n m₁ nx h₁ tk₁ a b c _ _ (fun _ _ x => x) fun _ x => x) hE
end
def MergeMark : Prop := True
theorem MergeMark.mk : MergeMark := trivial
section
variable {M : Model} {A : Around} {E : Value → Shared → Prop} {Q : Flow → Shared → Prop} {s : Shared} {env : Env} {h₀ : Heap} {L : Addr} {m : Str → Option Value} {nw : List (Addr × Obj)}
theorem exec_merge {st : Stmt} (F : Fr h₀ L s.heap m) (N : News h₀ L s.heap nw) (step : ∀ K : Flow → Shared → Prop, (∀ h' tk, Fr h₀ L h' m → News h₀ L h' nw → K .next { s with heap := h', toks := tk }) → wpAny M A (exec st env) K E s)
    (next : ∀ h' tk, Fr h₀ L h' m → News h₀ L h' nw → Q .next { s with heap := h', toks := tk }) : wpAny M A (exec st env) Q E s := step Q next
theorem execs_merge {st : Stmt} {rest : List Stmt} (x : Str) (v : Value) (F : Fr h₀ L s.heap m) (N : News h₀ L s.heap nw) (step : ∀ K : Flow → Shared → Prop, (∀ h' tk, Fr h₀ L h' (fun y => if y = x then some v else m y) → News h₀ L h' nw → K .next { s with heap := h', toks := tk }) → wpAny M A (exec st env) K E s)
    (next : ∀ h' tk, Fr h₀ L h' (fun y => if y = x then some v else m y) → News h₀ L h' nw → wpAny M A (execs rest env) Q E { s with heap := h', toks := tk }) : wpAny M A (execs (st :: rest) env) Q E s := by
  exact wpAny_execs_cons (step _ next)
end
end
end Mine
namespace Mine
section
open PySem.Calls
def Al {α : Type} (R : Value → α → Prop) (vs : List Value) (xs : List α) : Prop := vs.length = xs.length ∧ ∀ (i : Nat) (v : Value), vs[i]? = some v → ∃ a, xs[i]? = some a ∧ R v a
def RStr (v : Value) (x : Str) : Prop := ∃ t, v = .str x t
def RByt (v : Value) (x : Array UInt8) : Prop := ∃ t, v = .bytes x t
theorem take_snoc {α : Type} {xs : List α} {i : Nat} {a : α} (h : xs[i]? = some a) : xs.take (i + 1) = xs.take i ++ [a] := by simp [List.take_add_one, h]
def sl : Str := Str.ofString "/"
def jstep (p b : Str) : Str := if Txt.startswith b sl || p.length == 0 then b else if Txt.endswith p sl then p ++ b else p ++ (sl ++ b)
def joinS (x : Str) (xs : List Str) : Str := xs.foldl jstep x
def lens (xs : List Str) : Nat := (xs.map fun y => y.length + 1).sum
theorem jstep_len (p b : Str) : (jstep p b).length ≤ p.length + (b.length + 1) := by
  have h1 : sl.length = 1 := by decide
  unfold jstep
  split
  · omega
  · split
    · rw [Str.length_append]; omega
    · rw [Str.length_append, Str.length_append]; omega
theorem joinS_snoc (x : Str) (xs : List Str) (b : Str) : joinS x (xs ++ [b]) = jstep (joinS x xs) b := by simp [joinS]
theorem lens_snoc (xs : List Str) (b : Str) : lens (xs ++ [b]) = lens xs + (b.length + 1) := by simp [lens]
theorem lens_take (xs : List Str) (i : Nat) : lens (xs.take i) ≤ lens xs := by
  have : xs.take i ++ xs.drop i = xs := List.take_append_drop i xs
  have h2 : ∀ a b : List Str, lens (a ++ b) = lens a + lens b := fun a b => by simp [lens]
  have h2 := h2 (xs.take i) (xs.drop i)
  rw [this] at h2; omega
theorem joinS_len (x : Str) (xs : List Str) : (joinS x xs).length ≤ x.length + lens xs := by
  induction xs generalizing x with
  | nil => simp [joinS, lens]
  | cons b r ih =>
    have := ih (jstep x b)
    have h2 := jstep_len x b
    have h3 : lens (b :: r) = (b.length + 1) + lens r := by simp [lens]
    show (joinS (jstep x b) r).length ≤ _
    omega
theorem lens_ge (xs : List Str) : xs.length ≤ lens xs := by
  induction xs with
  | nil => simp [lens]
  | cons b r ih => have h3 : lens (b :: r) = (b.length + 1) + lens r := by simp [lens]
                   simp only [List.length_cons]; omega
inductive TB where
  | t (x : Str)
  | b (x : Array UInt8)
def TB.isB : TB → Bool
  | .t _ => false
  | .b _ => true
def RTB (v : Value) : TB → Prop
  | .t x => ∃ t, v = .str x t
  | .b x => ∃ t, v = .bytes x t
theorem Al.cons {α : Type} {R : Value → α → Prop} {v : Value} {x : α} {vs : List Value} {xs : List α} (h : R v x) (r : Al R vs xs) : Al R (v :: vs) (x :: xs) :=
  ⟨by rw [List.length_cons, List.length_cons, r.1], fun i u hu => by
    cases i with
    | zero => cases hu; exact ⟨x, rfl, h⟩
    | succ i => exact r.2 i u hu⟩
end
end Mine
namespace Mine
section
open PySem.Calls
theorem sub_bytes_tuple : isSubtype (.type "bytes") (.type "tuple") = pure false := by rw [isSubtype_type]; kernel_rfl
section
open Builtin
theorem meets_bstarts {b c : Array UInt8} {t u : Tok} (h47 : c = #[47]) : Meets (Builtin.«bytes.startswith» ⟨[.bytes b t, .bytes c u], []⟩) (fun _ R s => R (.ok (.ret (.bool (b.toList.head? == some 47)))) s) := by
  intro prog w A R s hs
  have hT : s.TypeIs (.bytes c u) "bytes" := rfl
  have f1 := sub_bytes_tuple
  have f2 : ∀ id, Bytes.buffer? id (.bytes c u) = pure (some c) := fun id => KBy.buffer_eq
  unfold Builtin.«bytes.startswith» Bytes.tailMatchM
  repeat (any_goals (first | assumption | (simp only [List.headD_cons, f2]) | wp_step))
  subst h47
  have hw : Bytes.window b.size none none = (0, (b.size : Int)) := by
    unfold Bytes.window
    simp only [Option.getD_none]
    rw [if_neg (by omega), if_neg (by omega)]
    simp
  rw [hw]
  have e : (if ((0 : Int), (b.size : Int)).snd - ((0 : Int), (b.size : Int)).fst < ((#[47] : Array UInt8).size : Int) then false else
      if false = true then b.extract (((0 : Int), (b.size : Int)).snd.toNat - (#[47] : Array UInt8).size) ((0 : Int), (b.size : Int)).snd.toNat == #[47]
      else b.extract ((0 : Int), (b.size : Int)).fst.toNat (((0 : Int), (b.size : Int)).fst.toNat + (#[47] : Array UInt8).size) == #[47]) = (b.toList.head? == some 47) := by
    obtain ⟨l⟩ := b
    cases l with
    | nil => rfl
    | cons x r => 
      rw [if_neg (by simp; omega), if_neg (by simp)]
      simp
  rw [e]; exact hs
theorem meets_bends {b c : Array UInt8} {t u : Tok} (h47 : c = #[47]) : Meets (Builtin.«bytes.endswith» ⟨[.bytes b t, .bytes c u], []⟩) (fun _ R s => R (.ok (.ret (.bool (b.toList.getLast? == some 47)))) s) := by
  intro prog w A R s hs
  have hT : s.TypeIs (.bytes c u) "bytes" := rfl
  have f1 := sub_bytes_tuple
  have f2 : ∀ id, Bytes.buffer? id (.bytes c u) = pure (some c) := fun id => KBy.buffer_eq
  unfold Builtin.«bytes.endswith» Bytes.tailMatchM
  repeat (any_goals (first | assumption | (simp only [List.headD_cons, f2]) | wp_step))
  subst h47
  have hw : Bytes.window b.size none none = (0, (b.size : Int)) := by
    unfold Bytes.window
    simp only [Option.getD_none]
    rw [if_neg (by omega), if_neg (by omega)]
    simp
  rw [hw]
  have e : (if ((0 : Int), (b.size : Int)).snd - ((0 : Int), (b.size : Int)).fst < ((#[47] : Array UInt8).size : Int) then false else
      if True then b.extract (((0 : Int), (b.size : Int)).snd.toNat - (#[47] : Array UInt8).size) ((0 : Int), (b.size : Int)).snd.toNat == #[47]
      else b.extract ((0 : Int), (b.size : Int)).fst.toNat (((0 : Int), (b.size : Int)).fst.toNat + (#[47] : Array UInt8).size) == #[47]) = (b.toList.getLast? == some 47) := by
    obtain ⟨l⟩ := b
    rcases List.eq_nil_or_concat l with rfl | ⟨r, x, rfl⟩
    · rfl
    · rw [if_neg (by simp; omega), if_pos trivial]
      simp
  rw [e]; exact hs
end
section
variable {prog : Program} {w : World} {A : Around} {E : Value → Shared → Prop} {s : Shared} {t u : Tok} {b : Array UInt8} {Q : Value → Shared → Prop}
theorem by_starts (h : Q (.bool (b.toList.head? == some 47)) s) : wpAny (model prog w) A (call (.builtin "bytes.startswith") [.bytes b t, .bytes #[47] u]) Q E s :=
  call_meets FB.slot_bytes_startswith (typeIs_bytes _ _ _) FB.entry_bytes_startswith (FB.args_bytes_startswith_2 _ _) (meets_bstarts rfl) h
theorem by_ends (h : Q (.bool (b.toList.getLast? == some 47)) s) : wpAny (model prog w) A (call (.builtin "bytes.endswith") [.bytes b t, .bytes #[47] u]) Q E s :=
  call_meets FB.slot_bytes_endswith (typeIs_bytes _ _ _) FB.entry_bytes_endswith (FB.args_bytes_endswith_2 _ _) (meets_bends rfl) h
theorem by_starts_m {M : Model} {pl : Sem Bool} {Q : Value × List Value → Shared → Prop} (h : Q (.builtin "bytes.startswith", [.bytes b t]) s) : wpAny M A (getMethod (.bytes b t) "startswith" pl) Q E s := by
  with_reducible exact KBd.method_of (.bytes b t) (typeIs_bytes _ _ _) FB.slot_bytes_startswith FB.type_bytes_startswith KBd.noRef h
theorem by_ends_m {M : Model} {pl : Sem Bool} {Q : Value × List Value → Shared → Prop} (h : Q (.builtin "bytes.endswith", [.bytes b t]) s) : wpAny M A (getMethod (.bytes b t) "endswith" pl) Q E s := by
  with_reducible exact KBd.method_of (.bytes b t) (typeIs_bytes _ _ _) FB.slot_bytes_endswith FB.type_bytes_endswith KBd.noRef h
end
theorem no_iadd_bytes : typeLookup (.type "bytes") (dunderI "add") = pure none := by rw [typeLookup_type, builtinLookup_eq_fast]; kernel_rfl
section
variable {prog : Program} {w : World} {A : Around} {E : Value → Shared → Prop} {s : Shared} {b c : Array UInt8} {t u : Tok} {Q : Value → Shared → Prop}
theorem iadd_bytes (hsz : b.size + c.size ≤ 16777216) (h : ∀ t' k, Q (.bytes (b ++ c) t') { s with toks := k }) : wpAny (model prog w) A (inplaceOp .Add (.bytes b t) (.bytes c u)) Q E s := by
  refine iconcat_gives (typeIs_bytes s b t) (typeIs_bytes s c u) no_iadd_bytes KBy.noFill_bytes_add KBy.seq_bytes_add FB.slot_bytes_add FB.entry_bytes_add (FB.args_bytes_add_2 _ _) (KBy.gives_bytes_add (KBy.tooLong_not hsz)) ?_
  by_cases hb : b.isEmpty = true
  · rw [if_pos hb]
    have h' := h u s.toks
    rw [Array.isEmpty_iff.1 hb, Array.empty_append] at h'
    exact h'
  · rw [if_neg hb]
    by_cases hc : c.isEmpty = true
    · rw [if_pos hc]
      have h' := h t s.toks
      rw [Array.isEmpty_iff.1 hc, Array.append_empty] at h'
      exact h'
    · rw [if_neg hc]
      exact ⟨by rw [Array.size_append, sizeLine_eq]; exact hsz, h s.toks (s.toks + 1)⟩
end
def jL {α : Type} [DecidableEq α] (sep : α) (p b : List α) : List α := if b.head? == some sep || p.isEmpty then b else if p.getLast? == some sep then p ++ b else p ++ sep :: b
def joinL {α : Type} [DecidableEq α] (sep : α) (p : List α) (bs : List (List α)) : List α := bs.foldl (jL sep) p
def lensL {α : Type} (xs : List (List α)) : Nat := (xs.map fun y => y.length + 1).sum
section
theorem jL_len {α : Type} [DecidableEq α] (sep : α) (p b : List α) : (jL sep p b).length ≤ p.length + (b.length + 1) := by
  unfold jL
  split
  · omega
  · split
    · rw [List.length_append]; omega
    · rw [List.length_append, List.length_cons]; omega
theorem joinL_snoc {α : Type} [DecidableEq α] (sep : α) (x : List α) (xs : List (List α)) (b : List α) : joinL sep x (xs ++ [b]) = jL sep (joinL sep x xs) b := by simp [joinL]
theorem lensL_snoc {α : Type} (xs : List (List α)) (b : List α) : lensL (xs ++ [b]) = lensL xs + (b.length + 1) := by simp [lensL]
theorem lensL_take {α : Type} (xs : List (List α)) (i : Nat) : lensL (xs.take i) ≤ lensL xs := by
  have h2 : ∀ a b : List (List α), lensL (a ++ b) = lensL a + lensL b := fun a b => by simp [lensL]
  have h2 := h2 (xs.take i) (xs.drop i)
  rw [List.take_append_drop] at h2; omega
theorem joinL_len {α : Type} [DecidableEq α] (sep : α) (x : List α) (xs : List (List α)) : (joinL sep x xs).length ≤ x.length + lensL xs := by
  induction xs generalizing x with
  | nil => simp [joinL, lensL]
  | cons b r ih =>
    have := ih (jL sep x b)
    have h2 := jL_len sep x b
    have h3 : lensL (b :: r) = (b.length + 1) + lensL r := by simp [lensL]
    show (joinL sep (jL sep x b) r).length ≤ _
    omega
theorem lensL_ge {α : Type} (xs : List (List α)) : xs.length ≤ lensL xs := by
  induction xs with
  | nil => simp [lensL]
  | cons b r ih => have h3 : lensL (b :: r) = (b.length + 1) + lensL r := by simp [lensL]
                   simp only [List.length_cons]; omega
end
theorem truthy_b {prog : Program} {w : World} {A : Around} {E : Value → Shared → Prop} {s : Shared} {b : Array UInt8} {t : Tok} {Q : Bool → Shared → Prop} (hfit : b.size ≤ 1099511627776) (h : Q (!b.toList.isEmpty) { s with toks := s.toks + 1 + 1 }) : wpAny (model prog w) A (truthy (.bytes b t)) Q E s := by
  refine truthy_bytes hfit ?_
  have e : ((b.size : Int) != 0) = !b.toList.isEmpty := by
    obtain ⟨l⟩ := b
    cases l with
    | nil => rfl
    | cons x r => simp; omega
  rw [e]; exact h
end
end Mine
namespace Mine
section
open PySem.Calls
def KfS (S : List Addr) (h h' : Heap) : Prop := ∀ b o, h.get? b = some o → ∃ sl, h'.get? b = some { o with slots := sl } ∧ (b ∉ S → sl = o.slots)
theorem KfS.of_kp {S : List Addr} {h h' : Heap} (k : Kp h h') : KfS S h h' := fun b o e => ⟨o.slots, k b o e, fun _ => rfl⟩
theorem KfS.refl {S : List Addr} {h : Heap} : KfS S h h := KfS.of_kp fun _ _ e => e
theorem KfS.trans {S : List Addr} {h h' h'' : Heap} (x : KfS S h h') (y : KfS S h' h'') : KfS S h h'' := fun b o e => by
  obtain ⟨s1, e1, n1⟩ := x b o e
  obtain ⟨s2, e2, n2⟩ := y b _ e1
  exact ⟨s2, e2, fun hb => (n2 hb).trans (n1 hb)⟩
theorem KfS.mono {S S' : List Addr} {h h' : Heap} (x : KfS S h h') (hs : ∀ b ∈ S, b ∈ S') : KfS S' h h' := fun b o e => by
  obtain ⟨sl, e1, n1⟩ := x b o e
  exact ⟨sl, e1, fun hb => n1 fun hm => hb (hs b hm)⟩
theorem KfS.get {S : List Addr} {h h' : Heap} (x : KfS S h h') {b : Addr} {o : Obj} (e : h.get? b = some o) (hb : b ∉ S) : h'.get? b = some o := by
  obtain ⟨sl, e1, n1⟩ := x b o e
  rw [e1, n1 hb]
theorem KfS.gone {S : List Addr} {h h' : Heap} (x : KfS S h h') {b : Addr} (e : h'.get? b = none) : h.get? b = none := by
  cases q : h.get? b with
  | none => rfl
  | some o => obtain ⟨sl, e1, _⟩ := x b o q; rw [e] at e1; cases e1
theorem KfS.of_slots {S S' : List Addr} {h h' : Heap} (x : Heap.SlotsOnly S' h h') (hs : ∀ b ∈ S', b ∈ S) : KfS S h h' := fun b o e => by
  obtain ⟨sl, e1⟩ := x.2.2 b o e
  by_cases hb : b ∈ S'
  · exact ⟨sl, e1, fun n => absurd (hs b hb) n⟩
  · exact ⟨o.slots, (x.2.1 b hb).trans e, fun _ => rfl⟩
theorem KfS.frames {S : List Addr} {h h' base : Heap} {l : List Env} (x : KfS S h h') (hl : h.FunFrames base l) : h'.FunFrames base l := hl.of_keeps fun b o e _ => by
  obtain ⟨sl, e1, _⟩ := x b o e
  exact ⟨_, e1, rfl⟩
theorem KfS.ns {S : List Addr} {h h' : Heap} {L : Addr} {m : MapS} (x : KfS S h h') (hn : h.Ns L m) : h'.Ns L m := by
  obtain ⟨o, es, ep, ho, r⟩ := hn
  obtain ⟨sl, e1, _⟩ := x L o ho
  exact ⟨_, es, ep, e1, r⟩
theorem KfS.fr {S : List Addr} {g h h' : Heap} {L : Addr} {m : MapS} (x : KfS S h h') (F : Fr g L h m) (hS : ∀ b ∈ S, g.get? b = none) : Fr g L h' m :=
  ⟨x.ns F.ns, fun b o e => x.get (F.keep b o e) fun hb => (by rw [hS b hb] at e; cases e), F.above⟩
theorem KfS.news {S : List Addr} {g h h' : Heap} {L : Addr} {news : List (Addr × Obj)} (x : KfS S h h') (N : News g L h news) (hS : ∀ p ∈ news, p.1 ∉ S) : News g L h' news :=
  fun p hp => ⟨x.get (N p hp).1 (hS p hp), (N p hp).2⟩

structure Exc (S : List Addr) (h h' : Heap) (e : Addr) (cls c : Value) (tb : Bool) : Prop where
  kf : KfS S h h'
  new : h.get? e = none
  ob : ∃ oe vs, h'.get? e = some oe ∧ oe.cls = cls ∧ oe.data = .fields vs ∧ vs.size = 6 ∧ vs[2]? = some c ∧
    ((tb = false ∧ vs[1]? = some .none) ∨ (tb = true ∧ ∃ T oT ts, vs[1]? = some (.ref T) ∧ T ≠ e ∧ h.get? T = none ∧ h'.get? T = some oT ∧ oT.data = .fields ts ∧ 3 < ts.size))
theorem Exc.of_new {S : List Addr} {h h' : Heap} {e : Addr} {cls : String} (x : Heap.NewExc h h' e cls) : Exc S h h' e (.type cls) .none false := by
  obtain ⟨ob, t, h1, h2, h3⟩ := x.there
  exact ⟨.of_kp x.keeps, x.new, ob, _, h1, h2, h3, rfl, rfl, .inl ⟨rfl, rfl⟩⟩
theorem Exc.ground {S : List Addr} {g h h' : Heap} {e : Addr} {cls c : Value} {tb : Bool} (k : KfS S g h) (x : Exc S h h' e cls c tb) : Exc S g h' e cls c tb := by
  obtain ⟨oe, vs, h1, h2, h3, h4, h5, h6⟩ := x.ob
  refine ⟨k.trans x.kf, k.gone x.new, oe, vs, h1, h2, h3, h4, h5, h6.imp id ?_⟩
  rintro ⟨ht, T, oT, ts, a1, a2, a3, r⟩
  exact ⟨ht, T, oT, ts, a1, a2, k.gone a3, r⟩
theorem Exc.mono {S S' : List Addr} {h h' : Heap} {e : Addr} {cls c : Value} {tb : Bool} (x : Exc S h h' e cls c tb) (hs : ∀ b ∈ S, b ∈ S') : Exc S' h h' e cls c tb := ⟨x.kf.mono hs, x.new, x.ob⟩
theorem Exc.later {S : List Addr} {h h' h'' : Heap} {e : Addr} {cls c : Value} {tb : Bool} (x : Exc S h h' e cls c tb) (k : Kp h' h'') : Exc S h h'' e cls c tb := by
  obtain ⟨oe, vs, h1, h2, h3, h4, h5, h6⟩ := x.ob
  refine ⟨x.kf.trans (.of_kp k), x.new, oe, vs, k _ _ h1, h2, h3, h4, h5, h6.imp id ?_⟩
  rintro ⟨ht, T, oT, ts, a1, a2, a3, a4, r⟩
  exact ⟨ht, T, oT, ts, a1, a2, a3, k _ _ a4, r⟩
theorem kfs_update {S : List Addr} {h : Heap} {a : Addr} {f : Obj → Obj} {g : Heap} (k : KfS S g h) (ha : g.get? a = none) : KfS S g (h.update a f) := fun b o e => by
  obtain ⟨sl, e1, n1⟩ := k b o e
  refine ⟨sl, (Heap.get?_update_ne _ _ _ _ fun q => ?_).trans e1, n1⟩
  rw [← q, e] at ha; cases ha
theorem kfs_push {S : List Addr} {h : Heap} {o' : Obj} {g : Heap} (k : KfS S g h) : KfS S g (h.push o') := fun b o e => by
  obtain ⟨sl, e1, n1⟩ := k b o e
  exact ⟨sl, Heap.get?_push_of_some _ e1, n1⟩

section
variable {M : Model} {A : Around} {E : Value → Shared → Prop} {s : Shared} {S : List Addr} {h : Heap} {e : Addr} {cls c : Value} {tb : Bool} {Q : Unit → Shared → Prop}
theorem flight_set {fr : Option Addr} (x : Exc S h s.heap e cls c true) (hQ : ∀ h', Exc S h h' e cls c true → Q () { s with heap := h' }) : wpAny M A (setFlight (.ref e) fr) Q E s := by
  obtain ⟨oe, vs, h1, h2, h3, h4, h5, h6⟩ := x.ob
  rcases h6 with ⟨q, _⟩ | ⟨_, T, oT, ts, a1, a2, a3, a4, a5, a6⟩
  · cases q
  · unfold setFlight
    refine wpAny_bind (wpAny_field h1 h3 a1 ?_)
    rw [if_pos (show (Value.ref T != Value.none) = true from by simp)]
    refine wpAny_setField a4 a5 a6 (hQ _ ⟨kfs_update x.kf a3, x.new, oe, vs, (Heap.get?_update_ne _ _ _ _ a2.symm).trans h1, h2, h3, h4, h5, .inr ⟨rfl, T, _, _, a1, a2, a3, Heap.get?_update_self _ a4 (Obj.isFreed_of_fields (Obj.data_mapFields a5 _)), Obj.data_mapFields a5 _, by simpa using a6⟩⟩)
theorem flight_none (x : Exc S h s.heap e cls c tb) (hQ : ∀ h', Exc S h h' e cls c tb → Q () { s with heap := h' }) : wpAny M A (setFlight (.ref e) none) Q E s := by
  cases tb with
  | true => exact flight_set x hQ
  | false =>
    obtain ⟨oe, vs, h1, h2, h3, h4, h5, h6⟩ := id x.ob
    rcases h6 with ⟨_, a1⟩ | ⟨q, _⟩
    · unfold setFlight
      refine wpAny_bind (wpAny_field h1 h3 a1 ?_)
      rw [if_neg (show ¬ ((Value.none != Value.none) = true) from by decide)]
      exact wpAny_pure (hQ _ x)
    · cases q
end
theorem Exc.slots {S S' : List Addr} {h h' h'' : Heap} {e : Addr} {cls c : Value} {tb : Bool} (x : Exc S h h' e cls c tb) (z : Heap.SlotsOnly S' h' h'') (hs : ∀ b ∈ S', b ∈ S) : Exc S h h'' e cls c tb := by
  obtain ⟨oe, vs, h1, h2, h3, h4, h5, h6⟩ := x.ob
  obtain ⟨sl, e1⟩ := z.2.2 _ _ h1
  refine ⟨x.kf.trans (.of_slots z hs), x.new, _, vs, e1, h2, h3, h4, h5, h6.imp id ?_⟩
  rintro ⟨ht, T, oT, ts, a1, a2, a3, a4, r⟩
  obtain ⟨sl2, e2⟩ := z.2.2 _ _ a4
  exact ⟨ht, T, _, ts, a1, a2, a3, e2, r⟩
section
variable {M : Model} {A : Around} {E : Value → Shared → Prop} {s : Shared} {S : List Addr} {h base : Heap} {e L : Addr} {cls c : Value} {tb : Bool} {Q : Unit → Shared → Prop} {env : Env} {outer : List Env}
theorem entry_ok {head : Value} {hadNext : Bool} (hfr : A.frames = some (env :: outer)) (hf : env.frame = some L) (hl : h.FunFrames base (env :: outer)) (hS : ∀ b ∈ (env :: outer).filterMap (·.frame), b ∈ S)
    (x : Exc S h s.heap e cls c tb) (hQ : ∀ h', Exc S h h' e cls c true → Q () { s with heap := h' }) :
    wpAny M A (do let a ← frameOf env; let pl ← entryPlaceOf L hadNext; let b ← EntryCells.newEntry head a .none (rawInt L) .none pl; setField (.ref e) 1 b) Q E s := by
  refine wpAny_bind (wpAny_frameOf_fun hfr (x.kf.frames hl) hf fun h₁ hs₁ => ?_)
  have x₁ := x.slots hs₁ hS
  refine wpAny_bind (wpAny_entryPlaceOf fun pl hpl => ?_)
  unfold EntryCells.newEntry newFields
  refine wpAny_bind (wpAny_newObj_type ?_ (hpl.sizeOk5 _ _ _ _ _))
  obtain ⟨oe, vs, h1, h2, h3, h4, h5, _⟩ := x₁.ob
  have h1' : (h₁.push { cls := .type "traceback", dict := none, data := .fields ([head, .ref L, .none, rawInt L, .none] ++ (if pl.isEmpty then List.replicate 6 Value.none else pl)).toArray }).get? e = some oe := Heap.get?_push_of_some _ h1
  have hTe : h₁.objs.size ≠ e := Nat.ne_of_gt (Heap.lt_size h1)
  refine wpAny_setField h1' h3 (by omega) (hQ _ ⟨kfs_update (kfs_push x₁.kf) x.new, x.new, _, _, Heap.get?_update_self _ h1' (Obj.isFreed_of_fields (Obj.data_mapFields h3 _)), (Obj.cls_mapFields _ _).trans h2, Obj.data_mapFields h3 _, by simpa using h4, ?_, .inr ⟨rfl, h₁.objs.size, _, _, ?_, hTe, x₁.kf.gone (none_size (Nat.le_refl _)), (Heap.get?_update_ne _ _ _ _ hTe).trans (Heap.get?_push_size _ rfl), rfl, ?_⟩⟩)
  · rw [← h5]; simp
  · simp [Array.getElem?_setIfInBounds]; omega
  · simp only [List.size_toArray, List.length_append, List.length_cons, List.length_nil]; omega
theorem note_ok (hfr : A.frames = some (env :: outer)) (hf : env.frame = some L) (hl : h.FunFrames base (env :: outer)) (hS : ∀ b ∈ (env :: outer).filterMap (·.frame), b ∈ S)
    (x : Exc S h s.heap e cls c tb) (hQ : ∀ h', Exc S h h' e cls c true → Q () { s with heap := h' }) : wpAny M A (noteFrame (.ref e) env) Q E s := by
  unfold noteFrame
  simp only [hf]
  obtain ⟨oe, vs, h1, h2, h3, h4, h5, h6⟩ := id x.ob
  rcases h6 with ⟨rfl, a1⟩ | ⟨rfl, T, oT, ts, a1, a2, a3, a4, a5, a6⟩
  · refine wpAny_bind (wpAny_field h1 h3 a1 ?_)
    rw [if_neg (show ¬ ((Value.none != Value.none) = true) from by decide)]
    exact entry_ok hfr hf hl hS x hQ
  · refine wpAny_bind (wpAny_field h1 h3 a1 ?_)
    rw [if_pos (show (Value.ref T != Value.none) = true from by simp)]
    obtain ⟨v3, hv3⟩ : ∃ v, ts[3]? = some v := ⟨_, Array.getElem?_eq_getElem a6⟩
    refine wpAny_bind (wpAny_field a4 a5 hv3 ?_)
    by_cases hq : (v3 == rawInt L) = true
    · rw [if_pos hq]
      exact wpAny_pure (hQ _ x)
    · rw [if_neg hq]
      refine wpAny_bind (wpAny_setField a4 a5 a6 ?_)
      exact entry_ok (s := { s with heap := _ }) hfr hf hl hS ⟨kfs_update x.kf a3, x.new, oe, vs, (Heap.get?_update_ne _ _ _ _ a2.symm).trans h1, h2, h3, h4, h5, .inr ⟨rfl, T, _, _, a1, a2, a3, Heap.get?_update_self _ a4 (Obj.isFreed_of_fields (Obj.data_mapFields a5 _)), Obj.data_mapFields a5 _, by simpa using a6⟩⟩ hQ
theorem leave_ok (hfr : A.frames = some (env :: outer)) (hf : env.frame = some L) (hl : h.FunFrames base (env :: outer)) (hS : ∀ b ∈ (env :: outer).filterMap (·.frame), b ∈ S)
    (x : Exc S h s.heap e cls c tb) (hQ : ∀ h', Exc S h h' e cls c true → Q () { s with heap := h' }) : wpAny M A (leaving env (.ref e)) Q E s := by
  unfold leaving
  exact wpAny_bind (note_ok hfr hf hl hS x fun h' x' => flight_set (s := { s with heap := h' }) x' hQ)
theorem came_ok {Q : Value → Shared → Prop} (x : Exc S h s.heap e cls c true) (hQ : ∀ h', Exc S h h' e cls c true → Q (.ref e) { s with heap := h' }) : cameBackBy M A env Q (.ref e) s := by
  unfold cameBackBy
  obtain ⟨oe, vs, h1, h2, h3, h4, h5, h6⟩ := id x.ob
  rcases h6 with ⟨q, _⟩ | ⟨_, T, oT, ts, a1, a2, a3, a4, a5, a6⟩
  · cases q
  · refine wpAny_bind (wpAny_field h1 h3 a1 ?_)
    rw [if_neg (show ¬ ((Value.ref T == Value.none) = true) from by simp)]
    exact flight_set x hQ
theorem noted_ok {Q : Value → Shared → Prop} (hfr : A.frames = some (env :: outer)) (hf : env.frame = some L) (hl : h.FunFrames base (env :: outer)) (hS : ∀ b ∈ (env :: outer).filterMap (·.frame), b ∈ S)
    (x : Exc S h s.heap e cls c tb) (hQ : ∀ h', Exc S h h' e cls c true → Q (.ref e) { s with heap := h' }) : notedBy M A env Q (.ref e) s := note_ok hfr hf hl hS x hQ
end
theorem KfS.drop {S : List Addr} {L : Addr} {h h' : Heap} (x : KfS (L :: S) h h') (hL : h.get? L = none) : KfS S h h' := fun b o e => by
  obtain ⟨sl, e1, n1⟩ := x b o e
  refine ⟨sl, e1, fun hb => n1 fun hm => ?_⟩
  rcases List.mem_cons.mp hm with q | q
  · rw [q, hL] at e; cases e
  · exact hb q
theorem Exc.drop {S : List Addr} {L : Addr} {h h' : Heap} {e : Addr} {cls c : Value} {tb : Bool} (x : Exc (L :: S) h h' e cls c tb) (hL : h.get? L = none) : Exc S h h' e cls c tb := ⟨x.kf.drop hL, x.new, x.ob⟩
theorem fr_none {g h : Heap} {L : Addr} {m : MapS} (F : Fr g L h m) : g.get? L = none := none_size F.above
theorem leave_frame {M : Model} {A : Around} {E : Value → Shared → Prop} {s : Shared} {base g h : Heap} {e L : Addr} {cls c : Value} {tb : Bool} {S : List Addr} {Q : Unit → Shared → Prop} {env : Env} {fs : List Env} {m : MapS}
    (B : Below A base fs g) (F : Fr g L h m) (hf : env.frame = some L) (hk : env.scope.kind = .function) (hS : ∀ b ∈ S, b ∈ (env :: fs).filterMap (·.frame)) (x : Exc S h s.heap e cls c tb)
    (hQ : ∀ h', Exc (fs.filterMap (·.frame)) g h' e cls c true → Q () { s with heap := h' }) : wpAny M (A.deeper env) (leaving env (.ref e)) Q E s := by
  refine leave_ok (Around.frames_deeper B.stack) hf (pushX B F hf hk).frames (fun b hb => hb) (x.mono hS) fun h' x' => hQ h' ?_
  have x2 := x'.ground (.of_kp F.keep)
  have e2 : (env :: fs).filterMap (·.frame) = L :: fs.filterMap (·.frame) := by rw [List.filterMap_cons, hf]
  rw [e2] at x2
  exact x2.drop (fr_none F)
end
end Mine
namespace Mine
section
open PySem.Calls
theorem entry_unchain : entryFor table "proto.unchain" = some Builtin.«proto.unchain» := entryFor_of_tree (by kernel_rfl)
def HOk (A : Around) (h : Heap) : Prop := A.handled = none ∨ ∃ x ox vx, A.handled = some (.ref x) ∧ h.get? x = some ox ∧ ox.data = .fields vx ∧ vx[2]? = some .none
theorem HOk.keeps {A : Around} {h h' : Heap} (x : HOk A h) (k : Kp h h') : HOk A h' := x.imp id fun ⟨x, ox, vx, a, b, r⟩ => ⟨x, ox, vx, a, k _ _ b, r⟩
section
variable {α : Type} {prog : Program} {w : World} {A : Around} {E : Value → Shared → Prop} {s : Shared} {Q : α → Shared → Prop}
theorem raiseNew_ok {e : Addr} {oe : Obj} {vs : Array Value} (hh : HOk A s.heap) (hne : ∀ x, A.handled = some (.ref x) → x ≠ e) (he : s.heap.get? e = some oe) (hd : oe.data = .fields vs) (hsz : 2 < vs.size) (h2 : vs[2]? = some .none)
    (hE : ∀ h' c, (∀ b, b ≠ e → h'.get? b = s.heap.get? b) → (∃ o', h'.get? e = some o' ∧ o'.cls = oe.cls ∧ o'.data = .fields (vs.setIfInBounds 2 c)) → E (.ref e) { s with heap := h' }) :
    wpAny (model prog w) A (raiseNew (.ref e) : Sem α) Q E s := by
  unfold raiseNew
  refine wpAny_bind (wpAny_handled ?_)
  rcases hh with hh | ⟨x, ox, vx, hh, hx, hdx, hcx⟩
  · rw [hh]
    refine wpAny_bind (wpAny_pure (wpAny_throw (hE _ .none (fun _ _ => rfl) ⟨oe, he, rfl, ?_⟩)))
    rw [hd]
    congr 1
    refine (Array.ext (by simp) fun i h1 h2' => ?_)
    rw [Array.getElem_setIfInBounds]
    split
    · rename_i q; subst q
      have := (Array.getElem?_eq_some_iff.mp h2).2
      exact this
    · rfl
  · rw [hh]
    have hx' : x ≠ e := hne x hh
    dsimp only
    rw [if_pos (show (Value.ref x != Value.ref e) = true from by simpa using hx')]
    refine wpAny_bind (wpAny_holding (wpAny_runValue (codeAny_builtin entry_unchain ?_)))
    show wpAny _ _ (field (.ref x) 2 >>= _) _ _ s
    refine wpAny_bind (wpAny_field hx hdx hcx ?_)
    show wpAny _ _ (if (Value.none == Value.none) = true then _ else _) _ _ s
    rw [if_pos (by decide)]
    refine wpAny_bind (wpAny_pure (wpAny_pure ?_))
    show wpAny _ _ (updateField e 2 (.ref x) >>= _) _ _ s
    refine wpAny_bind ?_
    exact wpAny_setField (a := e) he hd hsz (wpAny_throw (hE _ (.ref x) (fun b hb => Heap.get?_update_ne _ _ _ _ hb) ⟨_, Heap.get?_update_self _ he (Obj.isFreed_of_fields (Obj.data_mapFields hd _)), Obj.cls_mapFields _ _, Obj.data_mapFields hd _⟩))
end
structure NewX (h h' : Heap) (e : Addr) (cls : String) : Prop where
  keeps : Kp h h'
  new : h.get? e = none
  ob : ∃ o t c, h'.get? e = some o ∧ o.cls = .type cls ∧ o.data = .fields #[t, .none, c, .none, .bool false, .none]
section
variable {α : Type} {prog : Program} {w : World} {A : Around} {E : Value → Shared → Prop} {s : Shared} {Q : α → Shared → Prop}
end
section
variable {prog : Program} {w : World} {A : Around} {E : Value → Shared → Prop} {s : Shared}
theorem stop_ok {A₂ : Around} {Q : Option Value → Shared → Prop} {it : Addr} {h₀ : Heap} (hh : HOk A s.heap) (k : Heap.ExtBut it h₀ s.heap)
    (hQ : ∀ h', Heap.ExtBut it h₀ h' → Q none { s with heap := h' }) :
    wpAny (model prog w) A (newExc (.type "StopIteration") [] >>= fun e => (raiseNew e : Sem Fin)) (fun _ _ => False) (fun e s' => wpAny (model prog w) A₂ (do if ← isInstance e (.type "StopIteration") then pure none else throw e : Sem (Option Value)) Q E s') s := by
  simp only [newExc, newTuple]
  refine wpAny_bind (wpAny_bind (wpAny_newObj_type ?_ (by size_fits)))
  refine wpAny_bind (m := firstArgMember _ _) (wpAny_of_eq (a := Value.none) (by first | rfl | (simp only [firstArgMember]; rfl)) ?_)
  refine wpAny_newObj_type ?_ (by size_fits)
  have k1 : Kp s.heap _ := fun b o q => Heap.get?_push_of_some (h := s.heap.push { cls := .type "tuple", data := .seq ([] : List Value).toArray }) { cls := .type "StopIteration", data := .fields (#[Value.ref s.heap.objs.size, .none, .none, .none, .bool false, .none] ++ ownMembersOf (.type "StopIteration") []) } (Heap.get?_push_of_some _ q)
  refine raiseNew_ok (hh.keeps k1) ?_ (Heap.get?_push_size _ rfl) rfl (by rw [Array.size_append]; exact Nat.lt_of_lt_of_le (by decide) (Nat.le_add_right 6 _)) (by rw [Array.getElem?_append_left (by show 2 < 6; omega)]; rfl) ?_
  · intro x hx q
    rcases hh with hn | ⟨y, ox, vx, hy, hg, _⟩
    · rw [hn] at hx; cases hx
    · rw [hy] at hx; cases hx
      have h8 : @LT.lt Nat _ x s.heap.objs.size := Heap.lt_size hg
      have h9 : @Eq Nat x (s.heap.objs.size + 1) := q.trans (Heap.size_push ..)
      omega
  · intro h' c k2 ⟨o', a1, a2, _⟩
    refine wpAny_bind (wpAny_isInstance (T := "StopIteration") (b := true) ⟨_, a1, a2⟩ isSubtype_stop ?_)
    refine wpAny_pure (hQ _ fun b o hb q => (k2 b fun z => ?_).trans (k1 b o (k b o hb q)))
    have h8 : @LT.lt Nat _ b s.heap.objs.size := Heap.lt_size (k b o hb q)
    have h9 : @Eq Nat b (s.heap.objs.size + 1) := z.trans (Heap.size_push ..)
    omega
end
section
variable {prog : Program} {w : World} {A : Around} {E : Value → Shared → Prop} {s : Shared}
theorem next_tuple_end {it t : Addr} {i : Nat} {items : Array Value} {Q : Option Value → Shared → Prop} (hh : HOk A s.heap) (hne : ∀ x, A.handled = some (.ref x) → x ≠ it)
    (hit : s.heap.IsTupleIter it t i) (ht : s.heap.IsTuple t items) (hx : items[i]? = none)
    (hQ : ∀ h', Heap.ExtBut it s.heap h' → Q none { s with heap := h' }) : wpAny (model prog w) A (pyNext (.ref it)) Q E s := by
  obtain ⟨o, ho, hc, hd⟩ := id hit
  obtain ⟨ol, hol, _, nl, hdl⟩ := ht
  unfold pyNext
  refine wpAny_bind (wpAny_attempt (wpAny_callSpecial?_slot (name := Str.ofString "__next__") hit.typeIs F.slot_tuple_iterator_next
    (wpAny_call_entry F.slot_tuple_iterator_next hit.typeIs F.entry_tuple_iterator_next ?_ (F.args_tuple_iterator_next_1 _))))
  show wpAny _ _ (field (.ref it) 0 >>= _) _ _ s
  refine wpAny_bind (wpAny_field ho hd (x := .ref t) rfl ?_)
  show wpAny _ _ (if (Value.ref t == Value.none) = true then _ else _) _ _ s
  rw [if_neg (show ¬ ((Value.ref t == Value.none) = true) from Bool.false_ne_true)]
  show wpAny _ _ (field (.ref it) 1 >>= _) _ _ s
  refine wpAny_bind (wpAny_field ho hd (x := .int i 0) rfl ?_)
  show wpAny _ _ (seqItems? (.ref t) >>= _) _ _ s
  refine wpAny_bind (wpAny_seqItems hol hdl ?_)
  simp only [Int.toNat_natCast, hx]
  refine wpAny_bind (wpAny_rule (wpAny_bind (wpAny_setField ho hd (by simp) ?_)))
  have hh' : HOk A.in1 (s.heap.update it (Obj.mapFields (·.setIfInBounds 0 .none))) := by
    rcases hh with hn | ⟨x, ox, vx, hy, hg, r⟩
    · exact .inl hn
    · exact .inr ⟨x, ox, vx, hy, (Heap.get?_update_ne _ _ _ _ (hne x hy)).trans hg, r⟩
  show wpAny _ _ (newExc (.type "StopIteration") [] >>= fun e => (raiseNew e : Sem Fin)) _ _ _
  exact wpAny_mono (stop_ok (A₂ := A) (E := E) (s := { s with heap := s.heap.update it (Obj.mapFields (·.setIfInBounds 0 .none)) }) (h₀ := s.heap) hh' (fun b o hb q => (Heap.get?_update_ne _ _ _ _ hb).trans q) hQ) (fun _ _ q => q.elim) (fun _ _ q => q)
end
theorem walks_tuple {prog : Program} {w : World} {A : Around} (I ax : Addr) (hne : ax ≠ I) (items : Array Value) {x : Addr} {ox : Obj} {vx : Array Value} (hA : A.handled = some (.ref x)) (hd : ox.data = .fields vx) (hc : vx[2]? = some .none) (hxI : x ≠ I) :
    Walks prog w A I [I, ax, x] [I] items.size (fun i v => items[i]? = some v) (fun i h => (h.IsTupleIter I ax i ∧ h.IsTuple ax items) ∧ h.get? x = some ox) where
  sub := fun b hb => by simp at hb; simp [hb]
  frame := fun _ _ _ st hk => ⟨⟨st.1.1.at fun o e => hk I (by simp) o e, st.1.2.at fun o e => hk ax (by simp) o e⟩, hk x (by simp) _ st.2⟩
  item := fun i s Q E hi st hQ => by
    refine wpAny_pyNext_tuple_item st.1.1 st.1.2 (x := items[i]) (by simp [hi]) fun h' hit' hs' => ?_
    exact hQ _ h' s.toks (by simp [hi]) ⟨⟨hit', st.1.2.extBut hs'.extBut hne⟩, hs'.extBut x _ hxI st.2⟩ fun b o hb e => hs'.extBut b o (fun h => hb (by simp [h])) e
  done := fun s Q E st hQ => next_tuple_end (.inr ⟨x, ox, vx, hA, st.2, hd, hc⟩) (fun y hy => by rw [hA] at hy; cases hy; exact hxI) st.1.1 st.1.2 (by simp) fun h' he' => hQ h' s.toks fun b o hb e => he' b o (fun h => hb (by simp [h])) e
  self := fun _ _ _ _ st hQ => wpAny_pyIter_tupleiter st.1.1 hQ
section
variable {prog : Program} {w : World} {A : Around} {E : Value → Shared → Prop} {s : Shared} {env : Env} {h₀ : Heap} {x : Str} {body : List Stmt} {Q : Flow → Shared → Prop}
theorem for_tupH {D y : Addr} {oy : Obj} {vy : Array Value} {vs : List Value} {m₀ : Str → Option Value} {news : List (Addr × Obj)} (J : (Str → Option Value) → Nat → (Str → Option Value) → List (Addr × Obj) → Prop)
    (hA : A.handled = some (.ref y)) (hy : s.heap.get? y = some oy) (hdy : oy.data = .fields vy) (hcy : vy[2]? = some .none) (hyL : y ≠ env.locals)
    (F : Fr h₀ env.locals s.heap m₀) (N : News h₀ env.locals s.heap news) (hD : s.heap.IsTuple D vs.toArray) (hDL : D ≠ env.locals) (hj : J m₀ 0 m₀ news)
    (turn : ∀ I i v m₁ nx h tk own, vs[i]? = some v → (∃ o, (I, o) ∈ own) → (∀ p ∈ nx, p.1 ∉ [I]) → J m₀ i m₁ nx → Fr h₀ env.locals h (fun y => if y = x then some v else m₁ y) → News h₀ env.locals h (own ++ nx) →
      wpAny (model prog w) A (execs body env) (TurnEnd h₀ env.locals [I] own (J m₀ (i + 1)) s Q) E { s with heap := h, toks := tk })
    (done : ∀ m₁ nx h tk, J m₀ vs.length m₁ nx → Fr h₀ env.locals h m₁ → News h₀ env.locals h nx → Q .next { s with heap := h, toks := tk }) :
    wpAny (model prog w) A (pyIter (.ref D)) (fun it s₂ => LoopAtV prog w A h₀ env x body Q E it s₂) E s := by
  obtain ⟨oD, hoD, hr⟩ := id hD
  have hne : D ≠ s.heap.objs.size := lt_ne_size hoD
  refine wpAny_pyIter_tuple hD ?_
  have W := walks_tuple (prog := prog) (w := w) s.heap.objs.size D hne vs.toArray hA hdy hcy (lt_ne_size hy)
  have hlen : vs.toArray.size = vs.length := by simp
  rw [hlen] at W
  refine for_walk (J m₀) W ?_ ?_ ?_ ?_ ⟨⟨⟨_, Heap.get?_push_size _ rfl, rfl, rfl⟩, ⟨oD, Heap.get?_push_of_some _ hoD, hr⟩⟩, Heap.get?_push_of_some _ hy⟩ (F.push _) (fun p hp => ⟨Heap.get?_push_of_some _ (N p hp).1, (N p hp).2⟩) hj ?_ ?_
  · intro hm
    rcases List.mem_cons.mp hm with e | hm
    · exact absurd F.ns.lt (e ▸ Nat.lt_irrefl _)
    · rcases List.mem_cons.mp hm with e | hm
      · exact hDL e.symm
      · exact hyL (List.mem_singleton.mp hm).symm
  · intro b hb; rw [List.mem_singleton.mp hb]; exact next_is_new F
  · intro p hp hI; exact absurd (Heap.lt_size (N p hp).1) ((List.mem_singleton.mp hI) ▸ Nat.lt_irrefl _)
  · intro i h hi b hb; rw [List.mem_singleton.mp hb]; obtain ⟨⟨⟨o, ho, _⟩, _⟩, _⟩ := hi; exact ⟨o, ho⟩
  · intro i v m₁ nx h tk own hi hP hI ho hJ F₁ N₁
    exact turn _ i v m₁ nx h tk own (by simpa using hP) (hI _ (.head _)) ho hJ F₁ N₁
  · exact fun m₁ nx h tk hJ F₁ N₁ => done m₁ nx h tk hJ F₁ N₁
end
end
end Mine
namespace Mine
section
open PySem.Calls
section
variable {M : Model} {A : Around} {E : Value → Shared → Prop} {s : Shared}
theorem excFrom_ok {cls : String} (F : ExcRaiseFacts cls) {e : Addr} {dd : Option Addr} {vs : Array Value} {sl : Array (Option Value)} {msg : String} {Q : Value → Shared → Prop} (he : s.heap.get? e = some ⟨.type cls, dd, .fields vs, sl⟩) (h : Q (.ref e) s) : wpAny M A (excFromValue (.ref e) msg) Q E s := by
  obtain ⟨hp, g, d, tk, os⟩ := s
  have hsub := F.isExc
  have hmeta := F.plainMeta
  have hT : (⟨hp, g, d, tk, os⟩ : Shared).TypeIs (.ref e) cls := ⟨_, he, rfl⟩
  repeat (first | assumption | refine wpAny_loadPart he ?_ | wp_step)
theorem isType_exc {cls : String} {e : Addr} {dd : Option Addr} {vs : Array Value} {sl : Array (Option Value)} {Q : Bool → Shared → Prop} (he : s.heap.get? e = some ⟨.type cls, dd, .fields vs, sl⟩) (h : Q false s) : wpAny M A (isType (.ref e)) Q E s := by
  obtain ⟨hp, g, d, tk, os⟩ := s
  repeat (first | assumption | refine wpAny_loadPart he ?_ | wp_step)
theorem raisedInst_ok {cls : String} (F : ExcRaiseFacts cls) {e : Addr} {dd : Option Addr} {vs : Array Value} {sl : Array (Option Value)} {Q : Value → Shared → Prop} (he : s.heap.get? e = some ⟨.type cls, dd, .fields vs, sl⟩) (h : Q (.ref e) s) : wpAny M A (raisedInstance (.ref e)) Q E s := by
  obtain ⟨hp, g, d, tk, os⟩ := s
  have hmeta := F.plainMeta
  have hT : (⟨hp, g, d, tk, os⟩ : Shared).TypeIs (.ref e) cls := ⟨_, he, rfl⟩
  repeat (first | assumption | (rw [if_pos hmeta]) | refine wpAny_loadPart he ?_ | wp_step)
end
section
variable {prog : Program} {w : World} {A : Around} {E : Value → Shared → Prop} {s : Shared} {env : Env}
theorem raise_fromNone {cls : String} (F : ExcRaiseFacts cls) {x c : Sem Value} {Q : Flow → Shared → Prop}
    (h : wpAny (model prog w) A x (fun v s₁ => ∃ e t, v = .ref e ∧ s₁.heap.get? e = some { cls := .type cls, data := .fields #[.ref t, .none, .none, .none, .bool false, .none] } ∧ HOk A s₁.heap ∧ (∀ x, A.handled = some (.ref x) → x ≠ e) ∧
      wpAny (model prog w) A c (fun n s₂ => n = .none ∧ s₂.heap = s₁.heap ∧ ∀ h' k, (∀ b, b ≠ e → h'.get? b = s₁.heap.get? b) → (∃ o', h'.get? e = some o' ∧ o'.cls = .type cls ∧ o'.data = .fields #[.ref t, .none, k, .none, .bool true, .none]) → E (.ref e) { s₂ with heap := h' }) E s₁) E s) :
    wpAny (model prog w) A (raiseStmt env (some x) (some c)) Q E s := by
  unfold raiseStmt
  refine wpAny_bind (wpAny_mono h (fun v s₁ h₁ => ?_) fun _ _ x => x)
  obtain ⟨e, t, rfl, he, hok, hne, hc⟩ := h₁
  dsimp only
  refine wpAny_bind (wpAny_holding (wpAny_mono hc (fun n s₂ h₂ => wpAny_bind (wpAny_pure ?_)) fun _ _ x => x))
  obtain ⟨rfl, hh, hE⟩ := h₂
  rw [← hh] at he hok hE
  refine wpAny_bind (wpAny_holding (excFrom_ok F he ?_))
  dsimp only
  rw [if_pos (by decide)]
  refine wpAny_bind (wpAny_pure ?_)
  refine wpAny_bind (wpAny_setField he rfl (by show 3 < 6; omega) ?_)
  have he1 := Heap.get?_update_self (Obj.mapFields (·.setIfInBounds 3 (Value.none))) he rfl
  refine wpAny_bind (wpAny_setField he1 rfl (by show 4 < 6; omega) ?_)
  have he2 := Heap.get?_update_self (Obj.mapFields (·.setIfInBounds 4 (Value.bool true))) he1 rfl
  refine wpAny_bind (isType_exc he2 ?_)
  rw [if_neg (by decide)]
  refine wpAny_bind (raisedInst_ok F he2 ?_)
  unfold setFlight
  refine wpAny_bind (wpAny_bind (wpAny_field he2 rfl (x := .none) rfl ?_))
  rw [if_neg (by decide)]
  refine wpAny_pure ?_
  have ok2 : HOk A ((s₂.heap.update e (Obj.mapFields (·.setIfInBounds 3 (Value.none)))).update e (Obj.mapFields (·.setIfInBounds 4 (Value.bool true)))) := by
    rcases hok with hn | ⟨x, ox, vx, hy, hg, r⟩
    · exact .inl hn
    · exact .inr ⟨x, ox, vx, hy, (Heap.get?_update_ne _ _ _ _ (hne x hy)).trans ((Heap.get?_update_ne _ _ _ _ (hne x hy)).trans hg), r⟩
  refine raiseNew_ok ok2 hne he2 rfl (by show 2 < 6; omega) rfl fun h' k k2 ⟨o', a1, a2, a3⟩ => hE h' k (fun b hb => (k2 b hb).trans ((Heap.get?_update_ne _ _ _ _ hb).trans (Heap.get?_update_ne _ _ _ _ hb))) ⟨o', a1, a2, a3⟩
end
section
variable {prog : Program} {w : World} {A : Around} {E : Value → Shared → Prop} {s : Shared} {env : Env}
theorem Raise_none {cls newId initId : String} (F : ExcCallFacts cls newId initId) (G : ExcRaiseFacts cls) {x : Str} {np cpos pos kp : Pos} {kk : Nat} {args : List Expr} {Q : Flow → Shared → Prop}
    (hplain : (backTo cpos (starEach args env)).any (·.1) = false)
    (h : wpAny (model prog w) A (eval (.Name x np) env) (fun f s₁ => f = .type cls ∧ wpAny (model prog w) A (evalArgs (.type cls) true (backTo cpos (starEach args env)) [])
      (fun a s₂ => a.kw = [] ∧ a.pos.length ≤ sizeLine ∧ HOk A s₂.heap ∧ ∀ h' e c, Kp s₂.heap h' → Exc [] s₂.heap h' e (.type cls) c false → E (.ref e) { s₂ with heap := h' }) E s₁) E s) :
    wpAny (model prog w) A (exec (.Raise (some (.Call (.Name x np) args [] cpos)) (some (.Constant .none kk kp)) pos) env) Q E s := by
  rw [arm_exec_Raise]
  simp only [evalOpt, Option.map]
  refine wpAny_bind (wpAny_standAt (raise_fromNone G (wpAny_bind (wpAny_mono (wpAny_Call_ofName (keywords := []) (wpAny_mono h (fun f s₁ h₁ => ?_) fun _ _ x => x)) (fun v s₁ h₁ => wpAny_bind (wpAny_standAt (wpAny_pure h₁))) fun _ _ x => x))))
  obtain ⟨rfl, h₁⟩ := h₁
  refine callWith_excType hplain (wpAny_mono h₁ (fun a s₂ h₂ => ?_) fun _ _ x => x)
  obtain ⟨apos, akw⟩ := a
  obtain ⟨hkw, hlen, hok, h₂⟩ := h₂
  obtain rfl : akw = [] := hkw
  obtain ⟨hp, g, d, tk, os⟩ := s₂
  refine wpAny_call_exc F (hrest := hlen) fun h' e hm => ?_
  obtain ⟨t, ht, _, _⟩ := hm.there
  refine ⟨e, t, rfl, ht, hok.keeps hm.keeps, fun x hx q => ?_, ?_⟩
  · rcases hok with hn | ⟨y, ox, vx, hy, hg, _⟩
    · rw [hn] at hx; cases hx
    · rw [hy] at hx; cases hx
      have := hm.new
      rw [← q] at this
      have hg' : hp.get? x = some ox := hg
      rw [hg'] at this; cases this
  · refine wpAny_bind (wpAny_pure (wpAny_bind (wpAny_standAt (wpAny_pure ⟨rfl, rfl, fun h'' k k2 ⟨o', a1, a2, a3⟩ => ?_⟩))))
    have kk2 : Kp hp h'' := fun b o q => (k2 b fun z => by rw [z, hm.new] at q; cases q).trans (hm.keeps b o q)
    exact h₂ h'' e k kk2 ⟨.of_kp kk2, hm.new, o', _, a1, a2, a3, rfl, rfl, .inl ⟨rfl, rfl⟩⟩
end
theorem evalArgs_c {M : Model} {A : Around} {E : Value → Shared → Prop} {s : Shared} {env : Env} {pos : Pos} {f : Value} {e : Expr} {rest : List Expr} {Q : Args → Shared → Prop}
    (h : wpAny M A (spliced (backTo pos (starEach (e :: rest) env))) (fun vs s₁ => Q ⟨vs, []⟩ s₁) E s) (he : starEach (e :: rest) env = (false, eval e env) :: starEach rest env := by rfl) :
    wpAny M A (evalArgs f true (backTo pos (starEach (e :: rest) env)) []) Q E s := by
  rw [he] at h ⊢
  exact evalArgs_plain h
end
end Mine
namespace Mine
section
open PySem.Calls
theorem sub_str_tuple : isSubtype (.type "str") (.type "tuple") = pure false := by rw [isSubtype_type]; kernel_rfl
theorem str_no_buffer : typeLookup (.type "str") "__buffer__" = pure none := by rw [typeLookup_type, builtinLookup_eq_fast]; kernel_rfl
section
open Builtin
set_option maxHeartbeats 1000000 in
theorem meets_sstarts_bad {x : Str} {c : Array UInt8} {t u : Tok} : Meets (Builtin.«str.startswith» ⟨[.str x t, .bytes c u], []⟩) (raisesNew "TypeError") := by
  intro prog w A R s ⟨hh, hs⟩
  have hT : s.TypeIs (.bytes c u) "bytes" := rfl
  have f1 := sub_bytes_tuple
  unfold Builtin.«str.startswith»
  repeat wp_step
  exact wpAny_raiseErrorMade plainExc_TypeError hh hs (by rw [sizeLine_eq]; decide +kernel)
set_option maxHeartbeats 1000000 in
theorem meets_bstarts_bad {x : Str} {c : Array UInt8} {t u : Tok} : Meets (Builtin.«bytes.startswith» ⟨[.bytes c u, .str x t], []⟩) (raisesNew "TypeError") := by
  intro prog w A R s ⟨hh, hs⟩
  have hT : s.TypeIs (.str x t) "str" := rfl
  have f1 := sub_str_tuple
  have f3 := str_no_buffer
  unfold Builtin.«bytes.startswith» Bytes.tailMatchM
  repeat wp_step
  exact wpAny_raiseErrorMade plainExc_TypeError hh hs (by rw [sizeLine_eq]; decide +kernel)
end
section
variable {prog : Program} {w : World} {A : Around} {E : Value → Shared → Prop} {s : Shared} {t u : Tok} {x : Str} {c : Array UInt8} {Q : Value → Shared → Prop}
theorem s_starts_bad (hh : A.handled = none) (h : ∀ h' tk e, Heap.NewExc s.heap h' e "TypeError" → E (.ref e) { s with heap := h', toks := tk }) : wpAny (model prog w) A (call (.builtin "str.startswith") [.str x t, .bytes c u]) Q E s :=
  call_meets F.slot_str_startswith (typeIs_str _ _ _) F.entry_str_startswith (F.args_str_startswith_2 _ _) meets_sstarts_bad ⟨hh, h⟩
theorem b_starts_bad (hh : A.handled = none) (h : ∀ h' tk e, Heap.NewExc s.heap h' e "TypeError" → E (.ref e) { s with heap := h', toks := tk }) : wpAny (model prog w) A (call (.builtin "bytes.startswith") [.bytes c u, .str x t]) Q E s :=
  call_meets FB.slot_bytes_startswith (typeIs_bytes _ _ _) FB.entry_bytes_startswith (FB.args_bytes_startswith_2 _ _) meets_bstarts_bad ⟨hh, h⟩
end
end
end Mine
namespace Mine
section
open PySem.Calls
structure Gnd (base : Heap) (fs : List Env) (h g : Heap) (fobs : List (Addr × Obj)) : Prop where
  bg : Kp base g
  gh : Kp g h
  size : g.objs.size = h.objs.size
  split : ∀ b o, h.get? b = some o → g.get? b = some o ∨ (b ∈ fs.filterMap (·.frame) ∧ ∃ sl, (b, ({ o with slots := sl } : Obj)) ∈ fobs)
  fob : ∀ p ∈ fobs, g.get? p.1 = none ∧ p.1 ∈ fs.filterMap (·.frame) ∧ p.1 < h.objs.size
  hid : ∀ b ∈ fs.filterMap (·.frame), g.get? b = none
  funs : ∀ h' : Heap, (∀ p ∈ fobs, ∃ sl, h'.get? p.1 = some { p.2 with slots := sl }) → h'.FunFrames base fs
theorem funs_of {base h : Heap} : ∀ {fs : List Env}, h.FunFrames base fs → ∀ h' : Heap, (∀ L ∈ fs.filterMap (·.frame), ∀ o, h.get? L = some o → ∃ sl, h'.get? L = some { o with slots := sl }) → h'.FunFrames base fs
  | [], _, _, _ => trivial
  | env :: fs, ⟨hk, ⟨L, o, hf, hn, ho, hd⟩, hr⟩, h', k => by
    obtain ⟨sl, e1⟩ := k L (List.mem_filterMap.mpr ⟨env, .head _, hf⟩) o ho
    exact ⟨hk, ⟨L, _, hf, hn, e1, hd⟩, funs_of hr h' fun L' hL' o' e => k L' (by
      obtain ⟨e', he', hf'⟩ := List.mem_filterMap.mp hL'
      exact List.mem_filterMap.mpr ⟨e', .tail _ he', hf'⟩) o' e⟩
theorem gnd {A : Around} {base h : Heap} {fs : List Env} (B : Below A base fs h) : ∃ g fobs, Gnd base fs h g fobs ∧ ∀ p ∈ fobs, h.get? p.1 = some p.2 := by
  have key : ∀ p ∈ (fs.filterMap (·.frame)).filterMap (fun L => (h.get? L).map fun o => (L, o)), h.get? p.1 = some p.2 ∧ p.1 ∈ fs.filterMap (·.frame) := fun p hp => by
    obtain ⟨L, hL, e⟩ := List.mem_filterMap.mp hp
    cases q : h.get? L with
    | none => rw [q] at e; cases e
    | some o => rw [q] at e; cases e; exact ⟨q, hL⟩
  refine ⟨hideAll h (fs.filterMap (·.frame)), (fs.filterMap (·.frame)).filterMap fun L => (h.get? L).map fun o => (L, o), ⟨?_, fun b o e => of_hideAll _ e, hideAll_size _ _, fun b o e => ?_, fun p hp => ?_, fun b hb => hideAll_none _ hb, fun h' k => ?_⟩, fun p hp => (key p hp).1⟩
  · intro b o e
    refine hideAll_get _ (B.stays b o e) fun hm => ?_
    have := (B.frames.mem hm).1
    rw [e] at this; cases this
  · by_cases hb : b ∈ fs.filterMap (·.frame)
    · exact .inr ⟨hb, o.slots, List.mem_filterMap.mpr ⟨b, hb, by rw [e]; rfl⟩⟩
    · exact .inl (hideAll_get _ e hb)
  · exact ⟨hideAll_none _ (key p hp).2, (key p hp).2, Heap.lt_size (key p hp).1⟩
  · exact funs_of B.frames h' fun L hL o e => k (L, o) (List.mem_filterMap.mpr ⟨L, hL, by rw [e]; rfl⟩)
section
variable {base h g h₁ : Heap} {fs : List Env} {fobs news : List (Addr × Obj)} {L : Addr} {m : MapS}
theorem Gnd.fr (G : Gnd base fs h g fobs) (F : Fr h L h₁ m) : Fr g L h₁ m := ⟨F.ns, fun b o e => F.keep b o (G.gh b o e), by rw [G.size]; exact F.above⟩
theorem Gnd.led (G : Gnd base fs h g fobs) (k : ∀ p ∈ fobs, h.get? p.1 = some p.2) (F : Fr h L h₁ m) (N : News h L h₁ news) : News g L h₁ (news ++ fobs) := fun p hp => by
  rcases List.mem_append.mp hp with hp | hp
  · refine ⟨(N p hp).1, (N p hp).2.1, ?_⟩
    cases q : g.get? p.1 with
    | none => rfl
    | some o => have := G.gh _ _ q; rw [(N p hp).2.2] at this; cases this
  · obtain ⟨b, _, lt⟩ := G.fob p hp
    exact ⟨F.keep _ _ (k p hp), Nat.ne_of_lt (Nat.lt_of_lt_of_le lt F.above), b⟩
theorem Gnd.kf (G : Gnd base fs h g fobs) (F : Fr g L h₁ m) (k : ∀ p ∈ fobs, h₁.get? p.1 = some p.2) : KfS (fs.filterMap (·.frame)) h h₁ := fun b o e => by
  rcases G.split b o e with q | ⟨hm, sl, q⟩
  · exact ⟨o.slots, F.keep b o q, fun _ => rfl⟩
  · exact ⟨sl, k _ q, fun hn => absurd hm hn⟩
theorem Gnd.below {A : Around} {env : Env} (G : Gnd base fs h g fobs) (B : Below A base fs h) (F : Fr g L h₁ m) (k : ∀ p ∈ fobs, h₁.get? p.1 = some p.2) (hf : env.frame = some L) (hk : env.scope.kind = .function) : Below (A.deeper env) base (env :: fs) h₁ := by
  have hb : Below A base fs h₁ := ⟨B.stack, fun b o e => F.keep b o (G.bg b o e), G.funs _ fun p hp => ⟨p.2.slots, k p hp⟩⟩
  have hnew : base.get? L = none := by
    cases q : base.get? L with
    | none => rfl
    | some o => have := G.bg _ _ q; rw [fr_none F] at this; cases this
  exact ⟨Around.frames_deeper B.stack, hb.stays, .cons (by rw [hk]; decide) hf F.ns hnew hb.frames⟩
theorem Gnd.turn {S : List Addr} {h₂ : Heap} (G : Gnd base fs h g fobs) (k : ∀ p ∈ fobs, h₁.get? p.1 = some p.2) (x : KfS S h₁ h₂) : ∃ fobs', Gnd base fs h g fobs' ∧ ∀ p ∈ fobs', h₂.get? p.1 = some p.2 := by
  have key : ∀ p ∈ fobs.filterMap (fun q => (h₂.get? q.1).map fun o => (q.1, o)), h₂.get? p.1 = some p.2 ∧ ∃ q ∈ fobs, p.1 = q.1 ∧ ∃ sl, p.2 = { q.2 with slots := sl } := fun p hp => by
    obtain ⟨q, hq, e⟩ := List.mem_filterMap.mp hp
    obtain ⟨sl, e1, _⟩ := x _ _ (k q hq)
    rw [e1] at e; cases e
    exact ⟨e1, q, hq, rfl, sl, rfl⟩
  have back : ∀ q ∈ fobs, ∃ sl, (q.1, ({ q.2 with slots := sl } : Obj)) ∈ fobs.filterMap (fun q => (h₂.get? q.1).map fun o => (q.1, o)) := fun q hq => by
    obtain ⟨sl, e1, _⟩ := x _ _ (k q hq)
    exact ⟨sl, List.mem_filterMap.mpr ⟨q, hq, by rw [e1]; rfl⟩⟩
  refine ⟨_, ⟨G.bg, G.gh, G.size, fun b o e => ?_, fun p hp => ?_, G.hid, fun h' k' => G.funs h' fun q hq => ?_⟩, fun p hp => (key p hp).1⟩
  · rcases G.split b o e with q | ⟨hm, sl, q⟩
    · exact .inl q
    · obtain ⟨sl', z⟩ := back _ q
      exact .inr ⟨hm, sl', z⟩
  · obtain ⟨_, q, hq, e, _⟩ := key p hp
    rw [e]; exact G.fob q hq
  · obtain ⟨sl, z⟩ := back q hq
    obtain ⟨sl2, e2⟩ := k' _ z
    exact ⟨sl2, e2⟩
end
def ExcOb (e T : Addr) (oe oT : Obj) (cls c : Value) : Prop := ∃ vs ts, oe.cls = cls ∧ oe.data = .fields vs ∧ vs.size = 6 ∧ vs[2]? = some c ∧ vs[1]? = some (.ref T) ∧ T ≠ e ∧ oT.data = .fields ts ∧ 3 < ts.size
section
variable {prog : Program} {w : World} {A : Around} {E : Value → Shared → Prop} {s : Shared} {base h g h₃ : Heap} {fs : List Env} {fobs led : List (Addr × Obj)} {L a e : Addr} {m mg mb : MapS} {K : Frag} {p : Program} {loose : List Str}
  {name : Str} {scope : Scope} {cd c : Value} {cls : String} {S : List Addr} {t : Expr} {b₀ : Stmt} {suite : List Stmt} {pos : Pos} {rest : List ExceptHandler} {Q : Flow → Shared → Prop}
theorem catch_hit {tb : Bool} (B : Below A base fs h) (G : Gnd base fs h g fobs) (F : Fr g L h₃ m) (N : News g L h₃ (led ++ fobs)) (hled : ∀ q ∈ led, q.1 ∉ fs.filterMap (·.frame)) (hk : scope.kind = .function) (X : K.In g) (T : TopRead p loose mg mb g)
    (x : Exc S h₃ s.heap e (.type cls) c tb) (hS : ∀ b ∈ S, b ∈ L :: fs.filterMap (·.frame)) (hT : KtsTest prog w K p loose mg mb name scope L a cd (.type cls) t true)
    (cont : ∀ h₈ oe T oT fobs', Gnd base fs h g fobs' → Fr g L h₈ m → News g L h₈ ((e, oe) :: (T, oT) :: (led ++ fobs')) → ExcOb e T oe oT (.type cls) c →
      wpAny (model prog w) ((A.deeper (envOf name scope L a cd)).mark (some (.ref e))) (execs (b₀ :: suite) (envOf name scope L a cd)) Q (notedBy (model prog w) ((A.deeper (envOf name scope L a cd)).mark (some (.ref e))) (envOf name scope L a cd) (cameBackBy (model prog w) (A.deeper (envOf name scope L a cd)) (envOf name scope L a cd) E)) { s with heap := h₈ }) :
    wpAny (model prog w) (A.deeper (envOf name scope L a cd)) (noteFrame (.ref e) (envOf name scope L a cd)) (fun _ s₂ => wpAny (model prog w) (A.deeper (envOf name scope L a cd)) (setFlight (.ref e) none) (fun _ s₃ => wpAny (model prog w) (A.deeper (envOf name scope L a cd)) (handleBy (.ref e) (envOf name scope L a cd) (.ExceptHandler (some t) none (b₀ :: suite) pos :: rest)) Q E s₃) E s₂) E s := by
  have kf : ∀ p ∈ fobs, h₃.get? p.1 = some p.2 := fun p hp => (N p (List.mem_append_right _ hp)).1
  have B3 := G.below B F kf (env := envOf name scope L a cd) rfl hk
  have e2 : (envOf name scope L a cd :: fs).filterMap (·.frame) = L :: fs.filterMap (·.frame) := rfl
  refine note_ok B3.stack rfl B3.frames (fun b hb => hb) (x.mono hS) fun h6 x6 => ?_
  refine flight_none (s := { s with heap := h6 }) x6 fun h7 x7 => ?_
  have hid : ∀ b ∈ (envOf name scope L a cd :: fs).filterMap (·.frame), g.get? b = none := fun b hb => by
    rcases List.mem_cons.mp hb with q | q
    · rw [q]; exact fr_none F
    · exact G.hid b q
  have F7 := x7.kf.fr F hid
  have ty7 : Looks (model prog w) h7 (typeOf (.ref e)) (.type cls) := by
    obtain ⟨oe, vs, a1, a2, _⟩ := x7.ob
    rw [← a2]
    exact (Looks.ld a1).andThen .now
  refine wpAny_handleBy_cons (codeAny_handlers_test (hT _ _ _ { s with heap := h7 } g e m F7 X T ty7 fun h8 k8 => ?_)) (by intro q; cases q)
  have x8 := x7.later k8
  refine codeAny_handlers_suite (flight_none (s := { s with heap := h8 }) x8 fun h9 x9 => ?_)
  obtain ⟨fobs', G', kf'⟩ := G.turn kf x9.kf
  obtain ⟨oe, vs, a1, a2, a3, a4, a5, a6⟩ := x9.ob
  rcases a6 with ⟨q, _⟩ | ⟨_, T', oT, ts, b1, b2, b3, b4, b5, b6⟩
  · cases q
  · have F9 := x9.kf.fr F hid
    have gone : ∀ b, h₃.get? b = none → b ≠ L ∧ g.get? b = none := by
      intro b hb
      refine ⟨?_, ?_⟩
      · intro q
        obtain ⟨oL, _, _, hL, _⟩ := F.ns
        rw [q, hL] at hb
        cases hb
      · cases q : g.get? b with
        | none => rfl
        | some o => have := F.keep _ _ q; rw [hb] at this; cases this
    refine cont h9 oe T' oT fobs' G' F9 (fun q hq => ?_) ⟨vs, ts, a2, a3, a4, a5, b1, b2, b5, b6⟩
    rcases List.mem_cons.mp hq with rfl | hq
    · exact ⟨a1, gone _ x9.new⟩
    · rcases List.mem_cons.mp hq with rfl | hq
      · exact ⟨b4, gone _ b3⟩
      · rcases List.mem_append.mp hq with hq | hq
        · have hN := N q (List.mem_append_left _ hq)
          refine ⟨x9.kf.get hN.1 fun hm => ?_, hN.2⟩
          rcases List.mem_cons.mp hm with z | z
          · exact hN.2.1 z
          · exact hled q hq z
        · obtain ⟨w1, w2, w3⟩ := G'.fob q hq
          exact ⟨kf' q hq, Nat.ne_of_lt (Nat.lt_of_lt_of_le w3 (by rw [← G'.size]; exact F.above)), w1⟩
end
def TB.len : TB → Nat
  | .t x => x.length
  | .b x => x.size
def lensT (xs : List TB) : Nat := (xs.map fun y => y.len + 1).sum
theorem lensT_snoc (xs : List TB) (b : TB) : lensT (xs ++ [b]) = lensT xs + (b.len + 1) := by simp [lensT]
theorem lensT_take (xs : List TB) (i : Nat) : lensT (xs.take i) ≤ lensT xs := by
  have h2 : ∀ a b : List TB, lensT (a ++ b) = lensT a + lensT b := fun a b => by simp [lensT]
  have h2 := h2 (xs.take i) (xs.drop i)
  rw [List.take_append_drop] at h2; omega
theorem lensT_ge (xs : List TB) : xs.length ≤ lensT xs := by
  induction xs with
  | nil => simp [lensT]
  | cons b r ih => have h3 : lensT (b :: r) = (b.len + 1) + lensT r := by simp [lensT]
                   simp only [List.length_cons]; omega
section
variable {M : Model} {A : Around} {E : Value → Shared → Prop} {s : Shared} {base h g h₃ : Heap} {fs : List Env} {fobs : List (Addr × Obj)} {L e : Addr} {m : MapS} {env : Env} {cls c : Value} {tb : Bool} {v : Option Value}
theorem handler_out (B3 : Below (A.deeper env) base (env :: fs) h₃) (hf : env.frame = some L) (x : Exc ((env :: fs).filterMap (·.frame)) h₃ s.heap e cls c tb)
    (hE : ∀ h', Exc ((env :: fs).filterMap (·.frame)) h₃ h' e cls c true → E (.ref e) { s with heap := h' }) :
    notedBy M ((A.deeper env).mark v) env (cameBackBy M (A.deeper env) env E) (.ref e) s :=
  note_ok (show ((A.deeper env).mark v).frames = _ from B3.stack) hf B3.frames (fun _ hb => hb) x fun h' x' => came_ok (s := { s with heap := h' }) x' hE
theorem leave_gnd {Q : Unit → Shared → Prop} (B3 : Below (A.deeper env) base (env :: fs) h₃) (G : Gnd base fs h g fobs) (F : Fr g L h₃ m) (k : ∀ p ∈ fobs, h₃.get? p.1 = some p.2) (hL : h.get? L = none) (hf : env.frame = some L) (x : Exc ((env :: fs).filterMap (·.frame)) h₃ s.heap e cls c tb)
    (hQ : ∀ h', Exc (fs.filterMap (·.frame)) h h' e cls c true → Q () { s with heap := h' }) : wpAny M (A.deeper env) (leaving env (.ref e)) Q E s := by
  refine leave_ok B3.stack hf B3.frames (fun _ hb => hb) x fun h' x' => hQ h' ?_
  have e2 : (env :: fs).filterMap (·.frame) = L :: fs.filterMap (·.frame) := by rw [List.filterMap_cons, hf]
  have x2 := x'.ground ((G.kf F k).mono fun b hb => by rw [e2]; exact .tail _ hb)
  rw [e2] at x2
  exact x2.drop hL
end
theorem below_mark {A : Around} {base h : Heap} {l : List Env} {v : Option Value} (B : Below A base l h) : Below (A.mark v) base l h := ⟨B.stack, B.stays, B.frames⟩
end
end Mine
namespace Mine
section
open PySem.Calls
section
variable {prog : Program} {w : World} {A : Around} {E : Value → Shared → Prop} {R : Result → Shared → Prop} {s : Shared}
theorem compLoop_gen {elt target iter : Expr} {ifs : List Expr} {scope : Scope} {pos : Pos} {it acc : Value} {env : Env} (I : Nat → Shared → Prop)
    (turn : ∀ n s, I n s → wpAny (model prog w) A (pyNext it) (fun r s₁ => match r with
      | none => R (.ok .next) s₁
      | some v => wpAny (model prog w) A (letOwnedTupleGo target it v) (fun _ s₁' => wpAny (model prog w) A (assign target env v) (fun _ s₂ =>
          wpAny (model prog w) A (forIn ifs true fun c r => if r = true then do let ok ← isTrue c env (eval c env); pure (ForInStep.yield ok) else pure (ForInStep.yield r)) (fun ok s₃ =>
            if ok = true then wpAny (model prog w) A (eval elt env) (fun x s₄ =>
              wpAny (model prog w) A (call (.builtin "list.append") [acc, x]) (fun _ s₅ => ∃ m, m < n ∧ I m s₅) (notedBy (model prog w) A env fun e s' => R (.error e) s') s₄) (notedBy (model prog w) A env fun e s' => R (.error e) s') s₃
            else ∃ m, m < n ∧ I m s₃) (notedBy (model prog w) A env fun e s' => R (.error e) s') s₂) (notedBy (model prog w) A env fun e s' => R (.error e) s') s₁') (notedBy (model prog w) A env fun e s' => R (.error e) s') s₁) (notedBy (model prog w) A env fun e s' => R (.error e) s') s)
    (n : Nat) (h : I n s) :
    codeAny (model prog w) A (.compLoop (.ListComp elt [⟨target, iter, ifs, 0⟩] scope pos) 0 it acc env) R s := by
  refine codeAny_loop rfl I (fun n s hI => ?_) n h
  show wpAny _ A ((compTurn (.ListComp elt [⟨target, iter, ifs, 0⟩] scope pos) 0 it acc env).onRaise (fun x => do noteFrame x env; theTreesLotGoes x)) _ _ s
  refine wpAny_noted ?_
  rw [compTurn_list]
  refine wpAny_bind (wpAny_standAt (wpAny_bind (wpAny_mono (turn n s hI) (fun r s₁ h₁ => ?_) fun _ _ h' => h')))
  cases r with
  | none => exact wpAny_pure h₁
  | some v =>
    refine wpAny_bind (wpAny_mono h₁ (fun _ s₁' h₁' => ?_) fun _ _ h' => h')
    refine wpAny_bind (wpAny_mono h₁' (fun _ s₂ h₂ => wpAny_bind (wpAny_mono h₂ (fun ok s₃ h₃ => ?_) fun _ _ h' => h')) fun _ _ h' => h')
    cases ok with
    | false => exact wpAny_pure ⟨rfl, h₃⟩
    | true =>
      exact wpAny_bind (wpAny_bind (wpAny_mono h₃ (fun x s₄ h₄ => wpAny_bind (wpAny_mono h₄ (fun _ s₅ h₅ => wpAny_pure (wpAny_pure ⟨rfl, h₅⟩)) fun _ _ h' => h')) fun _ _ h' => h'))
end
open LCg in
def EltEnd (h₀ : Heap) (L : Addr) (m : Str → Option Value) (own : List (Addr × Obj)) (C D : Addr) (oC oD : Obj) (wr : List Addr) (J : List (Addr × Obj) → Prop) (s s₂ : Shared) : Prop :=
  ∃ h' tk nx, s₂ = { s with heap := h', toks := tk } ∧ Fr h₀ L h' m ∧ News h₀ L h' (own ++ ((C, oC) :: (D, oD) :: nx)) ∧ (∀ p ∈ nx, p.1 ∉ wr ∧ p.1 ≠ C ∧ p.1 ≠ D) ∧ J nx
def testsOf (ifs : List Expr) (env : Env) : Sem Bool := forIn ifs true fun c r => if r = true then do let ok ← isTrue c env (eval c env); pure (ForInStep.yield ok) else pure (ForInStep.yield r)
structure Steps (prog : Program) (w : World) (A : Around) (env : Env) (scope : Scope) (cl : List (Str × Addr)) (target : Expr) (I : Addr) (fp wr : List Addr) (n : Nat) (P : Nat → (Str → Option Value) → Prop) (St : Nat → Heap → Prop) : Prop where
  sub : ∀ b ∈ wr, b ∈ fp
  frame : ∀ i h h', St i h → (∀ b ∈ fp, ∀ o, h.get? b = some o → h'.get? b = some o) → St i h'
  self : ∀ i (s : Shared) (Q : Value → Shared → Prop) (E : Value → Shared → Prop), St i s.heap → Q (.ref I) s → wpAny (model prog w) A (pyIter (.ref I)) Q E s
  done : ∀ (s : Shared) (Q : Option Value → Shared → Prop) (E : Value → Shared → Prop), St n s.heap →
    (∀ h' tk, (∀ b o, b ∉ wr → s.heap.get? b = some o → h'.get? b = some o) → Q none { s with heap := h', toks := tk }) → wpAny (model prog w) A (pyNext (.ref I)) Q E s
  step : ∀ i C m' (s : Shared) (K Z : Shared → Prop) (E : Value → Shared → Prop), i < n → St i s.heap → s.heap.Ns C m' → C ∉ fp →
    (∀ m₂ h' tk, P i m₂ → St (i + 1) h' → h'.Ns C m₂ → (∀ b o, b ∉ wr → b ≠ C → s.heap.get? b = some o → h'.get? b = some o) → K { s with heap := h', toks := tk }) →
    wpAny (model prog w) A (pyNext (.ref I)) (fun r s₁ => match r with
      | none => Z s₁
      | some v => wpAny (model prog w) A (letOwnedTupleGo target (.ref I) v) (fun _ s₁' => wpAny (model prog w) A (assign target (compEnvC scope cl C env) v) (fun _ s₂ => K s₂) E s₁') E s₁) E s
  some' : ∀ i h, St i h → ∀ b ∈ wr, ∃ o, h.get? b = some o
def ownOf (h₀ h : Heap) (fp : List Addr) : List (Addr × Obj) := fp.filterMap fun b => match h₀.get? b, h.get? b with | none, some o => some (b, o) | _, _ => none
theorem ownOf_in {h₀ h : Heap} {fp : List Addr} {b : Addr} {o : Obj} (hb : b ∈ fp) (h1 : h₀.get? b = none) (h2 : h.get? b = some o) : (b, o) ∈ ownOf h₀ h fp :=
  List.mem_filterMap.mpr ⟨b, hb, by simp [h1, h2]⟩
theorem ownOf_out {h₀ h : Heap} {fp : List Addr} {p : Addr × Obj} (hp : p ∈ ownOf h₀ h fp) : p.1 ∈ fp ∧ h₀.get? p.1 = none ∧ h.get? p.1 = some p.2 := by
  obtain ⟨b, hb, e⟩ := List.mem_filterMap.mp hp
  split at e
  · cases e; exact ⟨hb, by assumption, by assumption⟩
  · cases e
section
variable {prog : Program} {w : World} {A : Around} {E : Value → Shared → Prop} {h₀ : Heap} {L : Addr} {m : Str → Option Value} {env : Env}
open LCg in
theorem block_G {elt target iter : Expr} {ifs : List Expr} {scope : Scope} {cl : List (Str × Addr)} {pos : Pos} {s₂ : Shared} {I : Addr} {fp wr : List Addr} {n : Nat} {P : Nat → (Str → Option Value) → Prop} {St : Nat → Heap → Prop} {news : List (Addr × Obj)}
    {RR : Value → Addr → Result → Shared → Prop} (J : Nat → List Value → List (Addr × Obj) → Prop)
    (W : Steps prog w A env scope cl target I fp wr n P St) (hsz : n ≤ sizeLine) (hcell : ∀ y ∈ scope.names, y.2 ≠ .cell) (hkind : scope.kind = .function)
    (hst : St 0 s₂.heap) (hfp : ∀ b ∈ fp, b < s₂.heap.objs.size) (hwr : ∀ b ∈ wr, h₀.get? b = none) (hLf : L ∉ fp)
    (F : Fr h₀ L s₂.heap m) (N : News h₀ L s₂.heap news) (off : ∀ p ∈ news, p.1 ∉ wr) (hJ : J 0 [] news)
    (turn : ∀ i C oC D m₂ h tk own ys nx (E' : Value → Shared → Prop), i < n → J i ys nx → P i m₂ → NsObj oC m₂ → Fr h₀ L h m → News h₀ L h (own ++ ((C, oC) :: (D, lst ys) :: nx)) → (∀ b ∈ wr, ∃ o, (b, o) ∈ own) → (∀ p ∈ nx, p.1 ∉ wr ∧ p.1 ≠ C ∧ p.1 ≠ D) → C ≠ D →
      wpAny (model prog w) A (testsOf ifs (compEnvC scope cl C env)) (fun ok s₃ =>
        if ok = true then wpAny (model prog w) A (eval elt (compEnvC scope cl C env)) (fun y s₄ => EltEnd h₀ L m own C D oC (lst ys) wr (J (i + 1) (ys ++ [y])) s₂ s₄) E' s₃
        else EltEnd h₀ L m own C D oC (lst ys) wr (J (i + 1) ys) s₂ s₃) E' { s₂ with heap := h, toks := tk })
    (hRR : ∀ D C h tk m' ys nx, Fr h₀ L h m → News h₀ L h ((D, lst ys) :: nx) → (∀ p ∈ nx, p.1 ≠ D) → h.Ns C m' → h₀.get? C = none → h₀.get? D = none → C ≠ L → D ≠ L → C ≠ D → (∀ p ∈ nx, p.1 ≠ C) → J n ys nx → RR (.ref D) C (.ok .next) { s₂ with heap := h, toks := tk }) :
    wpAny (model prog w) A (newList []) (fun acc s₃ => wpAny (model prog w) A (newFunctionEnv scope env.globals cl [] env.qual none .none (some env)) (fun cenv s₄ =>
      codeAny (model prog w) A (.compStart (.ListComp elt [⟨target, iter, ifs, 0⟩] scope pos) 0 (.ref I) acc { cenv with scope := relabel scope env }) (RR acc cenv.locals) s₄) E s₃) E s₂ := by
  refine wpAny_newObj_type (wpAny_newFunctionEnv hcell (by intro y hy; simp at hy) (fun h₁ hns₁ hsb₁ => ?_) hkind)
  dsimp only at hns₁ hsb₁ ⊢
  generalize hH2 : s₂.heap.push { cls := .type "list", dict := none, data := .seq ([] : List Value).toArray } = H2 at hns₁ hsb₁ ⊢
  have hC : H2.objs.size = s₂.heap.objs.size + 1 := by rw [← hH2, Heap.size_push]
  have hDC : s₂.heap.objs.size ≠ H2.objs.size := by rw [hC]; exact Nat.ne_of_lt (Nat.lt_succ_self _)
  have below : ∀ b, b < s₂.heap.objs.size → b ≠ H2.objs.size ∧ b ≠ s₂.heap.objs.size := fun b hb => ⟨by rw [hC]; exact Nat.ne_of_lt (Nat.lt_succ_of_lt hb), Nat.ne_of_lt hb⟩
  have hDf : s₂.heap.objs.size ∉ fp := fun hm => Nat.lt_irrefl _ (hfp _ hm)
  have hCf : H2.objs.size ∉ fp := fun hm => by have := hfp _ hm; rw [hC] at this; exact Nat.lt_irrefl _ (Nat.lt_of_succ_lt this)
  have old : ∀ b o, s₂.heap.get? b = some o → h₁.get? b = some o := fun b o e => hsb₁.extBut b o (below b (Heap.lt_size e)).1 (Heap.get?_push_of_some _ (hH2 ▸ Heap.get?_push_of_some _ e))
  have hacc : h₁.get? s₂.heap.objs.size = some (lst []) := hsb₁.extBut _ _ hDC (Heap.get?_push_of_some _ (hH2 ▸ Heap.get?_push_size _ rfl))
  have hst₁ : St 0 h₁ := W.frame _ _ _ hst fun b _ o e => old b o e
  have fresh : ∀ a, s₂.heap.objs.size ≤ a → s₂.heap.get? a = none := fun a ha => none_size ha
  have fresh₀ : ∀ a, s₂.heap.objs.size ≤ a → h₀.get? a = none := fun a ha => by
    cases e : h₀.get? a with
    | none => rfl
    | some o' => have := F.keep a o' e; rw [fresh a ha] at this; cases this
  have hD₀ : h₀.get? s₂.heap.objs.size = none := fresh₀ _ (Nat.le_refl _)
  have hC₀ : h₀.get? H2.objs.size = none := fresh₀ _ (by rw [hC]; exact Nat.le_succ _)
  have hLlt : L < s₂.heap.objs.size := F.ns.lt
  have hDL : s₂.heap.objs.size ≠ L := Ne.symm (below L hLlt).2
  have hCL : H2.objs.size ≠ L := Ne.symm (below L hLlt).1
  have hDw : s₂.heap.objs.size ∉ wr := fun hm => hDf (W.sub _ hm)
  have hCw : H2.objs.size ∉ wr := fun hm => hCf (W.sub _ hm)
  have hLw : L ∉ wr := fun hm => hLf (W.sub _ hm)
  have off₀ : ∀ p ∈ news, p.1 ∉ wr ∧ p.1 ≠ H2.objs.size ∧ p.1 ≠ s₂.heap.objs.size := fun p hp => ⟨off p hp, (below _ (Heap.lt_size (N p hp).1)).1, (below _ (Heap.lt_size (N p hp).1)).2⟩
  have loop : ∀ s₃ : Shared, s₃ = { s₂ with heap := h₁, toks := s₂.toks + ([] : List (Str × Value)).length } →
      codeAny (model prog w) A (.compLoop (.ListComp elt [⟨target, iter, ifs, 0⟩] scope pos) 0 (.ref I) (.ref s₂.heap.objs.size) (compEnvC scope cl H2.objs.size env))
        (RR (.ref s₂.heap.objs.size) H2.objs.size) s₃ := by
    intro s₃ e3
    subst e3
    refine compLoop_gen
      (fun k s' => ∃ h' tk i ys m' nx, s' = { s₂ with heap := h', toks := tk } ∧ i ≤ n ∧ k = n + 1 - i ∧ ys.length ≤ i ∧ St i h' ∧ Fr h₀ L h' m ∧ h'.Ns H2.objs.size m' ∧ News h₀ L h' ((s₂.heap.objs.size, lst ys) :: nx) ∧
        (∀ p ∈ nx, p.1 ∉ wr ∧ p.1 ≠ H2.objs.size ∧ p.1 ≠ s₂.heap.objs.size) ∧ J i ys nx) ?_ (n + 1)
      ⟨h₁, _, 0, [], _, news, rfl, Nat.zero_le _, rfl, Nat.le_refl _, hst₁, F.keeps old, hns₁, fun p hp => ?_, off₀, hJ⟩
    · rintro k s' ⟨h', tk, i, ys, m', nx, rfl, hi, rfl, hyl, hst', F', hn', N', off', hJ'⟩
      by_cases hlt : i < n
      · refine W.step i H2.objs.size m' _ _ _ _ hlt hst' hn' hCf fun m₂ h₃ tk₃ hPv hst₃ hn₃ hk₃ => ?_
        · obtain ⟨oC, heC, hoC⟩ := ns_obj hn₃
          have F₃ : Fr h₀ L h₃ m := ⟨F'.ns.at' fun o e => hk₃ L o hLw (Ne.symm hCL) e, fun b o e => hk₃ b o (fun hm => by rw [hwr b hm] at e; cases e) (fun q => by rw [q, hC₀] at e; cases e) (F'.keep b o e), F'.above⟩
          have N₃ : News h₀ L h₃ (ownOf h₀ h₃ fp ++ ((H2.objs.size, oC) :: (s₂.heap.objs.size, lst ys) :: nx)) := fun p hp => by
            rcases List.mem_append.mp hp with hp | hp
            · obtain ⟨a, b, c⟩ := ownOf_out hp
              exact ⟨c, fun q => hLf (q ▸ a), b⟩
            rcases List.mem_cons.mp hp with rfl | hp
            · exact ⟨heC, hCL, hC₀⟩
            rcases List.mem_cons.mp hp with rfl | hp
            · exact ⟨hk₃ _ _ hDw hDC (N' _ List.mem_cons_self).1, hDL, hD₀⟩
            · exact ⟨hk₃ _ _ (off' p hp).1 (off' p hp).2.1 (N' p (List.mem_cons_of_mem _ hp)).1, (N' p (List.mem_cons_of_mem _ hp)).2⟩
          have keepSt : ∀ h₄ nx₄, Fr h₀ L h₄ m → News h₀ L h₄ (ownOf h₀ h₃ fp ++ nx₄) → St (i + 1) h₄ := fun h₄ nx₄ F₄ N₄ => by
            refine W.frame _ _ _ hst₃ fun b hb o e => ?_
            cases e0 : h₀.get? b with
            | some o0 => rw [F₃.keep b o0 e0] at e; cases e; exact F₄.keep b _ e0
            | none => exact (N₄ _ (List.mem_append_left _ (ownOf_in hb e0 e))).1
          refine wpAny_mono (turn i H2.objs.size oC s₂.heap.objs.size m₂ h₃ _ (ownOf h₀ h₃ fp) ys nx _ hlt hJ' hPv hoC F₃ N₃ (fun b hb => ?_) off' (Ne.symm hDC)) (fun ok s₄ h₄ => ?_) fun _ _ e => e
          · obtain ⟨o, ho⟩ := W.some' _ _ hst₃ b hb
            exact ⟨o, ownOf_in (W.sub b hb) (hwr b hb) ho⟩
          · cases ok with
            | true =>
              simp only [if_true] at h₄ ⊢
              refine wpAny_mono h₄ (fun y s₅ h₅ => ?_) fun _ _ e => e
              obtain ⟨h₅, tk₅, nx₅, rfl, F₅, N₅, off₅, hJ₅⟩ := h₅
              have hst₅ := keepSt _ _ F₅ N₅
              have N₅' := fun p hp => N₅ p (List.mem_append_right _ hp)
              refine append_at (hsz := by show ys.toArray.size ≤ sizeLine; rw [List.size_toArray]; exact Nat.le_trans hyl (Nat.le_trans hi hsz)) (N₅' (s₂.heap.objs.size, lst ys) (by simp)).1 fun h₆ hs₆ hD₆ => ?_
              refine ⟨n + 1 - (i + 1), by omega, h₆, tk₅, i + 1, ys ++ [y], _, nx₅, rfl, hlt, rfl, by rw [List.length_append, List.length_singleton]; exact Nat.succ_le_succ hyl,
                W.frame _ _ _ hst₅ fun b hb o e => hs₆.extBut b o (fun q => hDf (q ▸ hb)) e, F₅.change hs₆ hDL hD₀, (hoC.ns (N₅' (H2.objs.size, oC) (by simp)).1).sameBut hs₆ (Ne.symm hDC), fun p hp => ?_, off₅, hJ₅⟩
              rcases List.mem_cons.mp hp with rfl | hp
              · exact ⟨hD₆.trans (congrArg some (lst_snoc ys y)), hDL, hD₀⟩
              · have z := N₅' p (by simp [hp])
                exact ⟨hs₆.extBut _ _ (off₅ p hp).2.2 z.1, z.2⟩
            | false =>
              simp only [Bool.false_eq_true, if_false] at h₄ ⊢
              obtain ⟨h₅, tk₅, nx₅, rfl, F₅, N₅, off₅, hJ₅⟩ := h₄
              have N₅' := fun p hp => N₅ p (List.mem_append_right _ hp)
              exact ⟨n + 1 - (i + 1), by omega, h₅, tk₅, i + 1, ys, _, nx₅, rfl, hlt, rfl, Nat.le_succ_of_le hyl, keepSt _ _ F₅ N₅, F₅, hoC.ns (N₅' (H2.objs.size, oC) (by simp)).1, fun p hp => N₅' p (List.mem_cons_of_mem _ hp), off₅, hJ₅⟩
      · obtain rfl : i = n := Nat.le_antisymm hi (Nat.not_lt.mp hlt)
        refine W.done _ _ _ hst' fun h₂ tk₂ hk₂ => ?_
        have F₂ : Fr h₀ L h₂ m := ⟨F'.ns.at' fun o e => hk₂ L o hLw e, fun b o e => hk₂ b o (fun hm => by rw [hwr b hm] at e; cases e) (F'.keep b o e), F'.above⟩
        exact hRR _ _ h₂ tk₂ _ ys nx F₂ (fun p hp => by
          refine ⟨hk₂ _ _ ?_ (N' p hp).1, (N' p hp).2⟩
          rcases List.mem_cons.mp hp with rfl | hp
          · exact hDw
          · exact (off' p hp).1) (fun p hp => (off' p hp).2.2) (hn'.at' fun o e => hk₂ _ o hCw e) hC₀ hD₀ hCL hDL (Ne.symm hDC) (fun p hp => (off' p hp).2.1) hJ'
    · rcases List.mem_cons.mp hp with rfl | hp
      · exact ⟨hacc, hDL, hD₀⟩
      · exact ⟨old _ _ (N p hp).1, (N p hp).2⟩
  exact codeAny_compStart_list (loop _ rfl) (W.self 0 _ _ _ hst₁ (loop _ rfl))
end
end
end Mine
namespace Mine
section
open PySem.Calls
open LCg
def CompIn (prog : Program) (w : World) (A : Around) (h₀ : Heap) (L : Addr) (m : Str → Option Value) (env : Env) (target elt : Expr) (ifs : List Expr) (scope : Scope) (cl : List (Str × Addr)) (Fin : Shared → List Value → List (Addr × Obj) → Prop) (it : Value) (s₂ : Shared) : Prop :=
  ∃ (I : Addr) (fp wr : List Addr) (n : Nat) (P : Nat → (Str → Option Value) → Prop) (St : Nat → Heap → Prop) (news : List (Addr × Obj)) (J : Nat → List Value → List (Addr × Obj) → Prop),
    it = .ref I ∧ Steps prog w A env scope cl target I fp wr n P St ∧ n ≤ sizeLine ∧ St 0 s₂.heap ∧ (∀ b ∈ fp, b < s₂.heap.objs.size) ∧ (∀ b ∈ wr, h₀.get? b = none) ∧ L ∉ fp ∧
    Fr h₀ L s₂.heap m ∧ News h₀ L s₂.heap news ∧ (∀ p ∈ news, p.1 ∉ wr) ∧ J 0 [] news ∧
    (∀ i C oC D m₂ h tk own ys nx (E' : Value → Shared → Prop), i < n → J i ys nx → P i m₂ → NsObj oC m₂ → Fr h₀ L h m → News h₀ L h (own ++ ((C, oC) :: (D, lst ys) :: nx)) → (∀ b ∈ wr, ∃ o, (b, o) ∈ own) → (∀ p ∈ nx, p.1 ∉ wr ∧ p.1 ≠ C ∧ p.1 ≠ D) → C ≠ D →
      wpAny (model prog w) A (testsOf ifs (compEnvC scope cl C env)) (fun ok s₃ =>
        if ok = true then wpAny (model prog w) A (eval elt (compEnvC scope cl C env)) (fun y s₄ => EltEnd h₀ L m own C D oC (lst ys) wr (J (i + 1) (ys ++ [y])) s₂ s₄) E' s₃
        else EltEnd h₀ L m own C D oC (lst ys) wr (J (i + 1) ys) s₂ s₃) E' { s₂ with heap := h, toks := tk }) ∧
    (∀ ys nx, J n ys nx → Fin s₂ ys nx)
def CompAt (prog : Program) (w : World) (A : Around) (h₀ : Heap) (L : Addr) (m : Str → Option Value) (env : Env) (target elt : Expr) (ifs : List Expr) (scope : Scope) (cl : List (Str × Addr)) (E : Value → Shared → Prop) (Fin : Shared → List Value → List (Addr × Obj) → Prop) (xv : Value) (s₁ : Shared) : Prop :=
  wpAny (model prog w) A (pyIter xv) (CompIn prog w A h₀ L m env target elt ifs scope cl Fin) E s₁
def EndE (h₀ : Heap) (L : Addr) (m : Str → Option Value) (Q : Value → Shared → Prop) (s : Shared) (ys : List Value) (news : List (Addr × Obj)) : Prop :=
  ∀ D h tk, Fr h₀ L h m → News h₀ L h ((D, lst ys) :: news) → (∀ p ∈ news, p.1 ≠ D) → Q (.ref D) { s with heap := h, toks := tk }
def EndA (h₀ : Heap) (L : Addr) (m : Str → Option Value) (y : Str) (Q : Flow → Shared → Prop) (s : Shared) (ys : List Value) (news : List (Addr × Obj)) : Prop :=
  ∀ D h tk, Fr h₀ L h (fun z => if z = y then some (.ref D) else m z) → News h₀ L h ((D, lst ys) :: news) → (∀ p ∈ news, p.1 ≠ D) → Q .next { s with heap := h, toks := tk }
section
variable {prog : Program} {w : World} {A : Around} {E : Value → Shared → Prop} {s : Shared} {h₀ : Heap} {L : Addr} {m : Str → Option Value} {env : Env}
theorem ListComp_G {elt target iter : Expr} {ifs : List Expr} {scope : Scope} {cl : List (Str × Addr)} {pos : Pos} {Q : Value → Shared → Prop} (F₀ : Fr h₀ L s.heap m)
    (hclos : closureFor scope env = pure cl) (hcell : ∀ y ∈ scope.names, y.2 ≠ .cell) (hkind : scope.kind = .function)
    (hnames : ∀ y ∈ scope.names, y.2 = .local → scope.names.lookup y.1 = some .local)
    (h : wpAny (model prog w) A (eval iter env) (CompAt prog w A h₀ L m env target elt ifs scope cl E (EndE h₀ L m Q)) E s)
    (hs : ∀ x, foldedSetIterable iter env x = pure x := by intro _; rfl) :
    wpAny (model prog w) A (eval (.ListComp elt [⟨target, iter, ifs, 0⟩] scope pos) env) Q E s := by
  rw [eval_ListComp]
  refine wpAny_comprehension_free (use := none) rfl hs hclos hkind hnames (wpAny_mono h (fun xv s₁ h₁ => wpAny_mono h₁ (fun it s₂ h₂ => ?_) fun _ _ e => e) fun _ _ e => e)
  obtain ⟨I, fp, wr, n, P, St, news, J, rfl, W, hsz, hst, hfp, hwr, hLf, F, N, off, hJ, turn, fin⟩ := h₂
  refine block_G J W hsz hcell hkind hst hfp hwr hLf F N off hJ turn ?_
  intro D C h tk m' ys nx F' N' o1 hn hC₀ hD₀ hCL hDL hCD offC hJ'
  refine ⟨m', hn, fun h'' hs'' => fin _ _ hJ' D h'' tk (F'.change hs'' hCL hC₀) (fun p hp => ?_) o1⟩
  refine ⟨hs''.extBut _ _ ?_ (N' p hp).1, (N' p hp).2⟩
  rcases List.mem_cons.mp hp with rfl | hp
  · exact Ne.symm hCD
  · exact offC p hp
theorem steps_name {x : Str} {px : Pos} {scope : Scope} {cl : List (Str × Addr)} {I : Addr} {fp wr : List Addr} {n : Nat} {P : Nat → Value → Prop} {St : Nat → Heap → Prop} (W : Walks prog w A I fp wr n P St)
    (hkind : scope.kind = .function) (hx : scope.names.lookup x = some .local) (hob : ∀ i h, St i h → ∀ b ∈ wr, ∃ o, h.get? b = some o) :
    Steps prog w A env scope cl (.Name x px) I fp wr n (fun i m₂ => ∃ v, P i v ∧ m₂ x = some v) St where
  sub := W.sub
  frame := W.frame
  self := W.self
  done := W.done
  some' := hob
  step := fun i C m' s K Z E hi hst hn hC hK => by
    refine W.item i _ _ _ hi hst fun v h₂ tk₂ hPv hst₂ hk₂ => ?_
    have hCw : C ∉ wr := fun q => hC (W.sub _ q)
    dsimp only
    show wpAny _ A (pure () : Sem Unit) _ _ _
    refine wpAny_pure ?_
    refine wpAny_assign_Name (wpAny_storeName_local (lookup_relabel_local hx) (hn.at' fun o e => hk₂ _ o hCw e) (fun h₃ hn₃ hs₃ => ?_) (by simp [compEnvC, relabel, hkind]))
    exact hK _ h₃ _ ⟨v, hPv, by simp⟩ (W.frame _ _ _ hst₂ fun b hb o e => hs₃.extBut b o (fun q => hC (by have q' : b = C := q; rw [← q']; exact hb)) e) hn₃ fun b o hb hbC e => hs₃.extBut b o hbC (hk₂ b o hb e)

end
end
end Mine
namespace Mine
section
open PySem.Calls
open LCg
section
variable {prog : Program} {w : World} {A : Around} {E : Value → Shared → Prop} {s : Shared} {h₀ : Heap} {L : Addr} {m : Str → Option Value} {env : Env} {elt : Expr} {ifs : List Expr} {scope : Scope} {cl : List (Str × Addr)} {Fin : Shared → List Value → List (Addr × Obj) → Prop}
theorem tests0 {cenv : Env} {Q : Value → Shared → Prop} {Z : Shared → Prop} {E' : Value → Shared → Prop} (h : wpAny (model prog w) A (eval elt cenv) Q E' s) :
    wpAny (model prog w) A (testsOf [] cenv) (fun ok s₃ => if ok = true then wpAny (model prog w) A (eval elt cenv) Q E' s₃ else Z s₃) E' s := wpAny_tests_nil (by simpa using h)
theorem tests1 {cenv : Env} {c : Expr} {Q : Value → Shared → Prop} {Z : Shared → Prop} {E' : Value → Shared → Prop}
    (h : wpAny (model prog w) A (isTrue c cenv (eval c cenv)) (fun ok s₃ => if ok = true then wpAny (model prog w) A (eval elt cenv) Q E' s₃ else Z s₃) E' s) :
    wpAny (model prog w) A (testsOf [c] cenv) (fun ok s₃ => if ok = true then wpAny (model prog w) A (eval elt cenv) Q E' s₃ else Z s₃) E' s := wpAny_tests_one h
theorem src_list {x : Str} {px : Pos} {ax : Addr} {vs : List Value} {news : List (Addr × Obj)} (J : Nat → List Value → List (Addr × Obj) → Prop)
    (hh : A.handled = none) (F : Fr h₀ L s.heap m) (N : News h₀ L s.heap news) (hD : s.heap.IsList ax vs.toArray) (haL : ax ≠ L) (hsz : vs.length ≤ sizeLine)
    (hkind : scope.kind = .function) (hx : scope.names.lookup x = some .local) (hJ : J 0 [] news)
    (turn : ∀ I i v C oC D m₂ h tk own ys nx (E' : Value → Shared → Prop), vs[i]? = some v → J i ys nx → m₂ x = some v → NsObj oC m₂ → Fr h₀ L h m → News h₀ L h (own ++ ((C, oC) :: (D, lst ys) :: nx)) → (∀ p ∈ nx, p.1 ∉ [I] ∧ p.1 ≠ C ∧ p.1 ≠ D) → (∃ o, (I, o) ∈ own) → C ≠ D →
      wpAny (model prog w) A (testsOf ifs (compEnvC scope cl C env)) (fun ok s₃ =>
        if ok = true then wpAny (model prog w) A (eval elt (compEnvC scope cl C env)) (fun y s₄ => EltEnd h₀ L m own C D oC (lst ys) [I] (J (i + 1) (ys ++ [y])) s s₄) E' s₃
        else EltEnd h₀ L m own C D oC (lst ys) [I] (J (i + 1) ys) s s₃) E' { s with heap := h, toks := tk })
    (fin : ∀ g tk ys nx, J vs.length ys nx → Fin { s with heap := g, toks := tk } ys nx) :
    CompAt prog w A h₀ L m env (.Name x px) elt ifs scope cl E Fin (.ref ax) s := by
  obtain ⟨oD, hoD, hr⟩ := id hD
  have hne : ax ≠ s.heap.objs.size := lt_ne_size hoD
  refine wpAny_pyIter_list hD ?_
  have W := Walks.list (prog := prog) (w := w) hh s.heap.objs.size ax hne vs.toArray
  have hlen : vs.toArray.size = vs.length := by simp
  rw [hlen] at W
  have W2 := steps_name (env := env) (cl := cl) (px := px) W hkind hx fun i h hi b hb => by rw [List.mem_singleton.mp hb]; obtain ⟨⟨o, ho, _⟩, _⟩ := hi; exact ⟨o, ho⟩
  refine ⟨_, _, _, _, _, _, news, J, rfl, W2, hsz, ⟨⟨_, Heap.get?_push_size _ rfl, rfl, rfl⟩, ⟨oD, Heap.get?_push_of_some _ hoD, hr⟩⟩, ?_, ?_, ?_, F.push _, fun p hp => ⟨Heap.get?_push_of_some _ (N p hp).1, (N p hp).2⟩, ?_, hJ, ?_, fun ys nx hj => fin _ _ ys nx hj⟩
  · intro b hb
    show b < (s.heap.push _).objs.size
    rw [Heap.size_push]
    rcases List.mem_cons.mp hb with rfl | hb
    · exact Nat.lt_succ_self _
    · rw [List.mem_singleton.mp hb]; exact Nat.lt_succ_of_lt (Heap.lt_size hoD)
  · intro b hb; rw [List.mem_singleton.mp hb]; exact next_is_new F
  · intro hm
    rcases List.mem_cons.mp hm with e | hm
    · exact absurd F.ns.lt (e ▸ Nat.lt_irrefl _)
    · exact haL (List.mem_singleton.mp hm).symm
  · intro p hp hI; exact absurd (Heap.lt_size (N p hp).1) ((List.mem_singleton.mp hI) ▸ Nat.lt_irrefl _)
  · intro i C oC D m₂ h tk own ys nx E' hi hj hP hC F₁ N₁ hI ho hne
    obtain ⟨v, hv, hm⟩ := hP
    exact turn _ i v C oC D m₂ h tk own ys nx E' (by simpa using hv) hj hm hC F₁ N₁ ho (hI _ (.head _)) hne
theorem src_str {x : Str} {px : Pos} {tx : Str} {t : Tok} {news : List (Addr × Obj)} (J : Nat → List Value → List (Addr × Obj) → Prop)
    (hh : A.handled = none) (F : Fr h₀ L s.heap m) (N : News h₀ L s.heap news) (hsz : tx.cps.size ≤ sizeLine)
    (hkind : scope.kind = .function) (hx : scope.names.lookup x = some .local) (hJ : J 0 [] news)
    (turn : ∀ I i c u C oC D m₂ h tk own ys nx (E' : Value → Shared → Prop), tx.cps.toList[i]? = some c → J i ys nx → m₂ x = some (.str ⟨#[c]⟩ u) → NsObj oC m₂ → Fr h₀ L h m → News h₀ L h (own ++ ((C, oC) :: (D, lst ys) :: nx)) → (∀ p ∈ nx, p.1 ∉ [I] ∧ p.1 ≠ C ∧ p.1 ≠ D) → (∃ o, (I, o) ∈ own) → C ≠ D →
      wpAny (model prog w) A (testsOf ifs (compEnvC scope cl C env)) (fun ok s₃ =>
        if ok = true then wpAny (model prog w) A (eval elt (compEnvC scope cl C env)) (fun y s₄ => EltEnd h₀ L m own C D oC (lst ys) [I] (J (i + 1) (ys ++ [y])) s s₄) E' s₃
        else EltEnd h₀ L m own C D oC (lst ys) [I] (J (i + 1) ys) s s₃) E' { s with heap := h, toks := tk })
    (fin : ∀ g tk ys nx, J tx.cps.size ys nx → Fin { s with heap := g, toks := tk } ys nx) :
    CompAt prog w A h₀ L m env (.Name x px) elt ifs scope cl E Fin (.str tx t) s := by
  have go : ∀ (T : String) (o : Obj), Walks prog w A s.heap.objs.size [s.heap.objs.size] [s.heap.objs.size] tx.cps.size (SignAt tx) (fun i h => h.IsStrIter s.heap.objs.size T tx t i) →
      (s.heap.push o).IsStrIter s.heap.objs.size T tx t 0 → CompIn prog w A h₀ L m env (.Name x px) elt ifs scope cl Fin (.ref s.heap.objs.size) { s with heap := s.heap.push o } := by
    intro T o W hst
    have W2 := steps_name (env := env) (cl := cl) (px := px) W hkind hx fun i h hi b hb => by rw [List.mem_singleton.mp hb]; obtain ⟨o, ho, _⟩ := hi; exact ⟨o, ho⟩
    refine ⟨_, _, _, _, _, _, news, J, rfl, W2, hsz, hst, ?_, ?_, ?_, F.push _, fun p hp => ⟨Heap.get?_push_of_some _ (N p hp).1, (N p hp).2⟩, ?_, hJ, ?_, fun ys nx hj => fin _ _ ys nx hj⟩
    · intro b hb
      show b < (s.heap.push _).objs.size
      rw [Heap.size_push, List.mem_singleton.mp hb]; exact Nat.lt_succ_self _
    · intro b hb; rw [List.mem_singleton.mp hb]; exact next_is_new F
    · intro hm; exact absurd F.ns.lt ((List.mem_singleton.mp hm) ▸ Nat.lt_irrefl _)
    · intro p hp hI; exact absurd (Heap.lt_size (N p hp).1) ((List.mem_singleton.mp hI) ▸ Nat.lt_irrefl _)
    · intro i C oC D m₂ h tk own ys nx E' hi hj hP hC F₁ N₁ hI ho hne
      obtain ⟨v, ⟨c, u, hv, rfl⟩, hm⟩ := hP
      exact turn _ i c u C oC D m₂ h tk own ys nx E' (by simpa using hv) hj hm hC F₁ N₁ ho (hI _ (.head _)) hne
  show wpAny _ _ _ _ _ _
  cases ha : tx.cps.all (· < 128)
  · exact wpAny_pyIter_wide ha (go "str_iterator" _ (Walks.strWide hh _ tx t) ⟨_, Heap.get?_push_size _ rfl, rfl, rfl⟩)
  · exact wpAny_pyIter_ascii ha (go "str_ascii_iterator" _ (Walks.strAscii hh _ tx t) ⟨_, Heap.get?_push_size _ rfl, rfl, rfl⟩)
theorem src_range {x : Str} {px : Pos} {r : Addr} {a b : Int} {t u v : Tok} {n : Nat} {news : List (Addr × Obj)} (J : Nat → List Value → List (Addr × Obj) → Prop)
    (hh : A.handled = none) (F : Fr h₀ L s.heap m) (N : News h₀ L s.heap news) (hr : IsRange s.heap r a b 1 t u v) (hsm : Builtin.Range.small a b 1 = true) (hn : Builtin.Range.rangeSize a b 1 = ((n : Nat) : Int)) (hsz : n ≤ sizeLine)
    (hkind : scope.kind = .function) (hx : scope.names.lookup x = some .local) (hJ : J 0 [] news)
    (turn : ∀ I i tv C oC D m₂ h tk own ys nx (E' : Value → Shared → Prop), i < n → J i ys nx → m₂ x = some (.int (a + (i : Int)) tv) → NsObj oC m₂ → Fr h₀ L h m → News h₀ L h (own ++ ((C, oC) :: (D, lst ys) :: nx)) → (∀ p ∈ nx, p.1 ∉ [I] ∧ p.1 ≠ C ∧ p.1 ≠ D) → (∃ o, (I, o) ∈ own) → C ≠ D →
      wpAny (model prog w) A (testsOf ifs (compEnvC scope cl C env)) (fun ok s₃ =>
        if ok = true then wpAny (model prog w) A (eval elt (compEnvC scope cl C env)) (fun y s₄ => EltEnd h₀ L m own C D oC (lst ys) [I] (J (i + 1) (ys ++ [y])) s s₄) E' s₃
        else EltEnd h₀ L m own C D oC (lst ys) [I] (J (i + 1) ys) s s₃) E' { s with heap := h, toks := tk })
    (fin : ∀ g tk ys nx, J n ys nx → Fin { s with heap := g, toks := tk } ys nx) :
    CompAt prog w A h₀ L m env (.Name x px) elt ifs scope cl E Fin (.ref r) s := by
  refine wpAny_pyIter_range hr hsm ?_
  have W2 := steps_name (env := env) (cl := cl) (px := px) (range_walks (prog := prog) (w := w) (I := s.heap.objs.size) hh a n) hkind hx fun i h hi b hb => by rw [List.mem_singleton.mp hb]; exact ⟨_, hi⟩
  refine ⟨_, _, _, _, _, _, news, J, rfl, W2, hsz, (by show IsRangeIter _ _ _ _ _; rw [hn]; simpa using Heap.get?_push_size _ rfl), ?_, ?_, ?_, F.push _, fun p hp => ⟨Heap.get?_push_of_some _ (N p hp).1, (N p hp).2⟩, ?_, hJ, ?_, fun ys nx hj => fin _ _ ys nx hj⟩
  · intro b hb
    show b < (s.heap.push _).objs.size
    rw [Heap.size_push, List.mem_singleton.mp hb]; exact Nat.lt_succ_self _
  · intro b hb; rw [List.mem_singleton.mp hb]; exact next_is_new F
  · intro hm; exact absurd F.ns.lt ((List.mem_singleton.mp hm) ▸ Nat.lt_irrefl _)
  · intro p hp hI; exact absurd (Heap.lt_size (N p hp).1) ((List.mem_singleton.mp hI) ▸ Nat.lt_irrefl _)
  · intro i C oC D m₂ h tk own ys nx E' hi hj hP hC F₁ N₁ hI ho hne
    obtain ⟨v, ⟨tv, rfl⟩, hm⟩ := hP
    exact turn _ i tv C oC D m₂ h tk own ys nx E' hi hj hm hC F₁ N₁ ho (hI _ (.head _)) hne
end
end
end Mine
namespace Mine
section
open PySem.Calls
theorem ints_snoc {vs : List Value} {ns : List Int} {n : Int} {t : Tok} (h : IntsAre vs ns) : IntsAre (vs ++ [.int n t]) (ns ++ [n]) := h.append (.cons n t .nil)
theorem strs_snoc {vs : List Value} {ns : List Str} {n : Str} {t : Tok} (h : StrsAre vs ns) : StrsAre (vs ++ [.str n t]) (ns ++ [n]) := h.append' (.cons n t .nil)
theorem ints_step {α : Type} {f : α → Int} {vs : List Value} {xs : List α} {i : Nat} {a : α} {n : Int} {t : Tok} (ha : xs[i]? = some a) (h : IntsAre vs ((xs.take i).map f)) (e : f a = n) : IntsAre (vs ++ [.int n t]) ((xs.take (i + 1)).map f) := by
  rw [take_snoc ha, List.map_append, List.map_singleton, e]; exact ints_snoc h
theorem strs_step {α : Type} {f : α → Str} {vs : List Value} {xs : List α} {i : Nat} {a : α} {n : Str} {t : Tok} (ha : xs[i]? = some a) (h : StrsAre vs ((xs.take i).map f)) (e : f a = n) : StrsAre (vs ++ [.str n t]) ((xs.take (i + 1)).map f) := by
  rw [take_snoc ha, List.map_append, List.map_singleton, e]; exact strs_snoc h
theorem le_size {n k : Nat} (h : n ≤ k) (hk : k ≤ 16777216 := by decide) : n ≤ sizeLine := by rw [show sizeLine = 16777216 from rfl]; exact Nat.le_trans h hk
theorem ints_item : ∀ {vs : List Value} {ns : List Int}, IntsAre vs ns → ∀ {i : Nat} {v : Value}, vs[i]? = some v → ∃ n t, v = .int n t ∧ ns[i]? = some n
  | _, _, .nil, i, v, h => by simp at h
  | _, _, .cons n t r, 0, v, h => by simp at h; exact ⟨n, t, h.symm, by simp⟩
  | _, _, .cons n t r, i + 1, v, h => by simp at h; simpa using ints_item r h
theorem all_snoc {α : Type} {P : α → Prop} {xs : List α} {x : α} (h : ∀ y ∈ xs, P y) (hx : P x) : ∀ y ∈ xs ++ [x], P y := fun y hy => by
  rcases List.mem_append.mp hy with hy | hy
  · exact h y hy
  · rw [List.mem_singleton.mp hy]; exact hx
end
end Mine
namespace Mine
section
open PySem.Calls
open LCg
section
variable {prog : Program} {w : World} {A : Around} {E : Value → Shared → Prop} {s : Shared} {h₀ : Heap} {L : Addr} {m : Str → Option Value} {env : Env} {elt : Expr} {ifs : List Expr} {scope : Scope} {cl : List (Str × Addr)} {Fin : Shared → List Value → List (Addr × Obj) → Prop}
theorem src_listS {x : Str} {px : Pos} {ax : Addr} {vs : List Value} {news : List (Addr × Obj)} (J : List (Addr × Obj) → Nat → List Value → List (Addr × Obj) → Prop)
    (hh : A.handled = none) (F : Fr h₀ L s.heap m) (N : News h₀ L s.heap news) (hD : s.heap.IsList ax vs.toArray) (haL : ax ≠ L) (hsz : vs.length ≤ sizeLine)
    (hkind : scope.kind = .function) (hx : scope.names.lookup x = some .local) (hJ : J news 0 [] news)
    (turn : ∀ I i v C oC D m₂ h tk own ys nx (E' : Value → Shared → Prop), vs[i]? = some v → J news i ys nx → m₂ x = some v → NsObj oC m₂ → Fr h₀ L h m → News h₀ L h (own ++ ((C, oC) :: (D, lst ys) :: nx)) → (∀ p ∈ nx, p.1 ∉ [I] ∧ p.1 ≠ C ∧ p.1 ≠ D) → (∃ o, (I, o) ∈ own) → C ≠ D →
      wpAny (model prog w) A (testsOf ifs (compEnvC scope cl C env)) (fun ok s₃ =>
        if ok = true then wpAny (model prog w) A (eval elt (compEnvC scope cl C env)) (fun y s₄ => EltEnd h₀ L m own C D oC (lst ys) [I] (J news (i + 1) (ys ++ [y])) s s₄) E' s₃
        else EltEnd h₀ L m own C D oC (lst ys) [I] (J news (i + 1) ys) s s₃) E' { s with heap := h, toks := tk })
    (fin : ∀ g tk ys nx, J news vs.length ys nx → Fin { s with heap := g, toks := tk } ys nx) :
    CompAt prog w A h₀ L m env (.Name x px) elt ifs scope cl E Fin (.ref ax) s := src_list (J news) hh F N hD haL hsz hkind hx hJ turn fin
theorem src_strS {x : Str} {px : Pos} {tx : Str} {t : Tok} {news : List (Addr × Obj)} (J : List (Addr × Obj) → Nat → List Value → List (Addr × Obj) → Prop)
    (hh : A.handled = none) (F : Fr h₀ L s.heap m) (N : News h₀ L s.heap news) (hsz : tx.cps.size ≤ sizeLine)
    (hkind : scope.kind = .function) (hx : scope.names.lookup x = some .local) (hJ : J news 0 [] news)
    (turn : ∀ I i c u C oC D m₂ h tk own ys nx (E' : Value → Shared → Prop), tx.cps.toList[i]? = some c → J news i ys nx → m₂ x = some (.str ⟨#[c]⟩ u) → NsObj oC m₂ → Fr h₀ L h m → News h₀ L h (own ++ ((C, oC) :: (D, lst ys) :: nx)) → (∀ p ∈ nx, p.1 ∉ [I] ∧ p.1 ≠ C ∧ p.1 ≠ D) → (∃ o, (I, o) ∈ own) → C ≠ D →
      wpAny (model prog w) A (testsOf ifs (compEnvC scope cl C env)) (fun ok s₃ =>
        if ok = true then wpAny (model prog w) A (eval elt (compEnvC scope cl C env)) (fun y s₄ => EltEnd h₀ L m own C D oC (lst ys) [I] (J news (i + 1) (ys ++ [y])) s s₄) E' s₃
        else EltEnd h₀ L m own C D oC (lst ys) [I] (J news (i + 1) ys) s s₃) E' { s with heap := h, toks := tk })
    (fin : ∀ g tk ys nx, J news tx.cps.size ys nx → Fin { s with heap := g, toks := tk } ys nx) :
    CompAt prog w A h₀ L m env (.Name x px) elt ifs scope cl E Fin (.str tx t) s := src_str (J news) hh F N hsz hkind hx hJ turn fin
end
section
variable {prog : Program} {w : World} {A : Around} {E : Value → Shared → Prop} {s : Shared} {env : Env} {h₀ : Heap} {x : Str} {body : List Stmt} {Q : Flow → Shared → Prop}
end
end
end Mine
namespace Mine
section
open PySem.Calls
section
variable {prog : Program} {w : World} {A : Around} {E : Value → Shared → Prop} {s : Shared} {base h g h₃ : Heap} {fs : List Env} {fobs led : List (Addr × Obj)} {L a e : Addr} {m mg mb : MapS} {K : Frag} {p : Program} {loose : List Str}
  {name : Str} {scope : Scope} {cd c : Value} {cls : String} {S : List Addr} {t : Expr} {b₀ : Stmt} {suite : List Stmt} {pos : Pos} {rest : List ExceptHandler} {Q : Flow → Shared → Prop}
theorem catch_hitE {env : Env} {tb : Bool} (B : Below A base fs h) (G : Gnd base fs h g fobs) (F : Fr g L h₃ m) (N : News g L h₃ (led ++ fobs)) (hled : ∀ q ∈ led, q.1 ∉ fs.filterMap (·.frame)) (hf : env.frame = some L) (hk : env.scope.kind = .function)
    (x : Exc S h₃ s.heap e (.type cls) c tb) (hS : ∀ b ∈ S, b ∈ L :: fs.filterMap (·.frame)) (hT : ∀ (A : Around) (E : Value → Shared → Prop) (Q : Bool → Shared → Prop) (s : Shared) (m : MapS), Fr g L s.heap m → Looks (model prog w) s.heap (typeOf (.ref e)) (.type cls) → (∀ h', Kp s.heap h' → Q true { s with heap := h' }) → wpAny (model prog w) A (eval t env) (fun c s₁ => wpAny (model prog w) A (excMatches (.ref e) c) Q E s₁) E s)
    (cont : ∀ h₈ oe T oT fobs', Gnd base fs h g fobs' → Fr g L h₈ m → News g L h₈ ((e, oe) :: (T, oT) :: (led ++ fobs')) → ExcOb e T oe oT (.type cls) c →
      wpAny (model prog w) ((A.deeper env).mark (some (.ref e))) (execs (b₀ :: suite) env) Q (notedBy (model prog w) ((A.deeper env).mark (some (.ref e))) env (cameBackBy (model prog w) (A.deeper env) env E)) { s with heap := h₈ }) :
    wpAny (model prog w) (A.deeper env) (noteFrame (.ref e) env) (fun _ s₂ => wpAny (model prog w) (A.deeper env) (setFlight (.ref e) none) (fun _ s₃ => wpAny (model prog w) (A.deeper env) (handleBy (.ref e) env (.ExceptHandler (some t) none (b₀ :: suite) pos :: rest)) Q E s₃) E s₂) E s := by
  have kf : ∀ p ∈ fobs, h₃.get? p.1 = some p.2 := fun p hp => (N p (List.mem_append_right _ hp)).1
  have B3 := G.below B F kf (env := env) hf hk
  have e2 : (env :: fs).filterMap (·.frame) = L :: fs.filterMap (·.frame) := by rw [List.filterMap_cons, hf]
  refine note_ok B3.stack hf B3.frames (fun b hb => hb) (x.mono fun b hb => by rw [e2]; exact hS b hb) fun h6 x6 => ?_
  refine flight_none (s := { s with heap := h6 }) x6 fun h7 x7 => ?_
  have hid : ∀ b ∈ (env :: fs).filterMap (·.frame), g.get? b = none := fun b hb => by
    rw [e2] at hb
    rcases List.mem_cons.mp hb with q | q
    · rw [q]; exact fr_none F
    · exact G.hid b q
  have F7 := x7.kf.fr F hid
  have ty7 : Looks (model prog w) h7 (typeOf (.ref e)) (.type cls) := by
    obtain ⟨oe, vs, a1, a2, _⟩ := x7.ob
    rw [← a2]
    exact (Looks.ld a1).andThen .now
  refine wpAny_handleBy_cons (codeAny_handlers_test (hT _ _ _ { s with heap := h7 } m F7 ty7 fun h8 k8 => ?_)) (by intro q; cases q)
  have x8 := x7.later k8
  refine codeAny_handlers_suite (flight_none (s := { s with heap := h8 }) x8 fun h9 x9 => ?_)
  obtain ⟨fobs', G', kf'⟩ := G.turn kf x9.kf
  obtain ⟨oe, vs, a1, a2, a3, a4, a5, a6⟩ := x9.ob
  rcases a6 with ⟨q, _⟩ | ⟨_, T', oT, ts, b1, b2, b3, b4, b5, b6⟩
  · cases q
  · have F9 := x9.kf.fr F hid
    have gone : ∀ b, h₃.get? b = none → b ≠ L ∧ g.get? b = none := by
      intro b hb
      refine ⟨?_, ?_⟩
      · intro q
        obtain ⟨oL, _, _, hL, _⟩ := F.ns
        rw [q, hL] at hb
        cases hb
      · cases q : g.get? b with
        | none => rfl
        | some o => have := F.keep _ _ q; rw [hb] at this; cases this
    refine cont h9 oe T' oT fobs' G' F9 (fun q hq => ?_) ⟨vs, ts, a2, a3, a4, a5, b1, b2, b5, b6⟩
    rcases List.mem_cons.mp hq with rfl | hq
    · exact ⟨a1, gone _ x9.new⟩
    · rcases List.mem_cons.mp hq with rfl | hq
      · exact ⟨b4, gone _ b3⟩
      · rcases List.mem_append.mp hq with hq | hq
        · have hN := N q (List.mem_append_left _ hq)
          refine ⟨x9.kf.get hN.1 fun hm => ?_, hN.2⟩
          rw [e2] at hm
          rcases List.mem_cons.mp hm with z | z
          · exact hN.2.1 z
          · exact hled q hq z
        · obtain ⟨w1, w2, w3⟩ := G'.fob q hq
          exact ⟨kf' q hq, Nat.ne_of_lt (Nat.lt_of_lt_of_le w3 (by rw [← G'.size]; exact F.above)), w1⟩
theorem testE_builtin {A₀ : Around} {env : Env} {x : Str} {np : Pos} {g : Heap} {L e : Addr} {mean : ExcName → Option Value} {c cls' : Value} (X : K.In g) (T : TopRead p loose mg mb g) (he : exmOne K cls' c = some true)
    (hname : ∀ {M : Model} {A : Around} {E : Value → Shared → Prop} {Q : Value → Shared → Prop} {s : Shared} {m : MapS}, Fr g L s.heap m → Q c s → wpAny M A (eval (.Name x np) env) Q E s) :
    ∀ (A : Around) (E : Value → Shared → Prop) (Q : Bool → Shared → Prop) (s : Shared) (m : MapS), Fr g L s.heap m → Looks (model prog w) s.heap (typeOf (.ref e)) cls' → (∀ h', Kp s.heap h' → Q true { s with heap := h' }) → wpAny (model prog w) A (eval (.Name x np) env) (fun c s₁ => wpAny (model prog w) A (excMatches (.ref e) c) Q E s₁) E s :=
  fun A E Q s m F LT q => hname F ((exm_one (X.keeps F.keep) LT he).here (q s.heap fun _ _ z => z))
end
end
end Mine
namespace Mine
section
open PySem.Calls
theorem pick_tail1 (a : Value) (l : List Value) : kms_pick (a :: l) (some 1) none = l := by
  simp [kms_pick, kms_lo, kms_hi]
theorem pick_init (l : List Value) : kms_pick l none (some (-1)) = l.take (l.length - 1) := by
  simp [kms_pick, kms_lo, kms_hi]
section
variable {prog : Program} {w : World} {A : Around} {E : Value → Shared → Prop} {s : Shared} {h₀ : Heap} {L l : Addr} {m : Str → Option Value} {news : List (Addr × Obj)} {value slice : PySem.Expr} {vs : List Value} {vl vu : Value} {lo hi : Option Int} {Q : Value → Shared → Prop}
theorem slice_any (F : Fr h₀ L s.heap m) (N : News h₀ L s.heap news) (hl : s.heap.IsList l vs.toArray) (pl : IsPart vl lo) (pu : IsPart vu hi)
    (h : ∀ D h', Fr h₀ L h' m → News h₀ L h' ((D, listOf (kms_pick vs lo hi).toArray 0) :: news) → (∀ p ∈ news, p.1 < D) → Q (.ref D) { s with heap := h' })
    (hs : subscripted slice false (.ref l) (.ref s.heap.objs.size) = operate [.ref s.heap.objs.size, .ref l] (getItem (.ref l) (.ref s.heap.objs.size))) (ht : ∀ r, letTemporaryGo value (.ref l) r = pure ()) (hz : vs.length ≤ sizeLine) :
    wpAny (model prog w) A (subscriptTail value slice (.ref l) (.ref s.heap.objs.size)) Q E { s with heap := s.heap.push { cls := .type "slice", data := .fields #[vl, vu, .none] } } :=
  kms_slice_lit F N hl pl pu rfl h hs ht (by rw [List.size_toArray]; exact hz)
end
end
end Mine
namespace Mine
section
open PySem.Calls
abbrev cpl (x : Str) : List Nat := x.cps.toList
theorem cpl_app (x y : Str) : cpl (x ++ y) = cpl x ++ cpl y := by simp [cpl, Str.cps_append]
theorem cpl_len (x : Str) : (cpl x).length = x.length := by simp [cpl, Str.length]
theorem cpl_inj {x y : Str} (h : cpl x = cpl y) : x = y := by
  cases x; cases y; simp [cpl] at h; rw [h]
theorem cpl_sl : cpl sl = [47] := by decide
theorem sl_eq : sl = ⟨#[47]⟩ := by decide
theorem starts_sl (b : Str) : Txt.startswith b sl = ((cpl b).head? == some 47) := by
  obtain ⟨⟨l⟩⟩ := b
  rw [sl_eq]
  cases l with
  | nil => decide
  | cons c r =>
    simp [Txt.startswith, Str.length, Builtin.Str.subAt, cpl]
theorem last_ext {α : Type} [DecidableEq α] : ∀ (l : List α) (a : α), 1 ≤ l.length → ((l.drop (l.length - 1)).take 1 == [a]) = (l.getLast? == some a)
  | [], a, h => by simp at h
  | [x], a, h => by simp
  | x :: y :: r, a, h => by
    have := last_ext (y :: r) a (by simp)
    simpa using this
theorem ends_sl (b : Str) : Txt.endswith b sl = ((cpl b).getLast? == some 47) := by
  obtain ⟨⟨l⟩⟩ := b
  rw [sl_eq]
  by_cases h : 1 ≤ l.length
  · have := last_ext l 47 h
    have h1 : l.length - (l.length - 1) = 1 := by omega
    rw [← this]
    simp [Txt.endswith, Str.length, Builtin.Str.subAt, cpl, h, h1]
  · have : l = [] := List.eq_nil_of_length_eq_zero (by omega)
    subst this; decide
theorem cpl_jstep (p b : Str) : cpl (jstep p b) = jL 47 (cpl p) (cpl b) := by
  have e : (p.length == 0) = (cpl p).isEmpty := by rw [← cpl_len]; cases cpl p <;> rfl
  unfold jstep jL
  rw [starts_sl, ends_sl, e]
  split
  · rfl
  · split
    · exact cpl_app _ _
    · rw [cpl_app, cpl_app, cpl_sl]; rfl
theorem cpl_joinS (x : Str) (xs : List Str) : cpl (joinS x xs) = joinL 47 (cpl x) (xs.map cpl) := by
  induction xs generalizing x with
  | nil => rfl
  | cons b r ih =>
    show cpl (joinS (jstep x b) r) = joinL 47 (jL 47 (cpl x) (cpl b)) (r.map cpl)
    rw [ih, cpl_jstep]
theorem jL_map {α β : Type} [DecidableEq α] [DecidableEq β] (f : α → β) (sep : α) (p b : List α) (inj : ∀ a ∈ p ++ b, f a = f sep → a = sep) : (jL sep p b).map f = jL (f sep) (p.map f) (b.map f) := by
  have e1 : ((b.map f).head? == some (f sep)) = (b.head? == some sep) := by
    cases b with
    | nil => rfl
    | cons a r =>
      simp only [List.map_cons, List.head?_cons]
      rw [Bool.eq_iff_iff]; simp only [beq_iff_eq, Option.some.injEq]
      exact ⟨inj a (by simp), fun h => by rw [h]⟩
  have e2 : ((p.map f).getLast? == some (f sep)) = (p.getLast? == some sep) := by
    rw [List.getLast?_map]
    cases h : p.getLast? with
    | none => rfl
    | some a =>
      rw [Bool.eq_iff_iff]; simp only [Option.map_some, beq_iff_eq, Option.some.injEq]
      exact ⟨inj a (List.mem_append_left _ (List.mem_of_getLast? h)), fun h => by rw [h]⟩
  have e3 : (p.map f).isEmpty = p.isEmpty := by cases p <;> rfl
  unfold jL
  rw [e1, e2, e3]
  split
  · rfl
  · split
    · simp
    · simp
theorem jL_mem {α : Type} [DecidableEq α] {sep a : α} {p b : List α} (h : a ∈ jL sep p b) : a ∈ p ∨ a ∈ b ∨ a = sep := by
  unfold jL at h
  split at h
  · exact .inr (.inl h)
  · split at h
    · rcases List.mem_append.mp h with h | h
      · exact .inl h
      · exact .inr (.inl h)
    · rcases List.mem_append.mp h with h | h
      · exact .inl h
      · rcases List.mem_cons.mp h with h | h
        · exact .inr (.inr h)
        · exact .inr (.inl h)
theorem joinL_map {α β : Type} [DecidableEq α] [DecidableEq β] (f : α → β) (sep : α) (G : α → Prop) (inj : ∀ a, G a → f a = f sep → a = sep) (hs : G sep) (bs : List (List α)) :
    ∀ p : List α, (∀ a ∈ p, G a) → (∀ b ∈ bs, ∀ a ∈ b, G a) → (joinL sep p bs).map f = joinL (f sep) (p.map f) (bs.map (List.map f)) := by
  induction bs with
  | nil => intro p _ _; rfl
  | cons b r ih =>
    intro p hp hb
    show (joinL sep (jL sep p b) r).map f = joinL (f sep) (jL (f sep) (p.map f) (b.map f)) (r.map (List.map f))
    rw [ih _ (fun a ha => ?_) fun c hc => hb c (.tail _ hc), jL_map]
    · intro a ha
      rcases List.mem_append.mp ha with ha | ha
      · exact inj a (hp a ha)
      · exact inj a (hb b (.head _) a ha)
    · rcases jL_mem ha with ha | ha | ha
      · exact hp a ha
      · exact hb b (.head _) a ha
      · rw [ha]; exact hs
end
end Mine
namespace Mine
section
open PySem.Calls
open LCg
section
variable {prog : Program} {w : World} {A : Around} {E : Value → Shared → Prop} {s : Shared} {h₀ : Heap} {L : Addr} {m : Str → Option Value} {env : Env} {elt : Expr} {ifs : List Expr} {scope : Scope} {cl : List (Str × Addr)} {Fin : Shared → List Value → List (Addr × Obj) → Prop}
theorem len_any {l : Addr} {vs : List Value} {Q : Value → Shared → Prop} (hl : s.heap.IsList l vs.toArray) (hz : vs.length ≤ sizeLine) (h : Q (.int (vs.length : Nat) (s.toks + 1)) { s with toks := s.toks + 1 + 1 }) : wpAny (model prog w) A (call (.builtin "len") [.ref l]) Q E s :=
  len_list hl (by rw [List.size_toArray]; have := hz; rw [sizeLine_eq] at this; omega) (by rw [List.size_toArray]; exact h)
theorem item_nat {value slice : Expr} {l : Addr} {vs : List Value} {i : Nat} {u : Tok} {v : Value} {Q : Value → Shared → Prop} (hl : s.heap.IsList l vs.toArray) (hx : vs[i]? = some v) (hz : vs.length ≤ sizeLine) (h : Q v s)
    (hs : subscripted slice false (.ref l) (.int (i : Int) u) = operate [.ref l, .int (i : Int) u] (getItem (.ref l) (.int (i : Int) u)) := by with_unfolding_all rfl) (hg : ∀ r, letTemporaryGo value (.ref l) r = pure () := by intro _; with_unfolding_all rfl) :
    wpAny (model prog w) A (subscriptTail value slice (.ref l) (.int (i : Int) u)) Q E s :=
  item_list hl (Int.natCast_nonneg _) (by
    have h1 : i < vs.length := by
      rcases Nat.lt_or_ge i vs.length with h | h
      · exact h
      · rw [List.getElem?_eq_none h] at hx; cases hx
    rw [sizeLine_eq] at hz; omega) (by rw [Int.toNat_natCast, List.getElem?_toArray]; exact hx) h hs hg
theorem range_small {n : Nat} (h : n ≤ sizeLine) : Builtin.Range.small 0 (n : Int) 1 = true := by
  rw [sizeLine_eq] at h
  exact small_one (by decide) (by decide) (by omega) (by omega)
theorem range_len {n : Nat} : Builtin.Range.rangeSize 0 (n : Int) 1 = ((n : Nat) : Int) := by
  rw [rangeSize_one]; split <;> omega
theorem comp_range {x : Str} {px : Pos} {n : Nat} {t : Tok} {news : List (Addr × Obj)} (J : List (Addr × Obj) → Nat → List Value → List (Addr × Obj) → Prop)
    (hh : A.handled = none) (F : Fr h₀ L s.heap m) (N : News h₀ L s.heap news) (hsz : n ≤ sizeLine)
    (hkind : scope.kind = .function) (hx : scope.names.lookup x = some .local) (hJ : J news 0 [] news)
    (turn : ∀ I i tv C oC D m₂ h tk own ys nx (E' : Value → Shared → Prop), i < n → J news i ys nx → m₂ x = some (.int (i : Int) tv) → NsObj oC m₂ → Fr h₀ L h m → News h₀ L h (own ++ ((C, oC) :: (D, lst ys) :: nx)) → (∀ p ∈ nx, p.1 ∉ [I] ∧ p.1 ≠ C ∧ p.1 ≠ D) → (∃ o, (I, o) ∈ own) → C ≠ D →
      wpAny (model prog w) A (testsOf ifs (compEnvC scope cl C env)) (fun ok s₃ =>
        if ok = true then wpAny (model prog w) A (eval elt (compEnvC scope cl C env)) (fun y s₄ => EltEnd h₀ L m own C D oC (lst ys) [I] (J news (i + 1) (ys ++ [y])) s s₄) E' s₃
        else EltEnd h₀ L m own C D oC (lst ys) [I] (J news (i + 1) ys) s s₃) E' { s with heap := h, toks := tk })
    (fin : ∀ g tk ys nx, J news n ys nx → Fin { s with heap := g, toks := tk } ys nx) :
    wpAny (model prog w) A (call (.type "range") [.int (n : Int) t]) (CompAt prog w A h₀ L m env (.Name x px) elt ifs scope cl E Fin) E s :=
  range1_rows F N fun h' tk t₁ u₁ v₁ R F' N' _ => src_range (s := { s with heap := h', toks := tk }) (J news) hh F' N' R (range_small hsz) range_len hsz hkind hx hJ
    (fun I i tv C oC D m₂ h tk own ys nx E' hi hj hm => turn I i tv C oC D m₂ h tk own ys nx E' hi hj (by rw [hm, Int.zero_add])) fin
theorem add_any {l b : Addr} {vs ws : List Value} {news : List (Addr × Obj)} {Q : Value → Shared → Prop} (F : Fr h₀ L s.heap m) (N : News h₀ L s.heap news) (hl : s.heap.IsList l vs.toArray) (hb : s.heap.IsList b ws.toArray)
    (hsz : vs.length + ws.length ≤ sizeLine)
    (h : ∀ D h', Fr h₀ L h' m → News h₀ L h' ((D, listOf (vs ++ ws).toArray 0) :: news) → (∀ p ∈ news, p.1 < D) → Q (.ref D) { s with heap := h' }) :
    wpAny (model prog w) A (binaryOp .Add (.ref l) (.ref b)) Q E s :=
  add_lists (hsz := hsz) F N hl hb fun h' F' N' => h _ h' F' N' fun p hp => Heap.lt_size (N p hp).1
theorem item_last {value slice : Expr} {l : Addr} {vs : List Value} {u : Tok} {v : Value} {Q : Value → Shared → Prop} (hl : s.heap.IsList l vs.toArray) (hx : vs[vs.length - 1]? = some v) (hz : vs.length ≤ sizeLine) (h : Q v s)
    (hs : subscripted slice false (.ref l) (.int (-1) u) = operate [.ref l, .int (-1) u] (getItem (.ref l) (.int (-1) u)) := by with_unfolding_all rfl) :
    wpAny (model prog w) A (subscriptTail value slice (.ref l) (.int (-1) u)) Q E s := by
  have h1 : 0 < vs.length := by
    rcases Nat.eq_zero_or_pos vs.length with q | q
    · rw [List.eq_nil_of_length_eq_zero q] at hx; cases hx
    · exact q
  exact kde_neg hl (by decide) (by decide) (seqIndex?_neg_one h1) hx h hs
end
end
end Mine
namespace Mine
section
open PySem.Calls
theorem bytes_has_len : typeLookup (.type "bytes") "__len__" = pure (some (.builtin "bytes.__len__")) := by rw [typeLookup_type, builtinLookup_eq_fast]; kernel_rfl
theorem bytes_sub_str : isSubtype (.type "bytes") (.type "str") = pure false := by rw [isSubtype_type]; kernel_rfl
section
variable {prog : Program} {w : World} {A : Around} {E : Value → Shared → Prop} {s : Shared}
abbrev OctAt (b : Array UInt8) (i : Nat) (v : Value) : Prop := ∃ c u, b[i]? = some c ∧ v = .int (c.toNat : Int) u
theorem extend_bytes {R : Result → Shared → Prop} (hh : A.handled = none) (x : Array UInt8) (t : Tok) (S : Addr) (c₀ : Nat) (hS : s.heap.get? S = some { cls := .type "list", data := .seq #[] c₀ })
    (hR : ∀ h' tk acc' c', (∀ b o, b ≠ S → s.heap.get? b = some o → h'.get? b = some o) → h'.get? S = some { cls := .type "list", dict := none, data := .seq acc' c', slots := #[] } →
      ItemsOf (OctAt x) acc' x.size → R (.ok (.ret .none)) { s with heap := h', toks := tk }) (hn : x.size ≤ sizeLine) :
    wpAny (model prog w) A.in1 (Builtin.List.listExtendWith (.ref S) (.bytes x t) .none)
      (fun fin s' => match fin with | .done f => R (.ok f) s' | .again c' => c'.quiet = true ∧ codeAny (model prog w) A c' R s') (fun e s' => R (.error e) s') s := by
  have hSI : S ≠ s.heap.objs.size := Nat.ne_of_lt (Heap.lt_size hS)
  have hSf : S ∉ [s.heap.objs.size] := fun hm => hSI (List.mem_singleton.mp hm)
  unfold Builtin.List.listExtendWith
  refine wpAny_bind (wpAny_typeOf (T := "bytes") (v := .bytes x t) rfl ?_)
  have h1 : Builtin.List.listSameRef (.ref S) (.bytes x t) = false := rfl
  have h2 : (Value.type "bytes" == Value.type "list") = false := by decide
  have h3 : (Value.type "bytes" == Value.type "tuple") = false := by decide
  simp only [h1, h2, h3, Bool.or_false, Bool.false_eq_true, if_false]
  refine wpAny_bind (KBw.pyIter_bytes ?_)
  refine wpAny_bind (wpAny_holding ?_)
  unfold Builtin.List.listLengthHint
  refine wpAny_bind (wpAny_specialOf (T := "bytes") (v := .bytes x t) rfl bytes_has_len ?_)
  wp_delta
  refine wpAny_bind (wpAny_isInstance (T := "bytes") (v := .bytes x t) (b := true) rfl (by rw [isSubtype_type]; kernel_rfl) ?_)
  show wpAny _ _ (typeOf (Value.bytes x t) >>= _) _ _ _
  refine wpAny_bind (wpAny_typeOf (T := "bytes") (v := .bytes x t) rfl ?_)
  refine wpAny_pure ?_
  rw [if_neg (by decide)]
  refine wpAny_pure ⟨plainId_quiet F.plain_extend_loop _, codeAny_extend_loopS (KBw.walks (A := A.in1) hh s.heap.objs.size x t).toS hn _ hSf _ x.size 0 _ _ _ rfl (Nat.zero_le _) ⟨_, Heap.get?_push_size _ rfl, rfl, rfl⟩ (Heap.get?_push_of_some _ hS) (ItemsOf.nil _) fun s' acc' c' hm hS' hacc => ?_⟩
  rw [Moved.eq_with hm]
  refine hR s'.heap s'.toks acc' c' (fun b ob hb e => hm.heap b ob (fun hmem => ?_) (Heap.get?_push_of_some _ e)) hS' hacc
  rcases List.mem_cons.mp hmem with e' | hmem
  · exact hb e'
  · exact absurd (Heap.lt_size e) (by rw [List.mem_singleton.mp hmem]; exact Nat.lt_irrefl _)
theorem init_bytes {R : Result → Shared → Prop} (hh : A.handled = none) (x : Array UInt8) (t : Tok) (S : Addr) (hS : s.heap.get? S = some { cls := .type "list", data := .seq #[] })
    (hR : ∀ h' tk acc' c', (∀ b o, b ≠ S → s.heap.get? b = some o → h'.get? b = some o) → h'.get? S = some { cls := .type "list", dict := none, data := .seq acc' c', slots := #[] } →
      ItemsOf (OctAt x) acc' x.size → R (.ok (.ret .none)) { s with heap := h', toks := tk }) (hn : x.size ≤ sizeLine) :
    wpAny (model prog w) A.in1 (Builtin.«list.__init__» ⟨[.ref S, .bytes x t], []⟩)
      (fun fin s' => match fin with | .done f => R (.ok f) s' | .again c' => c'.quiet = true ∧ codeAny (model prog w) A c' R s') (fun e s' => R (.error e) s') s := by
  show wpAny _ _ (do let old ← Builtin.List.listItems (.ref S); Builtin.List.listUpdate (.ref S) (fun _ => #[]); letGo old.toList.reverse; Builtin.List.listExtendWith (.ref S) (.bytes x t) .none) _ _ s
  refine wpAny_bind ?_
  unfold Builtin.List.listItems
  refine wpAny_bind (wpAny_seqItems hS rfl (wpAny_pure ?_))
  show wpAny _ _ (updateSeq S (fun _ => #[]) >>= fun _ => letGo (#[] : Array Value).toList.reverse >>= fun _ => Builtin.List.listExtendWith (.ref S) (.bytes x t) .none) _ _ s
  refine wpAny_bind (wpAny_updateSeq hS rfl ?_)
  have hS₂ := Heap.get?_update_self (Obj.mapSeq (fun _ => (#[] : Array Value))) hS rfl
  refine wpAny_bind (wpAny_letGo ?_)
  refine extend_bytes (hn := hn) hh x t S _ hS₂ fun h' tk acc' c' hk hS' hacc => ?_
  exact hR h' tk acc' c' (fun b o hb e => hk b o hb ((Heap.get?_update_other _ _ (Ne.symm hb)).trans e)) hS' hacc
theorem list_bytes {Q : Value → Shared → Prop} (hh : A.handled = none) (x : Array UInt8) (t : Tok) (hn : x.size ≤ sizeLine)
    (hQ : ∀ h' tk acc' c', (∀ b o, s.heap.get? b = some o → h'.get? b = some o) →
      h'.get? s.heap.objs.size = some { cls := .type "list", dict := none, data := .seq acc' c', slots := #[] } → ItemsOf (OctAt x) acc' x.size → Q (.ref s.heap.objs.size) { s with heap := h', toks := tk }) :
    wpAny (model prog w) A (call (.type "list") [.bytes x t]) Q E s := by
  refine callType_codes (Q₁ := fun obj s₁ => obj = .ref s.heap.objs.size ∧ s₁ = { s with heap := s.heap.push { cls := .type "list", data := .seq #[] } }) F.called_list (F.typeCall_list_1 _) F.entry_list_init
    (code_list_new _ ⟨rfl, rfl⟩) fun obj s₁ h₁ => ?_
  obtain ⟨rfl, rfl⟩ := h₁
  have hS : (s.heap.push { cls := .type "list", data := .seq #[] }).get? s.heap.objs.size = some { cls := .type "list", data := .seq #[] } := Heap.get?_push_size _ rfl
  refine ⟨⟨_, hS, rfl⟩, F.args_list_init_2 _ _, init_bytes (A := A.in1) (hn := hn) hh x t _ hS fun h' tk acc' c' hk hS' hacc => ?_⟩
  exact ⟨rfl, hQ h' tk acc' c' (fun b o e => hk b o (Nat.ne_of_lt (Heap.lt_size e)) (Heap.get?_push_of_some _ e)) hS' hacc⟩
end
theorem ints_of : ∀ (vs : List Value) (ns : List Int), vs.length = ns.length → (∀ (i : Nat) (v : Value), vs[i]? = some v → ∃ n t, ns[i]? = some n ∧ v = .int n t) → IntsAre vs ns
  | [], [], _, _ => .nil
  | v :: vs, n :: ns, hl, h => by
    obtain ⟨n', t, e1, e2⟩ := h 0 v rfl
    cases e1; subst e2
    exact .cons _ _ (ints_of vs ns (by simpa using hl) fun i u hu => h (i + 1) u hu)
  | [], _ :: _, hl, _ => by simp at hl
  | _ :: _, [], hl, _ => by simp at hl
def octs (x : Array UInt8) : List Int := x.toList.map fun b => (b.toNat : Int)
section
variable {prog : Program} {w : World} {A : Around} {E : Value → Shared → Prop} {s : Shared} {h₀ : Heap} {L : Addr} {m : MapS} {news : List (Addr × Obj)}
theorem list_bytesK {Q : Value → Shared → Prop} {x : Array UInt8} {t : Tok} (hh : A.handled = none) (F : Fr h₀ L s.heap m) (N : News h₀ L s.heap news) (hn : x.size ≤ sizeLine)
    (h : ∀ D vs c h' tk, Fr h₀ L h' m → News h₀ L h' ((D, ({ cls := .type "list", data := .seq (List.toArray vs) c } : Obj)) :: news) → IntsAre vs (octs x) → (∀ p ∈ news, p.1 < D) → Q (.ref D) { s with heap := h', toks := tk }) :
    wpAny (model prog w) A (call (.type "list") [.bytes x t]) Q E s := by
  refine list_bytes hh x t hn fun h' tk acc c k hD hI => ?_
  refine h _ acc.toList c h' tk (F.keeps k) (fun p hp => ?_) (ints_of _ _ ?_ fun i v hv => ?_) fun p hp => Heap.lt_size (N p hp).1
  · rcases List.mem_cons.mp hp with rfl | hp
    · exact ⟨by rw [Array.toArray_toList]; exact hD, Nat.ne_of_gt F.ns.lt, next_is_new F⟩
    · exact ⟨k _ _ (N p hp).1, (N p hp).2⟩
  · rw [Array.length_toList, hI.1, octs, List.length_map, Array.length_toList]
  · obtain ⟨c, u, hc, rfl⟩ := hI.2 i v (by simpa using hv)
    exact ⟨_, u, by simp [octs, hc], rfl⟩
theorem append_led {a : Addr} {ys : List Value} {k : Nat} {v : Value} {Q : Value → Shared → Prop} (F : Fr h₀ L s.heap m) (N : News h₀ L s.heap news) (hm : (a, ({ cls := .type "list", data := .seq ys.toArray k } : Obj)) ∈ news) (hsz : ys.length ≤ sizeLine)
    (h : ∀ h' k', Fr h₀ L h' m → h'.get? a = some { cls := .type "list", data := .seq (ys ++ [v]).toArray k' } → (∀ b o, b ≠ a → s.heap.get? b = some o → h'.get? b = some o) → Q .none { s with heap := h' }) :
    wpAny (model prog w) A (call (.builtin "list.append") [.ref a, v]) Q E s := by
  refine append_at (hsz := by rw [List.size_toArray]; exact hsz) (N _ hm).1 fun h' hs hD => ?_
  exact h h' (k + 1) (F.change hs (N _ hm).2.1 (N _ hm).2.2) (by rw [hD, List.push_toArray]) fun b o hb e => hs.extBut b o hb e
end
end
end Mine
namespace Mine
section
open PySem.Calls
abbrev lobj (us : List Value) (c : Nat) : Obj := { cls := .type "list", data := .seq us.toArray c }
def Row (nx : List (Addr × Obj)) (v : Value) (d : List Int) : Prop := ∃ b c us, v = .ref b ∧ (b, lobj us c) ∈ nx ∧ IntsAre us d
abbrev Rows (nx : List (Addr × Obj)) (vs : List Value) (ds : List (List Int)) : Prop := Al (Row nx) vs ds
theorem Al.mono {α : Type} {R R' : Value → α → Prop} {vs : List Value} {xs : List α} (r : Al R vs xs) (h : ∀ v x, v ∈ vs → R v x → R' v x) : Al R' vs xs :=
  ⟨r.1, fun i v hv => by obtain ⟨a, ha, hr⟩ := r.2 i v hv; exact ⟨a, ha, h v a (List.mem_of_getElem? hv) hr⟩⟩
theorem Rows.sub {nx nx' : List (Addr × Obj)} {vs : List Value} {ds : List (List Int)} (r : Rows nx vs ds) (h : ∀ p ∈ nx, p ∈ nx') : Rows nx' vs ds :=
  r.mono fun v d _ ⟨b, c, us, e, hm, hi⟩ => ⟨b, c, us, e, h _ hm, hi⟩
theorem alnil {α : Type} {R : Value → α → Prop} : Al R [] ([] : List α) := ⟨rfl, fun i v h => by simp at h⟩
theorem alsnoc {α : Type} {R : Value → α → Prop} {v : Value} {x : α} {vs : List Value} {xs : List α} (r : Al R vs xs) (h : R v x) : Al R (vs ++ [v]) (xs ++ [x]) :=
  ⟨by simp [r.1], fun i u hu => by
    by_cases hi : i < vs.length
    · rw [List.getElem?_append_left hi] at hu
      obtain ⟨a, ha, hr⟩ := r.2 i u hu
      exact ⟨a, by rw [List.getElem?_append_left (by rw [← r.1]; exact hi)]; exact ha, hr⟩
    · rw [List.getElem?_append_right (by omega)] at hu
      rw [List.getElem?_append_right (by rw [← r.1]; omega), ← r.1]
      cases hj : i - vs.length with
      | zero => rw [hj] at hu; cases hu; exact ⟨x, rfl, h⟩
      | succ j => rw [hj] at hu; cases hu⟩
def pstep (p : List (List Int) × List Int) (c : Int) : List (List Int) × List Int := if c = 47 then (p.1 ++ [p.2], []) else (p.1, p.2 ++ [c])
def pfold (l : List Int) : List (List Int) × List Int := l.foldl pstep ([], [])
def pieces (l : List Int) : List (List Int) := (pfold l).1 ++ [(pfold l).2]
theorem pfold_snoc (l : List Int) (c : Int) : pfold (l ++ [c]) = pstep (pfold l) c := by simp [pfold]
theorem pfold_len (l : List Int) : (pfold l).1.length ≤ l.length := by
  have : ∀ (l : List Int) (p : List (List Int) × List Int), (l.foldl pstep p).1.length ≤ p.1.length + l.length := fun l => by
    induction l with
    | nil => intro p; simp
    | cons c r ih =>
      intro p
      have h := ih (pstep p c)
      have h2 : (pstep p c).1.length ≤ p.1.length + 1 := by unfold pstep; split <;> simp
      rw [List.foldl_cons, List.length_cons]; omega
  have h := this l ([], [])
  simpa [pfold] using h
theorem pfold_len2 (l : List Int) : (pfold l).2.length ≤ l.length := by
  have : ∀ (l : List Int) (p : List (List Int) × List Int), (l.foldl pstep p).2.length ≤ p.2.length + l.length := fun l => by
    induction l with
    | nil => intro p; simp
    | cons c r ih =>
      intro p
      have h := ih (pstep p c)
      have h2 : (pstep p c).2.length ≤ p.2.length + 1 := by unfold pstep; split <;> simp
      rw [List.foldl_cons, List.length_cons]; omega
  have h := this l ([], [])
  simpa [pfold] using h
def PLoop (P : Addr) (nx : List (Addr × Obj)) (st : List (List Int) × List Int) : Prop :=
  ∃ vs a c1 zs c2 rest, nx = (P, lobj (vs ++ [.ref a]) c1) :: (a, lobj zs c2) :: rest ∧ Rows rest vs st.1 ∧ IntsAre zs st.2 ∧ (∀ p ∈ rest, p.1 ≠ P ∧ p.1 ≠ a) ∧ P ≠ a
section
variable {h₀ h h' : Heap} {L P : Addr} {m : MapS} {own : List (Addr × Obj)}
theorem ploop_new {Z : Addr → Prop} {n a : Addr} {vs zs : List Value} {c1 c2 c3 k' : Nat} {rest : List (Addr × Obj)} {st : List (List Int) × List Int} {c : Int} (hc : c = 47)
    (N : News h₀ L h ((n, lobj [] c3) :: (own ++ ((P, lobj (vs ++ [.ref a]) c1) :: (a, lobj zs c2) :: rest)))) (hZn : Z n) (hoff : ∀ p ∈ (P, lobj (vs ++ [.ref a]) c1) :: (a, lobj zs c2) :: rest, Z p.1)
    (lt : ∀ p ∈ own ++ ((P, lobj (vs ++ [.ref a]) c1) :: (a, lobj zs c2) :: rest), p.1 < n)
    (hP : h'.get? P = some (lobj ((vs ++ [.ref a]) ++ [.ref n]) k')) (hk : ∀ b o, b ≠ P → h.get? b = some o → h'.get? b = some o) (hown : ∀ p ∈ own, p.1 ≠ P)
    (hr : Rows rest vs st.1) (hz : IntsAre zs st.2) (hd : ∀ p ∈ rest, p.1 ≠ P ∧ p.1 ≠ a) (hPa : P ≠ a) :
    ∃ nx', News h₀ L h' (own ++ nx') ∧ (∀ p ∈ nx', Z p.1) ∧ PLoop P nx' (pstep st c) := by
  have hn : ∀ p ∈ own ++ ((P, lobj (vs ++ [.ref a]) c1) :: (a, lobj zs c2) :: rest), p.1 ≠ n := fun p hp => Nat.ne_of_lt (lt p hp)
  have hPn : P ≠ n := hn (P, _) (List.mem_append_right _ (.head _))
  have han : a ≠ n := hn (a, _) (List.mem_append_right _ (.tail _ (.head _)))
  refine ⟨(P, lobj ((vs ++ [.ref a]) ++ [.ref n]) k') :: (n, lobj [] c3) :: (a, lobj zs c2) :: rest, fun p hp => ?_, fun p hp => ?_, ?_⟩
  · rcases List.mem_append.mp hp with hp | hp
    · have z := N p (.tail _ (List.mem_append_left _ hp))
      exact ⟨hk _ _ (hown p hp) z.1, z.2⟩
    · rcases List.mem_cons.mp hp with rfl | hp
      · exact ⟨hP, (N (P, _) (.tail _ (List.mem_append_right _ (.head _)))).2⟩
      · rcases List.mem_cons.mp hp with rfl | hp
        · exact ⟨hk _ _ (Ne.symm hPn) (N _ (.head _)).1, (N _ (.head _)).2⟩
        · have z := N p (.tail _ (List.mem_append_right _ (.tail _ hp)))
          refine ⟨hk _ _ ?_ z.1, z.2⟩
          rcases List.mem_cons.mp hp with rfl | hp
          · exact Ne.symm hPa
          · exact (hd p hp).1
  · rcases List.mem_cons.mp hp with rfl | hp
    · exact hoff (P, lobj (vs ++ [.ref a]) c1) (.head _)
    · rcases List.mem_cons.mp hp with rfl | hp
      · exact hZn
      · exact hoff p (.tail _ hp)
  · refine ⟨vs ++ [.ref a], n, k', [], c3, (a, lobj zs c2) :: rest, rfl, ?_, ?_, fun p hp => ?_, hPn⟩
    · unfold pstep; rw [if_pos hc]
      exact alsnoc (hr.sub fun p hp => .tail _ hp) ⟨a, c2, zs, rfl, .head _, hz⟩
    · unfold pstep; rw [if_pos hc]; exact .nil
    · rcases List.mem_cons.mp hp with rfl | hp
      · exact ⟨Ne.symm hPa, han⟩
      · exact ⟨(hd p hp).1, hn p (List.mem_append_right _ (.tail _ (.tail _ hp)))⟩
theorem ploop_more {Z : Addr → Prop} {a : Addr} {vs zs : List Value} {c1 c2 k' : Nat} {rest : List (Addr × Obj)} {st : List (List Int) × List Int} {c : Int} {t : Tok} (hc : c ≠ 47)
    (N : News h₀ L h (own ++ ((P, lobj (vs ++ [.ref a]) c1) :: (a, lobj zs c2) :: rest))) (hoff : ∀ p ∈ (P, lobj (vs ++ [.ref a]) c1) :: (a, lobj zs c2) :: rest, Z p.1)
    (hA : h'.get? a = some (lobj (zs ++ [.int c t]) k')) (hk : ∀ b o, b ≠ a → h.get? b = some o → h'.get? b = some o) (hown : ∀ p ∈ own, p.1 ≠ a)
    (hr : Rows rest vs st.1) (hz : IntsAre zs st.2) (hd : ∀ p ∈ rest, p.1 ≠ P ∧ p.1 ≠ a) (hPa : P ≠ a) :
    ∃ nx', News h₀ L h' (own ++ nx') ∧ (∀ p ∈ nx', Z p.1) ∧ PLoop P nx' (pstep st c) := by
  refine ⟨(P, lobj (vs ++ [.ref a]) c1) :: (a, lobj (zs ++ [.int c t]) k') :: rest, fun p hp => ?_, fun p hp => ?_, ?_⟩
  · rcases List.mem_append.mp hp with hp | hp
    · have z := N p (List.mem_append_left _ hp)
      exact ⟨hk _ _ (hown p hp) z.1, z.2⟩
    · rcases List.mem_cons.mp hp with rfl | hp
      · have z := N _ (List.mem_append_right _ (.head _))
        exact ⟨hk _ _ hPa z.1, z.2⟩
      · rcases List.mem_cons.mp hp with rfl | hp
        · exact ⟨hA, (N (a, lobj zs c2) (List.mem_append_right _ (.tail _ (.head _)))).2⟩
        · have z := N p (List.mem_append_right _ (.tail _ (.tail _ hp)))
          exact ⟨hk _ _ (hd p hp).2 z.1, z.2⟩
  · rcases List.mem_cons.mp hp with rfl | hp
    · exact hoff _ (.head _)
    · rcases List.mem_cons.mp hp with rfl | hp
      · exact hoff (a, lobj zs c2) (.tail _ (.head _))
      · exact hoff p (.tail _ (.tail _ hp))
  · refine ⟨vs, a, c1, _, k', rest, rfl, ?_, ?_, hd, hPa⟩
    · unfold pstep; rw [if_neg hc]; exact hr
    · unfold pstep; rw [if_neg hc]; exact ints_snoc hz
end
theorem al_head {α : Type} {R : Value → α → Prop} {vs : List Value} {x : α} {xs : List α} (r : Al R vs (x :: xs)) : ∃ v vr, vs = v :: vr ∧ R v x ∧ Al R vr xs := by
  obtain ⟨hl, hr⟩ := r
  match vs, hl, hr with
  | v :: vr, hl, hr =>
    obtain ⟨a, ha, h⟩ := hr 0 v rfl
    cases ha
    exact ⟨v, vr, rfl, h, by simpa using hl, fun i u hu => by obtain ⟨a, ha, h⟩ := hr (i + 1) u hu; exact ⟨a, ha, h⟩⟩
  | [], hl, _ => simp at hl
end
end Mine
namespace Mine
section
open PySem.Calls
section
variable {prog : Program} {w : World} {A : Around} {E : Value → Shared → Prop} {s : Shared} {env : Env} {h₀ : Heap} {x : Str} {body : List Stmt} {Q : Flow → Shared → Prop}
theorem for_walkO {I : Addr} {fp wr : List Addr} {n : Nat} {P : Nat → Value → Prop} {St : Nat → Heap → Prop} {m₀ : Str → Option Value} {news : List (Addr × Obj)} (J : Nat → (Str → Option Value) → List (Addr × Obj) → Prop)
    (W : Walks prog w A I fp wr n P St) (hLf : env.locals ∉ fp) (hwr : ∀ b ∈ wr, h₀.get? b = none) (hnw : ∀ p ∈ news, p.1 ∉ wr) (hob : ∀ i h, St i h → ∀ b ∈ wr, ∃ o, h.get? b = some o)
    (hst : St 0 s.heap) (F : Fr h₀ env.locals s.heap m₀) (N : News h₀ env.locals s.heap news) (hj : J 0 m₀ news)
    (turn : ∀ i v m₁ nx h tk own, i < n → P i v → (∀ b ∈ wr, ∃ o, (b, o) ∈ own) → (∀ b ∈ fp, h₀.get? b = none → (∀ i h, St i h → ∃ o, h.get? b = some o) → ∃ o, (b, o) ∈ own) → (∀ p ∈ own, p.1 ∈ fp) → (∀ p ∈ nx, p.1 ∉ wr) → J i m₁ nx → Fr h₀ env.locals h (fun y => if y = x then some v else m₁ y) → News h₀ env.locals h (own ++ nx) →
      wpAny (model prog w) A (execs body env) (TurnEnd h₀ env.locals wr own (J (i + 1)) s Q) E { s with heap := h, toks := tk })
    (done : ∀ m₁ nx h tk, J n m₁ nx → Fr h₀ env.locals h m₁ → News h₀ env.locals h nx → Q .next { s with heap := h, toks := tk }) :
    LoopAtV prog w A h₀ env x body Q E (.ref I) s := by
  refine ⟨I, fp, wr, n, P, St, m₀, news, J, rfl, W, hLf, hwr, hnw, hst, F, N, hj, ?_, ?_⟩
  · rintro i v m₁ nx s₁ own ⟨h, tk, rfl⟩ hi hP hJ hoff hown hget hall hst' F₁ N₁
    refine wpAny_mono (turn i v m₁ nx h tk own hi hP (fun b hb => ?_) (fun b hb h0 hs => by obtain ⟨o, ho⟩ := hs _ _ hst'; exact ⟨o, hall b hb h0 o ho⟩) hown hoff hJ F₁ N₁) (fun f s₂ q => ?_) fun _ _ e => e
    · obtain ⟨o, ho⟩ := hob _ _ hst' b hb
      exact ⟨o, hall b (W.sub b hb) (hwr b hb) o ho⟩
    · cases f with
      | ret v => exact .ret q
      | brk => exact .brk q
      | next => obtain ⟨h', tk', m', nx', rfl, F', N', ho, hJ'⟩ := q; exact .next ⟨rfl, h', tk', m', nx', rfl, F', N', ho, hJ'⟩
      | cont => obtain ⟨h', tk', m', nx', rfl, F', N', ho, hJ'⟩ := q; exact .cont ⟨rfl, h', tk', m', nx', rfl, F', N', ho, hJ'⟩
  · rintro h' tk m' nx F' N' _ hJ
    exact done m' nx h' tk hJ F' N'
theorem for_listO {D : Addr} {vs : List Value} {m₀ : Str → Option Value} {news : List (Addr × Obj)} (J : List (Addr × Obj) → (Str → Option Value) → Nat → (Str → Option Value) → List (Addr × Obj) → Prop)
    (hh : A.handled = none) (F : Fr h₀ env.locals s.heap m₀) (N : News h₀ env.locals s.heap news) (hD : s.heap.IsList D vs.toArray) (hDL : D ≠ env.locals) (hj : J news m₀ 0 m₀ news)
    (turn : ∀ I i v m₁ nx h tk own, vs[i]? = some v → (∃ o, (I, o) ∈ own) → (h₀.get? D = none → ∃ o, (D, o) ∈ own) → (∀ p ∈ own, p.1 = I ∨ p.1 = D) → (∀ p ∈ nx, p.1 ∉ [I]) → J news m₀ i m₁ nx → Fr h₀ env.locals h (fun y => if y = x then some v else m₁ y) → News h₀ env.locals h (own ++ nx) →
      wpAny (model prog w) A (execs body env) (TurnEnd h₀ env.locals [I] own (J news m₀ (i + 1)) s Q) E { s with heap := h, toks := tk })
    (done : ∀ m₁ nx h tk, J news m₀ vs.length m₁ nx → Fr h₀ env.locals h m₁ → News h₀ env.locals h nx → Q .next { s with heap := h, toks := tk }) :
    wpAny (model prog w) A (pyIter (.ref D)) (fun it s₂ => LoopAtV prog w A h₀ env x body Q E it s₂) E s := by
  obtain ⟨oD, hoD, hr⟩ := id hD
  have hne : D ≠ s.heap.objs.size := lt_ne_size hoD
  refine wpAny_pyIter_list hD ?_
  have W := Walks.list (prog := prog) (w := w) hh s.heap.objs.size D hne vs.toArray
  have hlen : vs.toArray.size = vs.length := by simp
  rw [hlen] at W
  refine for_walkO (J news m₀) W ?_ ?_ ?_ ?_ ⟨⟨_, Heap.get?_push_size _ rfl, rfl, rfl⟩, ⟨oD, Heap.get?_push_of_some _ hoD, hr⟩⟩ (F.push _) (fun p hp => ⟨Heap.get?_push_of_some _ (N p hp).1, (N p hp).2⟩) hj ?_ ?_
  · intro hm
    rcases List.mem_cons.mp hm with e | hm
    · exact absurd F.ns.lt (e ▸ Nat.lt_irrefl _)
    · exact hDL (List.mem_singleton.mp hm).symm
  · intro b hb; rw [List.mem_singleton.mp hb]; exact next_is_new F
  · intro p hp hI; exact absurd (Heap.lt_size (N p hp).1) ((List.mem_singleton.mp hI) ▸ Nat.lt_irrefl _)
  · intro i h hi b hb; rw [List.mem_singleton.mp hb]; obtain ⟨⟨o, ho, _⟩, _⟩ := hi; exact ⟨o, ho⟩
  · intro i v m₁ nx h tk own hi hP hI hfo hown ho hJ F₁ N₁
    exact turn _ i v m₁ nx h tk own (by simpa using hP) (hI _ (.head _)) (fun h0 => hfo D (.tail _ (.head _)) h0 fun i h q => by obtain ⟨_, o, ho, _⟩ := q; exact ⟨o, ho⟩) (fun p hp => by simpa using hown p hp) ho hJ F₁ N₁
  · exact fun m₁ nx h tk hJ F₁ N₁ => done m₁ nx h tk hJ F₁ N₁
end
end
end Mine
namespace Mine
section
open PySem.Calls
section
variable {prog : Program} {w : World} {A : Around} {s : Shared} {K : Frag} {mg mb : Str → Option Value} {p : Program} {loose : List Str} {mean : ExcName → Option Value}
theorem enterC {R : Result → Shared → Prop} {name qual : Str} {params : Arguments} {body : List Stmt} {scope : Scope} {dV kV doc pm cdv ct oc : Value} {an od : Option Addr} {osl : Array (Option Value)} {f : Addr} {args : Args} {binds : List (Str × Value)}
    (X : K.In s.heap) (T : Top p loose mean mg mb s.heap) (hroom : A.depth < recursionLimit)
    (ho : K.lookup f = some ⟨oc, od, .func (fnOf name qual params body scope dV kV doc pm an cdv ct), osl⟩) (hcd : codeIn K cdv qual = true)
    (hbind : BindsTo s (fnOf name qual params body scope dV kV doc pm an cdv ct) args binds)
    (hkind : ∀ n, ∀ x ∈ binds, scope.names.lookup x.1 = some .local ∨ (scope.names.lookup x.1 = some .cell ∧ ((cellsFrom n scope.names []).lookup x.1).isSome = true))
    (hnd : ((cellsFrom 0 scope.names []).map (·.1)).Nodup)
    (h : ∀ L h₁ tk cells, Fr s.heap L h₁ (bindL (envOfC qual scope L f cdv).kindOf binds fun _ => none) → News s.heap L h₁ cells →
      CellsAre (bindC (envOfC qual scope L f cdv).kindOf binds fun _ => none) (cellsFrom (L + 1) scope.names []) cells →
      wpAny (model prog w) (A.deeper (envOfC qual scope L f cdv)) (execs body (envOfC qual scope L f cdv))
        (fun fl s' => R (.ok (.ret (match fl with | .ret v => v | _ => .none))) s')
        (fun e s' => wpAny (model prog w) (A.deeper (envOfC qual scope L f cdv)) (leaving (envOfC qual scope L f cdv) e) (fun _ s'' => R (.error e) s'') (fun e' s'' => R (.error e') s'') s')
        { s with heap := h₁, toks := tk })
    (hco : scope.isCoroutine = false) (hgen : scope.isGenerator = false) (hk : scope.kind = .function) :
    codeAny (model prog w) A (.call (.ref f) args) R s := by
  refine codeAny_call_function (fd := fnOf name qual params body scope dV kV doc pm an cdv ct) (body := body) hroom (X _ _ ho) rfl hco hgen rfl (codeRec_of X hcd) (hbind _ _ _ _ ?_)
  refine wpAny_newFunctionEnv_cells hk (hkind _) fun env' he s' x => ?_
  subst he
  refine ⟨T.nolimit.keeps x.toInCall.keep, codeAny_func ?_⟩
  obtain ⟨h₁, tk, rfl, _⟩ := x.done
  have hk₁ := x.toInCall.keep
  obtain ⟨cells, NC, Y⟩ := Cl.news (h₀ := s.heap) (Nat.le_refl _) fun n c hm => ⟨x.cell n c (lookup_of_mem_nodup (cellsFrom_names scope.names 0 (s.heap.objs.size + 1) [] [] rfl ▸ hnd) hm), x.above n c hm⟩
  exact h s.heap.objs.size h₁ tk cells ⟨x.toInCall.ns, hk₁, Nat.le_refl _⟩ NC Y
end
section
variable {prog : Program} {w : World} {A : Around} {E : Value → Shared → Prop} {s : Shared} {h₀ : Heap} {L a : Addr} {m : MapS} {news : List (Addr × Obj)}
theorem star_list {vs : List Value} {Q : List Value → Shared → Prop} (F : Fr h₀ L s.heap m) (N : News h₀ L s.heap news) (hl : s.heap.IsList a vs.toArray) (hz : vs.length ≤ sizeLine)
    (h : ∀ h', Fr h₀ L h' m → News h₀ L h' news → Q vs { s with heap := h' }) : StarOf (model prog w) A E (.ref a) Q s := by
  obtain ⟨o, D, hc, n, hd⟩ := hl
  have hT : s.TypeIs (.ref a) "list" := ⟨o, D, hc⟩
  unfold StarOf notIterableAtAll
  refine wpAny_bind (wpAny_specialOf hT PySem.F.slot_list_iter.lookup (wpAny_pure ⟨rfl, ?_⟩))
  have z : wpAny (model prog w) A (collect (.ref a)) (fun ws s' => ws = vs ∧ ∃ h', s' = { s with heap := h' } ∧ Fr h₀ L h' m ∧ News h₀ L h' news) E s :=
    wpAny_collect_seq a (.inl rfl) D hc hd (fun h' hk => ⟨by simp, h', rfl, F.keeps hk, fun p hp => ⟨hk _ _ (N p hp).1, (N p hp).2⟩⟩) (by rw [List.size_toArray]; exact hz)
  exact wpAny_mono z (fun ws s' q => by obtain ⟨rfl, h', rfl, F', N'⟩ := q; exact h h' F' N') fun _ _ e => e
end
end
end Mine
namespace Mine
section
open PySem.Calls
def Cut (nx : List (Addr × Obj)) (v : Value) (d : List (List Int)) : Prop := ∃ P c vs, v = .ref P ∧ (P, lobj vs c) ∈ nx ∧ Rows nx vs d
theorem Cut.sub {nx nx' : List (Addr × Obj)} {v : Value} {d : List (List Int)} (x : Cut nx v d) (h : ∀ p ∈ nx, p ∈ nx') : Cut nx' v d :=
  let ⟨P, c, vs, e, hm, r⟩ := x; ⟨P, c, vs, e, h _ hm, r.sub h⟩
section
variable {h₀ h h' : Heap} {L : Addr} {m : MapS} {news nw : List (Addr × Obj)}
theorem news_new (F : Fr h₀ L h m) (N : News h₀ L h news) (k : Kp h h') (new : ∀ p ∈ nw, h'.get? p.1 = some p.2 ∧ h.get? p.1 = none) : News h₀ L h' (nw ++ news) := fun p hp => by
  rcases List.mem_append.mp hp with hp | hp
  · obtain ⟨e1, e2⟩ := new p hp
    refine ⟨e1, fun q => ?_, ?_⟩
    · obtain ⟨o, _, _, e, _⟩ := F.ns
      rw [q, e] at e2; cases e2
    · cases q : h₀.get? p.1 with
      | none => rfl
      | some o => rw [F.keep _ _ q] at e2; cases e2
  · exact ⟨k _ _ (N p hp).1, (N p hp).2⟩
theorem new_ne {a : Addr} {o : Obj} (new : ∀ p ∈ nw, h'.get? p.1 = some p.2 ∧ h.get? p.1 = none) (e : h.get? a = some o) : ∀ p ∈ nw, p.1 ≠ a := fun p hp q => by
  have := (new p hp).2; rw [q, e] at this; cases this
end
section
variable {prog : Program} {w : World} {A : Around} {E : Value → Shared → Prop} {s : Shared}
theorem item_zero {value slice : Expr} {l : Addr} {v : Value} {vs : List Value} {u : Tok} {Q : Value → Shared → Prop} (hl : s.heap.IsList l (v :: vs).toArray) (h : Q v s)
    (hs : subscripted slice false (.ref l) (.int 0 u) = operate [.ref l, .int 0 u] (getItem (.ref l) (.int 0 u)) := by with_unfolding_all rfl) (hg : ∀ r, letTemporaryGo value (.ref l) r = pure () := by intro _; with_unfolding_all rfl) :
    wpAny (model prog w) A (subscriptTail value slice (.ref l) (.int 0 u)) Q E s :=
  item_list hl (Int.le_refl 0) (by decide) (by simp) h hs hg
end
theorem al_last {α : Type} {R : Value → α → Prop} {vs : List Value} {x : α} {xs : List α} (r : Al R vs (xs ++ [x])) : ∃ vr v, vs = vr ++ [v] ∧ R v x ∧ Al R vr xs := by
  obtain ⟨hl, hr⟩ := r
  rcases List.eq_nil_or_concat vs with rfl | ⟨vr, v, rfl⟩
  · simp at hl
  · rw [List.concat_eq_append] at hl hr ⊢
    have e : vr.length = xs.length := by simpa using hl
    refine ⟨vr, v, rfl, ?_, e, fun i u hu => ?_⟩
    · obtain ⟨a, ha, h⟩ := hr vr.length v (by simp)
      rw [e, List.getElem?_append_right (Nat.le_refl _)] at ha
      simp at ha; rw [ha]; exact h
    · have hi : i < vr.length := (List.getElem?_eq_some_iff.mp hu).1
      obtain ⟨a, ha, h⟩ := hr i u (by rw [List.getElem?_append_left hi]; exact hu)
      rw [List.getElem?_append_left (by omega)] at ha
      exact ⟨a, ha, h⟩
theorem pick_init1 (l : List Value) (a : Value) : kms_pick (l ++ [a]) none (some (-1)) = l := by
  simp [kms_pick, kms_lo, kms_hi]
theorem turn_news {h₀ h : Heap} {L I : Addr} {nw own nx : List (Addr × Obj)} (N : News h₀ L h (nw ++ (own ++ nx))) (hnx : ∀ r ∈ nx, r.1 ∉ [I]) (hI : ∃ o, (I, o) ∈ own) (lt : ∀ p ∈ nw, ∀ q ∈ own ++ nx, q.1 < p.1) :
    News h₀ L h (own ++ (nw ++ nx)) ∧ ∀ r ∈ nw ++ nx, r.1 ∉ [I] := by
  obtain ⟨o, ho⟩ := hI
  refine ⟨news_sub N fun p hp => ?_, fun r hr => ?_⟩
  · rcases List.mem_append.mp hp with hp | hp
    · exact List.mem_append_right _ (List.mem_append_left _ hp)
    · rcases List.mem_append.mp hp with hp | hp
      · exact List.mem_append_left _ hp
      · exact List.mem_append_right _ (List.mem_append_right _ hp)
  · rcases List.mem_append.mp hr with hr | hr
    · intro q
      exact Nat.lt_irrefl _ (List.mem_singleton.mp q ▸ lt r hr _ (List.mem_append_left _ ho))
    · exact hnx r hr
theorem alapp {α : Type} {R : Value → α → Prop} {vs us : List Value} {xs ys : List α} (r : Al R vs xs) (q : Al R us ys) : Al R (vs ++ us) (xs ++ ys) :=
  ⟨by simp [r.1, q.1], fun i u hu => by
    by_cases hi : i < vs.length
    · rw [List.getElem?_append_left hi] at hu
      obtain ⟨a, ha, hr⟩ := r.2 i u hu
      exact ⟨a, by rw [List.getElem?_append_left (by rw [← r.1]; exact hi)]; exact ha, hr⟩
    · rw [List.getElem?_append_right (by omega)] at hu
      obtain ⟨a, ha, hr⟩ := q.2 _ u hu
      exact ⟨a, by rw [List.getElem?_append_right (by rw [← r.1]; omega), ← r.1]; exact ha, hr⟩⟩
theorem news_swap {h₀ h : Heap} {L : Addr} {a b : List (Addr × Obj)} (N : News h₀ L h (a ++ b)) : News h₀ L h (b ++ a) := news_sub N fun p hp => by
  rcases List.mem_append.mp hp with hp | hp
  · exact List.mem_append_right _ hp
  · exact List.mem_append_left _ hp
theorem turn_news' {h₀ h : Heap} {L I : Addr} {nw own nx : List (Addr × Obj)} (N : News h₀ L h (nw ++ (own ++ nx))) (hnx : ∀ r ∈ nx, r.1 ∉ [I]) (hnw : ∀ p ∈ nw, p.1 ≠ I) :
    News h₀ L h (own ++ (nw ++ nx)) ∧ ∀ r ∈ nw ++ nx, r.1 ∉ [I] :=
  ⟨news_sub N fun p hp => by
    rcases List.mem_append.mp hp with hp | hp
    · exact List.mem_append_right _ (List.mem_append_left _ hp)
    · rcases List.mem_append.mp hp with hp | hp
      · exact List.mem_append_left _ hp
      · exact List.mem_append_right _ (List.mem_append_right _ hp), fun r hr => by
    rcases List.mem_append.mp hr with hr | hr
    · exact fun q => hnw r hr (List.mem_singleton.mp q)
    · exact hnx r hr⟩
end
end Mine
namespace Mine
section
open PySem.Calls
open LCg
section
variable {prog : Program} {w : World} {A : Around} {E : Value → Shared → Prop} {s : Shared} {env : Env} {h₀ : Heap} {x : Str} {body : List Stmt} {Q : Flow → Shared → Prop}
theorem for_rangeO {r : Addr} {a b : Int} {t u v : Tok} {n : Nat} {m₀ : Str → Option Value} {news : List (Addr × Obj)} (J : List (Addr × Obj) → (Str → Option Value) → Nat → (Str → Option Value) → List (Addr × Obj) → Prop)
    (hh : A.handled = none) (F : Fr h₀ env.locals s.heap m₀) (N : News h₀ env.locals s.heap news) (hr : IsRange s.heap r a b 1 t u v) (hsm : Builtin.Range.small a b 1 = true) (hn : Builtin.Range.rangeSize a b 1 = ((n : Nat) : Int)) (hj : J news m₀ 0 m₀ news)
    (turn : ∀ I i tv m₁ nx h tk own, i < n → (∃ o, (I, o) ∈ own) → (∀ p ∈ own, p.1 = I) → (∀ p ∈ nx, p.1 ∉ [I]) → J news m₀ i m₁ nx → Fr h₀ env.locals h (fun y => if y = x then some (.int (a + (i : Int)) tv) else m₁ y) → News h₀ env.locals h (own ++ nx) →
      wpAny (model prog w) A (execs body env) (TurnEnd h₀ env.locals [I] own (J news m₀ (i + 1)) s Q) E { s with heap := h, toks := tk })
    (done : ∀ m₁ nx h tk, J news m₀ n m₁ nx → Fr h₀ env.locals h m₁ → News h₀ env.locals h nx → Q .next { s with heap := h, toks := tk }) :
    wpAny (model prog w) A (pyIter (.ref r)) (fun it s₂ => LoopAtV prog w A h₀ env x body Q E it s₂) E s := by
  refine wpAny_pyIter_range hr hsm ?_
  refine for_walkO (J news m₀) (range_walks (prog := prog) (w := w) (I := s.heap.objs.size) hh a n) ?_ ?_ ?_ (fun i h hi b hb => by rw [List.mem_singleton.mp hb]; exact ⟨_, hi⟩) (by show IsRangeIter _ _ _ _ _; rw [hn]; simpa using Heap.get?_push_size _ rfl) (F.push _) (fun p hp => ⟨Heap.get?_push_of_some _ (N p hp).1, (N p hp).2⟩) hj ?_ ?_
  · intro hm; exact absurd F.ns.lt ((List.mem_singleton.mp hm) ▸ Nat.lt_irrefl _)
  · intro b hb; rw [List.mem_singleton.mp hb]; exact next_is_new F
  · intro p hp hI; exact absurd (Heap.lt_size (N p hp).1) ((List.mem_singleton.mp hI) ▸ Nat.lt_irrefl _)
  · intro i v m₁ nx h tk own hi hP hI hfo hown ho hJ F₁ N₁
    obtain ⟨tv, rfl⟩ := hP
    exact turn _ i tv m₁ nx h tk own hi (hI _ (.head _)) (fun p hp => by simpa using hown p hp) ho hJ F₁ N₁
  · exact fun m₁ nx h tk hJ F₁ N₁ => done m₁ nx h tk hJ F₁ N₁
theorem range_small2 {a n : Nat} (ha : a ≤ sizeLine) (h : n ≤ sizeLine) : Builtin.Range.small (a : Int) (n : Int) 1 = true := by
  rw [sizeLine_eq] at h ha
  exact small_one (by omega) (by omega) (by omega) (by omega)
theorem range_len2 {a n : Nat} : Builtin.Range.rangeSize (a : Int) (n : Int) 1 = ((n - a : Nat) : Int) := by
  rw [rangeSize_one]; split <;> omega
theorem for_range2 {a n : Nat} {t u : Tok} {m₀ : Str → Option Value} {news : List (Addr × Obj)} (J : List (Addr × Obj) → (Str → Option Value) → Nat → (Str → Option Value) → List (Addr × Obj) → Prop)
    (hh : A.handled = none) (F : Fr h₀ env.locals s.heap m₀) (N : News h₀ env.locals s.heap news) (ha : a ≤ n) (hz : n ≤ sizeLine) (hj : J news m₀ a m₀ news)
    (turn : ∀ I i tv m₁ nx h tk own, a ≤ i → i < n → (∃ o, (I, o) ∈ own) → (∀ p ∈ own, p.1 = I) → (∀ p ∈ nx, p.1 ∉ [I]) → J news m₀ i m₁ nx → Fr h₀ env.locals h (fun y => if y = x then some (.int (i : Int) tv) else m₁ y) → News h₀ env.locals h (own ++ nx) →
      wpAny (model prog w) A (execs body env) (TurnEnd h₀ env.locals [I] own (J news m₀ (i + 1)) s Q) E { s with heap := h, toks := tk })
    (done : ∀ m₁ nx h tk, J news m₀ n m₁ nx → Fr h₀ env.locals h m₁ → News h₀ env.locals h nx → Q .next { s with heap := h, toks := tk }) :
    wpAny (model prog w) A (call (.type "range") [.int (a : Int) t, .int (n : Int) u]) (fun xv s₁ => wpAny (model prog w) A (pyIter xv) (fun it s₂ => LoopAtV prog w A h₀ env x body Q E it s₂) E s₁) E s := by
  refine range2_rows F N fun h' tk t₁ u₁ v₁ R F' N' _ => ?_
  refine for_rangeO (s := { s with heap := h', toks := tk }) (fun n0 m0 i => J n0 m0 (a + i)) hh F' N' R (range_small2 (Nat.le_trans ha hz) hz) range_len2 hj ?_ ?_
  · intro I i tv m₁ nx h tk own hi hI hown ho hJ F₁ N₁
    exact turn I (a + i) tv m₁ nx h tk own (Nat.le_add_right _ _) (by omega) hI hown ho hJ (by rw [Int.natCast_add]; exact F₁) N₁
  · intro m₁ nx h tk hJ F₁ N₁
    exact done m₁ nx h tk (by rw [show a + (n - a) = n by omega] at hJ; exact hJ) F₁ N₁
end
end
end Mine
namespace Mine
section
open PySem.Calls
def rowsP (ds : List (List Int)) : PyData := .list (ds.map fun d => PyData.list (d.map PyData.int))
theorem rowsP_lay (ds : List (List Int)) : (rowsP ds).canLay0 = true ∧ (rowsP ds).depth ≤ 2 := by
  have h : ∀ ds : List (List Int), PyData.canLayAll0 (ds.map fun d => PyData.list (d.map PyData.int)) = true ∧ PyData.depthAll (ds.map fun d => PyData.list (d.map PyData.int)) ≤ 1 := fun ds => by
    induction ds with
    | nil => simp [PyData.canLayAll0, PyData.depthAll]
    | cons d r ih =>
      have h1 := ih.1
      have h2 := ih.2
      simp only [List.map_cons, PyData.canLayAll0, PyData.depthAll, PyData.canLay0, PyData.depth, ke_canLayAll0, ke_depthAll, h1, Bool.and_self, true_and]
      omega
  have h1 := (h ds).1
  have h2 := (h ds).2
  simp only [rowsP, PyData.canLay0, PyData.depth, h1, true_and]
  omega
theorem reads_rows {h : Heap} : ∀ {vs : List Value} {ds : List (List Int)}, Al (fun v d => ∃ b us, v = .ref b ∧ h.IsList b us.toArray ∧ IntsAre us d) vs ds → ∃ as, ReadsAll h vs (ds.map fun d => PyData.list (d.map PyData.int)) as
  | [], [], _ => ⟨_, .nil⟩
  | _, d :: ds, r => by
    obtain ⟨v, vr, rfl, ⟨b, us, rfl, hl, hi⟩, r'⟩ := al_head r
    obtain ⟨as, q⟩ := reads_rows r'
    exact ⟨_, .cons (reads_newData hl (ke_carried hi)) q⟩
  | v :: vs, [], r => by have := r.1; simp at this
section
variable {prog : Program} {w : World} {A : Around} {E : Value → Shared → Prop} {s : Shared} {h₀ : Heap} {L a b : Addr} {news : List (Addr × Obj)} {xs ys : List Value} {ka kb : Nat} {ds : List (List Int)} {Q : Value → Shared → Prop}
theorem rows_at (N : News h₀ L s.heap news) (r : Rows news xs ds) : Al (fun v d => ∃ b us, v = .ref b ∧ s.heap.IsList b us.toArray ∧ IntsAre us d) xs ds :=
  r.mono fun v d _ ⟨b, c, us, e, hm, hi⟩ => ⟨b, us, e, ⟨_, (N _ hm).1, rfl, c, rfl⟩, hi⟩
theorem eq_rows (N : News h₀ L s.heap news) (ma : (a, lobj xs ka) ∈ news) (ra : Rows news xs ds) (mb : (b, lobj ys kb) ∈ news) (rb : Rows news ys ds) (hu : A.units + 64 < cLine) (h : Q (.bool true) s) :
    wpAny (model prog w) A (compareOp .Eq (.ref a) (.ref b)) Q E s := by
  obtain ⟨as, qa⟩ := reads_rows (rows_at N ra)
  obtain ⟨bs, qb⟩ := reads_rows (rows_at N rb)
  have l := rowsP_lay ds
  have sh : SeqAt.shaped (rowsP ds) = true := by unfold SeqAt.shaped; rw [l.1, Bool.true_and]; exact decide_eq_true (Nat.le_trans l.2 (by decide))
  exact eq_dataH (da := rowsP ds) (db := rowsP ds) (reads_list_at (N _ ma).1 rfl rfl qa) (reads_list_at (N _ mb).1 rfl rfl qb) sh sh hu (by rw [PySem.SeqAt.eqv_refl _ l.1]; exact h)
end
end
end Mine
namespace Mine
section
open PySem.Calls
theorem pfold_go (a : List (List Int)) : ∀ (m : List Int) (x : List (List Int)) (y : List Int), m.foldl pstep (a ++ x, y) = (a ++ (m.foldl pstep (x, y)).1, (m.foldl pstep (x, y)).2)
  | [], x, y => rfl
  | c :: m, x, y => by
    rw [List.foldl_cons, List.foldl_cons]
    unfold pstep
    by_cases hc : c = 47
    · simp only [hc, if_true, List.append_assoc]; exact pfold_go a m (x ++ [y]) []
    · simp only [hc, if_false]; exact pfold_go a m x (y ++ [c])
theorem pfold_app (l m : List Int) (h : (pfold l).2 = []) : pfold (l ++ m) = ((pfold l).1 ++ (pfold m).1, (pfold m).2) := by
  unfold pfold at h ⊢
  rw [List.foldl_append]
  have := pfold_go (List.foldl pstep ([], []) l).1 m [] []
  rw [List.append_nil] at this
  generalize List.foldl pstep ([], []) l = q at *
  obtain ⟨q1, q2⟩ := q
  dsimp only at h this ⊢
  rw [h]; exact this
theorem pfold_47 (l : List Int) : pfold (l ++ [47]) = (pieces l, []) := by rw [pfold_snoc]; unfold pstep pieces; simp
theorem pieces_app (l m : List Int) (h : (pfold l).2 = []) : pieces (l ++ m) = (pfold l).1 ++ pieces m := by
  unfold pieces; rw [pfold_app l m h, List.append_assoc]
theorem pieces_47 (l m : List Int) : pieces (l ++ 47 :: m) = pieces l ++ pieces m := by
  have := pieces_app (l ++ [47]) m (by rw [pfold_47])
  rw [pfold_47] at this
  simpa using this
theorem pfold_last (l : List Int) : (pfold l).2 = [] ↔ l = [] ∨ l.getLast? = some 47 := by
  rcases List.eq_nil_or_concat l with rfl | ⟨r, c, rfl⟩
  · simp [pfold]
  · rw [List.concat_eq_append, pfold_snoc]
    unfold pstep
    by_cases hc : c = 47
    · simp [hc]
    · simp [hc]
theorem head_go : ∀ (m : List Int) (y : List Int), y ≠ [] → (m.foldl pstep ([], y)).1 = [] ∨ ∃ z r, (m.foldl pstep ([], y)).1 = z :: r ∧ z ≠ []
  | [], y, h => .inl rfl
  | c :: m, y, h => by
    rw [List.foldl_cons]
    by_cases hc : c = 47
    · have e : pstep ([], y) c = ([y], []) := by unfold pstep; rw [if_pos hc]; rfl
      have := pfold_go [y] m [] []
      rw [List.append_nil] at this
      rw [e, this]
      exact .inr ⟨y, _, rfl, h⟩
    · have e : pstep ([], y) c = ([], y ++ [c]) := by unfold pstep; rw [if_neg hc]
      rw [e]; exact head_go m (y ++ [c]) (by simp)
theorem starts_iff (c : List Int) : (1 < (pieces c).length ∧ (pieces c)[0]? = some []) ↔ c.head? = some 47 := by
  cases c with
  | nil => simp [pieces, pfold]
  | cons x r =>
    by_cases hx : x = 47
    · subst hx
      have e := pieces_47 [] r
      rw [List.nil_append] at e
      rw [e]
      simp [pieces, pfold]
    · have e : pfold (x :: r) = r.foldl pstep ([], [x]) := by unfold pfold; rw [List.foldl_cons]; congr 1; unfold pstep; rw [if_neg hx]; rfl
      unfold pieces
      rw [e]
      simp only [List.head?_cons, Option.some.injEq, hx, iff_false]
      rcases head_go r [x] (by simp) with h | ⟨z, q, h, hz⟩
      · rw [h]; simp
      · rw [h]; simp [hz]
def trimP (d : List (List Int)) : List (List Int) := if d.getLast? = some [] then d.dropLast else d
theorem trim_pieces (l : List Int) : trimP (pieces l) = if (pfold l).2 = [] then (pfold l).1 else pieces l := by
  unfold trimP
  have e : (pieces l).getLast? = some (pfold l).2 := by unfold pieces; simp
  rw [e]
  by_cases h : (pfold l).2 = []
  · rw [if_pos (by rw [h]), if_pos h]; unfold pieces; simp
  · rw [if_neg (by simpa using h), if_neg h]
theorem if_neg' {b p x y : List Int} (h : b.head? ≠ some 47) : (if (b.head? == some 47 || p.isEmpty) = true then x else y) = if p.isEmpty = true then x else y := by
  have : (b.head? == some 47) = false := by simpa using h
  rw [this, Bool.false_or]
def duePart (ps : List (List (List Int))) (i : Nat) : List (List Int) := match ps[i]? with
  | some d => if d.getLast? = some [] ∧ i + 1 ≠ ps.length then d.dropLast else d
  | none => []
def dueFrom (ps : List (List (List Int))) (f : Nat) : Nat → List (List Int)
  | 0 => []
  | i + 1 => if f ≤ i then dueFrom ps f i ++ duePart ps i else []
theorem due_self (ps : List (List (List Int))) (f : Nat) : dueFrom ps f f = [] := by
  cases f with
  | zero => rfl
  | succ f => rw [dueFrom, if_neg (by omega)]
theorem due_succ {ps : List (List (List Int))} {f i : Nat} (h : f ≤ i) : dueFrom ps f (i + 1) = dueFrom ps f i ++ duePart ps i := by rw [dueFrom, if_pos h]
theorem pieces_ne (l : List Int) : pieces l ≠ [] := by unfold pieces; simp
theorem due_joins (cs : List (List Int)) (c0 : List Int) (cr : List (List Int)) (hc : cs = c0 :: cr) : ∀ (k f : Nat) (b : List Int), cs[k]? = some b → f ≤ k → (f = 0 ∨ ∃ c, cs[f]? = some c ∧ c.head? = some 47) → (∀ j c, j ≤ k → f < j → cs[j]? = some c → c.head? ≠ some 47) →
    pieces (joinL 47 c0 (cr.take k)) = dueFrom (cs.map pieces) f k ++ pieces b := by
  intro k
  induction k with
  | zero =>
    intro f b hb hf _ _
    obtain rfl : f = 0 := by omega
    subst hc
    cases hb
    rfl
  | succ k ih =>
    intro f b hb hf h0 hno
    have hb' : cr[k]? = some b := by subst hc; simpa using hb
    have hk : k < cs.length := by have := (List.getElem?_eq_some_iff.mp hb).1; omega
    have hk1 : k + 1 < cs.length := (List.getElem?_eq_some_iff.mp hb).1
    have hbk := List.getElem?_eq_getElem hk
    rw [take_snoc hb', joinL_snoc]
    by_cases hfk : f = k + 1
    · subst hfk
      have hs : b.head? = some 47 := by
        rcases h0 with h0 | ⟨c, hc1, hc2⟩
        · omega
        · rw [hb] at hc1; cases hc1; exact hc2
      rw [due_self]
      unfold jL
      rw [hs]; simp
    · have hfk' : f ≤ k := by omega
      have ih' := ih f _ hbk hfk' h0 fun j c hj => hno j c (by omega)
      have hns : b.head? ≠ some 47 := hno (k + 1) b (Nat.le_refl _) (by omega) hb
      rw [due_succ hfk']
      have ed : duePart (cs.map pieces) k = trimP (pieces cs[k]) := by
        unfold duePart trimP
        rw [List.getElem?_map, hbk]
        simp only [Option.map_some, List.length_map, ne_eq, show ¬ k + 1 = cs.length by omega, not_false_eq_true, and_true]
      rw [ed, trim_pieces]
      generalize hp : joinL 47 c0 (cr.take k) = p at ih'
      have eL : (pfold p).2 = (pfold cs[k]).2 := by
        have := congrArg List.getLast? ih'
        rw [pieces, pieces, ← List.append_assoc, List.getLast?_append, List.getLast?_append] at this
        simpa using this
      have eI : (pfold p).1 = dueFrom (cs.map pieces) f k ++ (pfold cs[k]).1 := by
        have := congrArg List.dropLast ih'
        rw [pieces, pieces, ← List.append_assoc] at this
        simpa using this
      unfold jL
      rw [if_neg' hns]
      by_cases hpe : p = []
      · subst hpe
        have e2 : (pfold cs[k]).2 = [] := by rw [← eL]; rfl
        rw [if_pos (by simp), if_pos e2]
        have e1 : ([] : List (List Int)) = dueFrom (cs.map pieces) f k ++ (pfold cs[k]).1 := eI
        rw [← e1, List.nil_append]
      · by_cases hl : p.getLast? = some 47
        · have e2 : (pfold p).2 = [] := (pfold_last p).mpr (.inr hl)
          rw [if_neg (by simpa using hpe), if_pos (by simp [hl]), if_pos (by rw [← eL]; exact e2), pieces_app p b e2, eI]
        · have e2 : ¬ (pfold p).2 = [] := fun q => by rcases (pfold_last p).mp q with q | q <;> contradiction
          rw [if_neg (by simpa using hpe), if_neg (by simpa using hl), if_neg (by rw [← eL]; exact e2), pieces_47, ih']
def firsts (ps : List (List (List Int))) (i : Nat) : List Int := ((List.range i).filter fun j => (ps[j]?.map fun d => decide (1 < d.length) && decide (d[0]? = some [])).getD false).map fun j : Nat => (j : Int)
theorem firsts_yes {ps : List (List (List Int))} {i : Nat} {d1 : List Int} {dr : List (List Int)} {zs : List Value} {t : Tok} (hx : ps[i]? = some (d1 :: dr)) (h1 : 1 < (d1 :: dr).length) (hs : decide (d1 = []) = true) (h : IntsAre zs (firsts ps i)) : IntsAre (zs ++ [.int (i : Int) t]) (firsts ps (i + 1)) := by
  have hd : d1 = [] := of_decide_eq_true hs
  subst hd
  unfold firsts
  rw [List.range_succ, List.filter_append, List.map_append]
  have e : (List.filter (fun j => (ps[j]?.map fun d => decide (1 < d.length) && decide (d[0]? = some [])).getD false) [i]) = [i] := by
    simp only [List.filter_cons, hx, Option.map_some, Option.getD_some, List.filter_nil]
    rw [decide_eq_true h1]; simp
  rw [e]
  exact ints_snoc h
theorem firsts_no {ps : List (List (List Int))} {i : Nat} {d1 : List Int} {dr : List (List Int)} {zs : List Value} (hx : ps[i]? = some (d1 :: dr)) (hs : ¬ 1 < (d1 :: dr).length ∨ decide (d1 = []) = false) (h : IntsAre zs (firsts ps i)) : IntsAre zs (firsts ps (i + 1)) := by
  unfold firsts
  rw [List.range_succ, List.filter_append, List.map_append]
  have e : (List.filter (fun j => (ps[j]?.map fun d => decide (1 < d.length) && decide (d[0]? = some [])).getD false) [i]) = [] := by
    simp only [List.filter_cons, hx, Option.map_some, Option.getD_some, List.filter_nil]
    rcases hs with hs | hs
    · rw [decide_eq_false hs]; simp
    · have : d1 ≠ [] := of_decide_eq_false hs
      simp [this]
  rw [e, List.map_nil, List.append_nil]
  exact h
theorem firsts_mem {ps : List (List (List Int))} {n : Nat} {x : Int} : x ∈ firsts ps n ↔ ∃ j : Nat, j < n ∧ x = (j : Int) ∧ ∃ d, ps[j]? = some d ∧ 1 < d.length ∧ d[0]? = some [] := by
  unfold firsts
  simp only [List.mem_map, List.mem_filter, List.mem_range]
  constructor
  · rintro ⟨j, ⟨hj, hc⟩, rfl⟩
    refine ⟨j, hj, rfl, ?_⟩
    cases hd : ps[j]? with
    | none => rw [hd] at hc; simp at hc
    | some d => rw [hd] at hc; simp at hc; exact ⟨d, rfl, by simpa using hc.1, by simpa using hc.2⟩
  · rintro ⟨j, hj, rfl, d, hd, h1, h2⟩
    exact ⟨j, ⟨hj, by rw [hd]; simp [h1, h2]⟩, rfl⟩
theorem due_all {cs : List (List Int)} {c0 : List Int} {cr : List (List Int)} (hc : cs = c0 :: cr) {f : Nat} (hm : f = 0 ∨ (f : Int) ∈ firsts (cs.map pieces) cs.length) (hub : ∀ x ∈ firsts (cs.map pieces) cs.length, x ≤ (f : Int)) :
    dueFrom (cs.map pieces) f cs.length = pieces (joinL 47 c0 cr) := by
  have hn : cs.length = cr.length + 1 := by rw [hc]; rfl
  have hst : ∀ (j : Nat) (c : List Int), cs[j]? = some c → c.head? = some 47 → (j : Int) ∈ firsts (cs.map pieces) cs.length := fun j c h1 h2 =>
    firsts_mem.mpr ⟨j, (List.getElem?_eq_some_iff.mp h1).1, rfl, _, by rw [List.getElem?_map, h1]; rfl, (starts_iff c).mpr h2⟩
  have h0 : f = 0 ∨ ∃ c, cs[f]? = some c ∧ c.head? = some 47 := by
    rcases hm with h | h
    · exact .inl h
    · obtain ⟨j, hj, e, d, hd, h1, h2⟩ := firsts_mem.mp h
      obtain rfl : f = j := by omega
      rw [List.getElem?_map] at hd
      obtain ⟨c, hc1, rfl⟩ := Option.map_eq_some_iff.mp hd
      exact .inr ⟨c, hc1, (starts_iff c).mp ⟨h1, h2⟩⟩
  have hf : f ≤ cr.length := by
    rcases h0 with h | ⟨c, h, _⟩
    · omega
    · have := (List.getElem?_eq_some_iff.mp h).1; omega
  have hk : cr.length < cs.length := by omega
  have hb := List.getElem?_eq_getElem hk
  have := due_joins cs c0 cr hc cr.length f _ hb hf h0 fun j c _ hj h1 h2 => by have := hub _ (hst j c h1 h2); omega
  rw [List.take_length] at this
  rw [this, hn, due_succ hf]
  congr 1
  unfold duePart
  rw [List.getElem?_map, hb]
  simp [hn]
theorem firsts_len (ps : List (List (List Int))) (n : Nat) : (firsts ps n).length ≤ n := by
  unfold firsts
  rw [List.length_map]
  have := List.length_filter_le (fun j => (ps[j]?.map fun d => decide (1 < d.length) && decide (d[0]? = some [])).getD false) (List.range n)
  rw [List.length_range] at this
  exact this
theorem part_keep {ps : List (List (List Int))} {i : Nat} {dr : List (List Int)} {dl : List Int} (h : ps[i]? = some (dr ++ [dl])) (hk : dl ≠ [] ∨ i + 1 = ps.length) : duePart ps i = dr ++ [dl] := by
  unfold duePart
  rw [h]
  refine if_neg fun q => ?_
  rcases hk with hk | hk
  · exact hk (by simpa using q.1)
  · exact q.2 hk
theorem part_drop {ps : List (List (List Int))} {i : Nat} {dr : List (List Int)} {dl : List Int} (h : ps[i]? = some (dr ++ [dl])) (hd : dl = []) (hk : i + 1 ≠ ps.length) : duePart ps i = dr := by
  unfold duePart
  rw [h]
  exact (if_pos ⟨by simp [hd], hk⟩).trans (by simp)
end
end Mine
namespace Mine
section
open PySem.Calls
def Cp (n : Int) : Prop := 1 ≤ n ∧ n ≤ 1114111
def PSt (P Kd : Addr) (nx : List (Addr × Obj)) (rs : List (List Int)) (r ks : List Int) : Prop :=
  ∃ vs a zs kvs c1 c2 c3 rest, nx = (Kd, lobj kvs c3) :: (P, lobj (vs ++ [.ref a]) c1) :: (a, lobj zs c2) :: rest ∧ Rows rest vs rs ∧ IntsAre zs r ∧ IntsAre kvs ks ∧ (∀ p ∈ rest, p.1 ≠ P ∧ p.1 ≠ a ∧ p.1 ≠ Kd) ∧ P ≠ a ∧ P ≠ Kd ∧ a ≠ Kd
structure PGood (rs : List (List Int)) (r ks : List Int) (z : Int) : Prop where
  len : ks.length = rs.length + 1
  kinds : ∀ k ∈ ks, k = 0 ∨ k = 1
  cps : ∀ row ∈ rs ++ [r], ∀ c ∈ row, Cp c
  size : ((lensL rs + r.length : Nat) : Int) ≤ z
  lo : 0 ≤ z
  hi : z ≤ 40
theorem PGood.start : PGood [] [] [0] 0 := ⟨rfl, by simp, by simp, by simp [lensL], by decide, by decide⟩
theorem PGood.row {rs : List (List Int)} {r ks : List Int} {z k : Int} (g : PGood rs r ks z) (hk : k = 0 ∨ k = 1) (hz : z < 40) : PGood (rs ++ [r]) [] (ks ++ [k]) (z + 1) :=
  ⟨by simp [g.len], all_snoc g.kinds hk, fun row hr => by
    rcases List.mem_append.mp hr with hr | hr
    · exact g.cps row hr
    · rw [List.mem_singleton.mp hr]; exact fun c hc => (nomatch hc), by
    have := g.size
    rw [lensL_snoc]; simp; omega, by have := g.lo; omega, by omega⟩
theorem PGood.sign {rs : List (List Int)} {r ks : List Int} {z c : Int} (g : PGood rs r ks z) (hc : Cp c) (hz : z < 40) : PGood rs (r ++ [c]) ks (z + 1) :=
  ⟨g.len, g.kinds, fun row hr => by
    rcases List.mem_append.mp hr with hr | hr
    · exact g.cps row (List.mem_append_left _ hr)
    · rw [List.mem_singleton.mp hr]; exact all_snoc (g.cps r (by simp)) hc, by
    have := g.size
    rw [List.length_append]; simp; omega, by have := g.lo; omega, by omega⟩
section
variable {h₀ h h' : Heap} {L P Kd a n : Addr} {own rest l l' : List (Addr × Obj)} {oK oP oA oP' oK' oA' on : Obj}
theorem led_upd {o o' : Obj} (N : News h₀ L h l) (ha : (a, o) ∈ l) (hA : h'.get? a = some o') (hk : ∀ b o, b ≠ a → h.get? b = some o → h'.get? b = some o) (hl : ∀ p ∈ l', p = (a, o') ∨ (p ∈ l ∧ p.1 ≠ a)) : News h₀ L h' l' := fun p hp => by
  rcases hl p hp with rfl | ⟨q, ne⟩
  · exact ⟨hA, (N _ ha).2⟩
  · exact ⟨hk _ _ ne (N p q).1, (N p q).2⟩
theorem st_row (N : News h₀ L h ((n, on) :: (own ++ ((Kd, oK) :: (P, oP) :: (a, oA) :: rest)))) (hP : h'.get? P = some oP') (hk : ∀ b o, b ≠ P → h.get? b = some o → h'.get? b = some o)
    (lt : ∀ p ∈ own ++ ((Kd, oK) :: (P, oP) :: (a, oA) :: rest), p.1 < n) (hown : ∀ p ∈ own, p.1 ≠ P) (hr : ∀ p ∈ rest, p.1 ≠ P) (d1 : P ≠ Kd) (d2 : P ≠ a) :
    News h₀ L h' (own ++ ((Kd, oK) :: (P, oP') :: (n, on) :: (a, oA) :: rest)) := by
  have ltP : P < n := lt (P, oP) (by simp)
  refine led_upd (o := oP) N (by simp) hP hk fun p hp => ?_
  rcases List.mem_append.mp hp with hp | hp
  · exact .inr ⟨by simp [hp], hown p hp⟩
  rcases List.mem_cons.mp hp with rfl | hp
  · exact .inr ⟨by simp, Ne.symm d1⟩
  rcases List.mem_cons.mp hp with rfl | hp
  · exact .inl rfl
  rcases List.mem_cons.mp hp with rfl | hp
  · exact .inr ⟨by simp, Nat.ne_of_gt ltP⟩
  rcases List.mem_cons.mp hp with rfl | hp
  · exact .inr ⟨by simp, Ne.symm d2⟩
  · exact .inr ⟨by simp [hp], hr p hp⟩
theorem st_kind (N : News h₀ L h (own ++ ((Kd, oK) :: rest))) (hK : h'.get? Kd = some oK') (hk : ∀ b o, b ≠ Kd → h.get? b = some o → h'.get? b = some o)
    (hown : ∀ p ∈ own, p.1 ≠ Kd) (hr : ∀ p ∈ rest, p.1 ≠ Kd) : News h₀ L h' (own ++ ((Kd, oK') :: rest)) := by
  refine led_upd (o := oK) N (by simp) hK hk fun p hp => ?_
  rcases List.mem_append.mp hp with hp | hp
  · exact .inr ⟨by simp [hp], hown p hp⟩
  rcases List.mem_cons.mp hp with rfl | hp
  · exact .inl rfl
  · exact .inr ⟨by simp [hp], hr p hp⟩
theorem st_sign (N : News h₀ L h (own ++ ((Kd, oK) :: (P, oP) :: (a, oA) :: rest))) (hA : h'.get? a = some oA') (hk : ∀ b o, b ≠ a → h.get? b = some o → h'.get? b = some o)
    (hown : ∀ p ∈ own, p.1 ≠ a) (hr : ∀ p ∈ rest, p.1 ≠ a) (d1 : a ≠ Kd) (d2 : P ≠ a) : News h₀ L h' (own ++ ((Kd, oK) :: (P, oP) :: (a, oA') :: rest)) := by
  refine led_upd (o := oA) N (by simp) hA hk fun p hp => ?_
  rcases List.mem_append.mp hp with hp | hp
  · exact .inr ⟨by simp [hp], hown p hp⟩
  rcases List.mem_cons.mp hp with rfl | hp
  · exact .inr ⟨by simp, Ne.symm d1⟩
  rcases List.mem_cons.mp hp with rfl | hp
  · exact .inr ⟨by simp, d2⟩
  rcases List.mem_cons.mp hp with rfl | hp
  · exact .inl rfl
  · exact .inr ⟨by simp [hp], hr p hp⟩
end
theorem pst_row {P Kd a n : Addr} {own rest : List (Addr × Obj)} {oK oP oA : Obj} {vs zs kvs : List Value} {rs : List (List Int)} {r ks : List Int} {c1 c2 c3 c4 : Nat} (hr : Rows rest vs rs) (hz : IntsAre zs r) (hk : IntsAre kvs ks) (hd : ∀ p ∈ rest, p.1 ≠ P ∧ p.1 ≠ a ∧ p.1 ≠ Kd) (d1 : P ≠ a) (d2 : P ≠ Kd) (d3 : a ≠ Kd)
    (lt : ∀ p ∈ own ++ ((Kd, oK) :: (P, oP) :: (a, oA) :: rest), p.1 < n) : PSt P Kd ((Kd, lobj kvs c1) :: (P, lobj (vs ++ [.ref a] ++ [.ref n]) c2) :: (n, lobj [] c3) :: (a, lobj zs c4) :: rest) (rs ++ [r]) [] ks :=
  ⟨vs ++ [.ref a], n, [], kvs, c2, c3, c1, _, rfl, alsnoc (hr.sub fun p hp => .tail _ hp) ⟨a, c4, zs, rfl, .head _, hz⟩, .nil, hk, fun p hp => by
    rcases List.mem_cons.mp hp with rfl | hp
    · exact ⟨Ne.symm d1, Nat.ne_of_lt (lt (a, oA) (by simp)), d3⟩
    · exact ⟨(hd p hp).1, Nat.ne_of_lt (lt p (by simp [hp])), (hd p hp).2.2⟩, Nat.ne_of_lt (lt (P, oP) (by simp)), d2, Nat.ne_of_gt (lt (Kd, oK) (by simp))⟩
theorem off_row {Z : Addr → Prop} {P Kd a n : Addr} {rest : List (Addr × Obj)} {oK oP oA oK' oP' oA' on : Obj} (h : ∀ p ∈ (Kd, oK) :: (P, oP) :: (a, oA) :: rest, Z p.1) (hn : Z n) : ∀ p ∈ (Kd, oK') :: (P, oP') :: (n, on) :: (a, oA') :: rest, Z p.1 := fun p hp => by
  rcases List.mem_cons.mp hp with rfl | hp
  · exact h (Kd, oK) (by simp)
  rcases List.mem_cons.mp hp with rfl | hp
  · exact h (P, oP) (by simp)
  rcases List.mem_cons.mp hp with rfl | hp
  · exact hn
  rcases List.mem_cons.mp hp with rfl | hp
  · exact h (a, oA) (by simp)
  · exact h p (by simp [hp])
theorem off_sign {Z : Addr → Prop} {P Kd a : Addr} {rest : List (Addr × Obj)} {oK oP oA oK' oP' oA' : Obj} (h : ∀ p ∈ (Kd, oK) :: (P, oP) :: (a, oA) :: rest, Z p.1) : ∀ p ∈ (Kd, oK') :: (P, oP') :: (a, oA') :: rest, Z p.1 := fun p hp => by
  rcases List.mem_cons.mp hp with rfl | hp
  · exact h (Kd, oK) (by simp)
  rcases List.mem_cons.mp hp with rfl | hp
  · exact h (P, oP) (by simp)
  rcases List.mem_cons.mp hp with rfl | hp
  · exact h (a, oA) (by simp)
  · exact h p (by simp [hp])
theorem cp_menu {k : Int} (h0 : k ≠ 0) (h1 : 0 ≤ k) (h9 : k < 9) : Cp (([47, 46, 97, 47, 46, 98, 47, 46] : List Int).getD (k - 1).toNat 0) := by
  have : k = 1 ∨ k = 2 ∨ k = 3 ∨ k = 4 ∨ k = 5 ∨ k = 6 ∨ k = 7 ∨ k = 8 := by omega
  rcases this with rfl | rfl | rfl | rfl | rfl | rfl | rfl | rfl <;> exact ⟨by decide, by decide⟩
theorem fresh_off {h₀ h : Heap} {L n I Ls : Addr} {o : Obj} {l l' own : List (Addr × Obj)} {vs : Array Value} (N : News h₀ L h ((n, o) :: l)) (hI : ∃ o, (I, o) ∈ own) (lt : ∀ p ∈ own ++ l', p.1 < n) (hl : h₀.IsList Ls vs) : n ∉ [I] ∧ n ≠ Ls :=
  ⟨fun q => by
    obtain ⟨o, ho⟩ := hI
    exact Nat.lt_irrefl _ (List.mem_singleton.mp q ▸ lt _ (List.mem_append_left _ ho)), fun q => by
    obtain ⟨o, e, _⟩ := hl
    have := (N _ (.head _)).2.2
    rw [q, e] at this; cases this⟩
structure RGood (rs : List (List Int)) (ks : List Int) : Prop where
  len : ks.length = rs.length
  pos : 0 < rs.length
  kinds : ∀ k ∈ ks, k = 0 ∨ k = 1
  cps : ∀ row ∈ rs, ∀ c ∈ row, Cp c
  size : lensL rs ≤ 41
theorem PGood.done {rs : List (List Int)} {r ks : List Int} {z : Int} (g : PGood rs r ks z) : RGood (rs ++ [r]) ks :=
  ⟨by rw [g.len]; simp, by simp, g.kinds, g.cps, by have := g.size; have := g.hi; rw [lensL_snoc]; omega⟩
end
end Mine
namespace Mine
section
open PySem.Calls
open LCg
section
variable {prog : Program} {w : World} {A : Around} {E : Value → Shared → Prop} {s : Shared} {env : Env} {h₀ : Heap}
theorem forLoop_T {R : Result → Shared → Prop} {E₀ : Value → Shared → Prop} {Qn : Flow → Shared → Prop} {target : Expr} {body : List Stmt} {I : Addr} {fp wr : List Addr} {n : Nat} {P : Nat → Value → Prop} {St : Nat → Heap → Prop} {m : Str → Option Value}
    {news : List (Addr × Obj)} (J : Nat → (Str → Option Value) → List (Addr × Obj) → Prop) (W : Walks prog w A I fp wr n P St)
    (hLf : env.locals ∉ fp) (hwr : ∀ b ∈ wr, h₀.get? b = none) (hnw : ∀ p ∈ news, p.1 ∉ wr)
    (hst : St 0 s.heap) (F : Fr h₀ env.locals s.heap m) (N : News h₀ env.locals s.heap news) (hJ₀ : J 0 m news)
    (hgo : ∀ i v (s' : Shared) (Q' : Unit → Shared → Prop) (E' : Value → Shared → Prop), P i v → St (i + 1) s'.heap → Q' () s' → wpAny (model prog w) A (letOwnedTupleGo target (.ref I) v) Q' E' s')
    (turn : ∀ i v m₁ nx h tk own, i < n → P i v → (∀ p ∈ own, p.1 ∈ fp) → (∀ b ∈ wr, ∀ o, h.get? b = some o → (b, o) ∈ own) → St (i + 1) h → (∀ p ∈ nx, p.1 ∉ wr) → J i m₁ nx → Fr h₀ env.locals h m₁ → News h₀ env.locals h (own ++ nx) →
      wpAny (model prog w) A (assign target env v) (fun _ s₂ => wpAny (model prog w) A (execs body env) (TurnEnd h₀ env.locals wr own (J (i + 1)) s Qn) E₀ s₂) E₀ { s with heap := h, toks := tk })
    (hE : ∀ e s', E₀ e s' → notedBy (model prog w) A env (fun e s' => R (.error e) s') e s')
    (hQ : ∀ f s', Qn f s' → R (.ok f) s')
    (done : ∀ m₁ nx h tk, J n m₁ nx → Fr h₀ env.locals h m₁ → News h₀ env.locals h nx → R (.ok .next) { s with heap := h, toks := tk }) :
    codeAny (model prog w) A (.forLoop target (.ref I) body [] env) R s := by
  have hLw : env.locals ∉ wr := fun h => hLf (W.sub _ h)
  have old : ∀ b o, h₀.get? b = some o → b ∉ wr := fun b o e hb => by rw [hwr b hb] at e; cases e
  refine codeAny_forLoop_any
    (fun k s' => ∃ h' tk m' nx i, s' = { s with heap := h', toks := tk } ∧ St i h' ∧ Fr h₀ env.locals h' m' ∧ News h₀ env.locals h' nx ∧ (∀ p ∈ nx, p.1 ∉ wr) ∧ J i m' nx ∧ i ≤ n ∧ k = n + 1 - i) ?_ (n + 1)
    ⟨s.heap, s.toks, m, news, 0, rfl, hst, F, N, hnw, hJ₀, Nat.zero_le _, rfl⟩
  rintro k s' ⟨h', tk, m', nx, i, rfl, hst', F', N', off', hJ, hi, rfl⟩
  have next : ∀ h₁ : Heap, (∀ b o, b ∉ wr → h'.get? b = some o → h₁.get? b = some o) → Fr h₀ env.locals h₁ m' ∧ News h₀ env.locals h₁ nx := fun h₁ hk₁ =>
    ⟨⟨F'.ns.at' fun o e => hk₁ _ o hLw e, fun b o e => hk₁ b o (old b o e) (F'.keep b o e), F'.above⟩, fun p hp => ⟨hk₁ _ _ (off' p hp) (N' p hp).1, (N' p hp).2⟩⟩
  by_cases hlt : i < n
  · refine W.item i _ _ _ hlt hst' fun v h₁ tk₁ hP hst₁ hk₁ => ?_
    obtain ⟨F₁, N₁⟩ := next h₁ hk₁
    have hown : ∀ p ∈ ownOf h₀ h₁ fp, p.1 ∈ fp := fun p hp => (ownOf_out hp).1
    have N₂ : News h₀ env.locals h₁ (ownOf h₀ h₁ fp ++ nx) := fun p hp => by
      rcases List.mem_append.mp hp with hp | hp
      · obtain ⟨a, b, c⟩ := ownOf_out hp
        exact ⟨c, fun q => hLf (q ▸ a), b⟩
      · exact N₁ p hp
    dsimp only
    refine hgo i v _ _ _ hP hst₁ ?_
    refine wpAny_mono (turn i v m' nx h₁ tk₁ (ownOf h₀ h₁ fp) hlt hP hown (fun b hb o e => ownOf_in (W.sub b hb) (hwr b hb) e) hst₁ off' hJ F₁ N₂) (fun _ s₂ h₂ => wpAny_mono h₂ (fun f s₃ h₃ => ?_) hE) hE
    have step : (∃ h' tk m' nx', s₃ = { s with heap := h', toks := tk } ∧ Fr h₀ env.locals h' m' ∧ News h₀ env.locals h' (ownOf h₀ h₁ fp ++ nx') ∧ (∀ p ∈ nx', p.1 ∉ wr) ∧ J (i + 1) m' nx') →
        ∃ m, m < n + 1 - i ∧ ∃ h' tk m' nx i, s₃ = { s with heap := h', toks := tk } ∧ St i h' ∧ Fr h₀ env.locals h' m' ∧ News h₀ env.locals h' nx ∧ (∀ p ∈ nx, p.1 ∉ wr) ∧ J i m' nx ∧ i ≤ n ∧ m = n + 1 - i := by
      rintro ⟨g₃, tk₃, m₃, nx₃, e₃, F₃, N₃, off₃, hJ₃⟩
      refine ⟨n + 1 - (i + 1), by omega, g₃, tk₃, m₃, nx₃, i + 1, e₃, ?_, F₃, fun p hp => N₃ p (List.mem_append_right _ hp), off₃, hJ₃, hlt, rfl⟩
      refine W.frame _ _ _ hst₁ fun b hb o e => ?_
      cases hn : h₀.get? b with
      | some o₀ =>
        have : o₀ = o := by have := F₁.keep b o₀ hn; rw [e] at this; exact (Option.some.inj this).symm
        exact this ▸ F₃.keep b o₀ hn
      | none => exact (N₃ _ (List.mem_append_left _ (ownOf_in hb hn e))).1
    cases f with
    | ret v => exact hQ _ _ h₃
    | brk => exact hQ _ _ h₃
    | cont => exact step h₃
    | next => exact step h₃
  · obtain rfl : i = n := Nat.le_antisymm hi (Nat.not_lt.mp hlt)
    refine W.done _ _ _ hst' fun h₁ tk₁ hk₁ => wpAny_execs_nil ?_
    obtain ⟨F₁, N₁⟩ := next h₁ hk₁
    exact done _ _ _ _ hJ F₁ N₁
def LoopT (prog : Program) (w : World) (A : Around) (env : Env) (target : Expr) (body : List Stmt) (Q : Flow → Shared → Prop) (E : Value → Shared → Prop) (xv : Value) (s₁ : Shared) : Prop :=
  wpAny (model prog w) A (pyIter xv) (fun it s₂ => codeAny (model prog w) A (.forLoop target it body [] env) (fun r s' => match r with | .ok f => Q f s' | .error e => cameBackBy (model prog w) A env E e s') s₂) E s₁
theorem For_T {target iter : Expr} {body : List Stmt} {pos : Pos} {Q : Flow → Shared → Prop} (h : wpAny (model prog w) A (eval iter env) (LoopT prog w A env target body Q E) E s)
    (hs : ∀ x, foldedSetIterable iter env x = pure x := by intro _; rfl) : wpAny (model prog w) A (exec (.For target iter body [] pos) env) Q E s := wpAny_For h hs
theorem rangeT {target : Expr} {body : List Stmt} {Q : Flow → Shared → Prop} {n : Nat} {t : Tok} {m₀ : Str → Option Value} {news : List (Addr × Obj)} (J : List (Addr × Obj) → (Str → Option Value) → Nat → (Str → Option Value) → List (Addr × Obj) → Prop)
    (hh : A.handled = none) (F : Fr h₀ env.locals s.heap m₀) (N : News h₀ env.locals s.heap news) (hz : n ≤ sizeLine) (hj : J news m₀ 0 m₀ news) (hgo : ∀ a v, letOwnedTupleGo target (.ref a) v = pure ())
    (turn : ∀ I i tv m₁ nx h tk own, i < n → (∃ o, (I, o) ∈ own) → (∀ p ∈ own, p.1 = I) → (∀ p ∈ nx, p.1 ∉ [I]) → J news m₀ i m₁ nx → Fr h₀ env.locals h m₁ → News h₀ env.locals h (own ++ nx) →
      wpAny (model prog w) A (assign target env (.int (i : Int) tv)) (fun _ s₂ => wpAny (model prog w) A (execs body env) (TurnEnd h₀ env.locals [I] own (J news m₀ (i + 1)) s Q) E s₂) E { s with heap := h, toks := tk })
    (done : ∀ m₁ nx h tk, J news m₀ n m₁ nx → Fr h₀ env.locals h m₁ → News h₀ env.locals h nx → Q .next { s with heap := h, toks := tk })
    (hE : PassesOwn (model prog w) A env E := by passes_own) :
    wpAny (model prog w) A (call (.type "range") [.int (n : Int) t]) (LoopT prog w A env target body Q E) E s := by
  refine range1_rows F N fun h' tk t₁ u₁ v₁ R F' N' _ => ?_
  refine wpAny_pyIter_range R (range_small hz) ?_
  refine forLoop_T (E₀ := E) (Qn := Q) (J news m₀) (range_walks (prog := prog) (w := w) hh 0 n) ?_ ?_ ?_ (by show IsRangeIter _ _ _ _ _; rw [range_len]; simpa using Heap.get?_push_size _ rfl) (F'.push _) (fun p hp => ⟨Heap.get?_push_of_some _ (N' p hp).1, (N' p hp).2⟩) hj (fun i v s' Q' E' _ _ q => wpAny_of_eq (hgo _ v) q) ?_ ?_ (fun f s' q => q) ?_
  · intro hm; exact absurd F'.ns.lt ((List.mem_singleton.mp hm) ▸ Nat.lt_irrefl _)
  · intro b hb; rw [List.mem_singleton.mp hb]; exact next_is_new F'
  · intro p hp hI; exact absurd (Heap.lt_size (N' p hp).1) ((List.mem_singleton.mp hI) ▸ Nat.lt_irrefl _)
  · rintro i v m₁ nx h tk own hi ⟨tv, rfl⟩ hown hwr hst off hJ F₁ N₁
    rw [Int.zero_add]
    exact turn _ i tv m₁ nx h tk own hi ⟨_, hwr _ (.head _) _ hst⟩ (fun p hp => List.mem_singleton.mp (hown p hp)) off hJ F₁ N₁
  · exact hE
  · exact fun m₁ nx h tk hJ F₁ N₁ => done m₁ nx h tk hJ F₁ N₁
theorem TurnEnd.own {L I : Addr} {oI : Obj} {own : List (Addr × Obj)} {J : (Str → Option Value) → List (Addr × Obj) → Prop} {Q : Flow → Shared → Prop} {f : Flow} {s₂ : Shared} (hown : ∀ p ∈ own, p = (I, oI)) (h : TurnEnd h₀ L [I] [(I, oI)] J s Q f s₂) : TurnEnd h₀ L [I] own J s Q f s₂ := by
  have key : (∃ h' tk m' nx, s₂ = { s with heap := h', toks := tk } ∧ Fr h₀ L h' m' ∧ News h₀ L h' ([(I, oI)] ++ nx) ∧ (∀ p ∈ nx, p.1 ∉ [I]) ∧ J m' nx) →
      ∃ h' tk m' nx, s₂ = { s with heap := h', toks := tk } ∧ Fr h₀ L h' m' ∧ News h₀ L h' (own ++ nx) ∧ (∀ p ∈ nx, p.1 ∉ [I]) ∧ J m' nx := by
    rintro ⟨h', tk, m', nx, e, F, N, off, hJ⟩
    refine ⟨h', tk, m', nx, e, F, fun p hp => ?_, off, hJ⟩
    rcases List.mem_append.mp hp with hp | hp
    · rw [hown p hp]; exact N _ (.head _)
    · exact N _ (.tail _ hp)
  cases f with
  | ret v => exact h
  | brk => exact h
  | cont => exact key h
  | next => exact key h
theorem rangeU {target : Expr} {body : List Stmt} {Q : Flow → Shared → Prop} {n : Nat} {t : Tok} {m₀ : Str → Option Value} {news : List (Addr × Obj)} (J : List (Addr × Obj) → (Str → Option Value) → Nat → (Str → Option Value) → List (Addr × Obj) → Prop)
    (hh : A.handled = none) (F : Fr h₀ env.locals s.heap m₀) (N : News h₀ env.locals s.heap news) (hz : n ≤ sizeLine) (hj : J news m₀ 0 m₀ news) (hgo : ∀ a v, letOwnedTupleGo target (.ref a) v = pure ())
    (turn : ∀ I oI i tv m₁ nx h tk, i < n → (∀ p ∈ nx, p.1 ≠ I) → J news m₀ i m₁ nx → Fr h₀ env.locals h m₁ → News h₀ env.locals h ((I, oI) :: nx) →
      wpAny (model prog w) A (assign target env (.int (i : Int) tv)) (fun _ s₂ => wpAny (model prog w) A (execs body env) (TurnEnd h₀ env.locals [I] [(I, oI)] (J news m₀ (i + 1)) s Q) E s₂) E { s with heap := h, toks := tk })
    (done : ∀ m₁ nx h tk, J news m₀ n m₁ nx → Fr h₀ env.locals h m₁ → News h₀ env.locals h nx → Q .next { s with heap := h, toks := tk })
    (hE : PassesOwn (model prog w) A env E := by passes_own) :
    wpAny (model prog w) A (call (.type "range") [.int (n : Int) t]) (LoopT prog w A env target body Q E) E s :=
  rangeT J hh F N hz hj hgo (fun I i tv m₁ nx h tk own hi hI hown off hJ F₁ N₁ => by
    obtain ⟨oI, ho⟩ := hI
    have eI := (N₁ _ (List.mem_append_left _ ho)).1
    refine wpAny_mono (turn I oI i tv m₁ nx h tk hi (fun p hp q => off p hp (List.mem_singleton.mpr q)) hJ F₁ fun p hp => ?_) (fun _ s₂ h₂ => wpAny_mono h₂ (fun f s₃ h₃ => TurnEnd.own (fun p hp => ?_) h₃) fun _ _ e => e) fun _ _ e => e
    · rcases List.mem_cons.mp hp with rfl | hp
      · exact N₁ _ (List.mem_append_left _ ho)
      · exact N₁ _ (List.mem_append_right _ hp)
    · have e1 := (N₁ _ (List.mem_append_left _ hp)).1
      have e2 := hown p hp
      obtain ⟨a, o⟩ := p
      dsimp only at e1 e2
      subst e2
      rw [eI] at e1
      have e3 : oI = o := Option.some.inj e1
      rw [e3]) done hE
end
end
end Mine
namespace Mine
set_option maxHeartbeats 8000000 in
open_top hd for PySem.Challenge.rw_ko0128_02
end Mine
namespace Mine
open PySem.Calls
section
local macro_rules | `(tactic| k_room) => `(tactic| ((try simp only [depth_under_make, depth_under_kw, depth_in1, depth_deeper]); (try unfold recursionLimit); omega))
local macro_rules | `(tactic| walk_at "MY top") => `(tactic| first | assumption | exact Top.keeps (by assumption) (Fr.keep (by assumption)))
local macro_rules | `(tactic| walk_at "MY enter") => `(tactic| (refine wpAny_call ?_; (refine' enterK ?k1 ?k2 ?k3 ?k4 ?k5 ?k6 ?k7 ?_ ?k8 ?k9 ?k10 ?k11; (case k1 => assumption); (case k2 => assumption); (case k3 => k_room); (case k4 => k_is); (case k5 => k_is); (case k6 => first | exact BindsTo.of_eq rfl | exact binds_K (by k_in) rfl (by k_is) rfl rfl rfl); (case k7 => exact locs rfl); (case k8 => decide); (case k9 => exact rfl); (case k10 => exact rfl); (case k11 => exact rfl); k_whole; intro L' h' F' N'; (try dsimp only); (try k_fold))))
local macro_rules | `(tactic| walk_at "call type:type") => `(tactic| (k_here; (with_reducible show wpAny _ _ (call (Value.type "type") [Value.bytes _ _]) _ _ _); refine call_type_of (Tx := "bytes") rfl (by decide) ?_))
local macro_rules | `(tactic| walk_at "call builtin:issubclass") => `(tactic| (k_here; refine call_isub (by first | exact .inl rfl | exact .inr rfl) (News.get (by k_asm) (by k_mem)) ?_))
local macro_rules | `(tactic| walk_at "MY same") => `(tactic| (intro y hy; (try dsimp only); repeat (first | exact rfl | (refine (if_neg ?h).trans ?_; (case h => first | (intro e; subst e; exact absurd hy (by decide)) | (intro e; rw [hy] at e; cases e))))))
local macro_rules | `(tactic| walk_at "assign Tuple") => `(tactic| (k_here; (with_reducible show wpAny _ _ (assign (Expr.Tuple _ _ _) _ (Value.ref _)) _ _ _); k_dflt (refine' kun_list ?k1 ?k2 ?k3 ?k4 ?k5 ?k6 ?_; (case k1 => k_asm); (case k2 => k_asm); (case k3 => kun_lst); (case k4 => first | exact rfl | assumption); (case k5 => exact rfl); (case k6 => exact rfl); k_whole); intro h' F' N'; (try k_sweep)))
local macro_rules | `(tactic| walk_at "assign Tuple") => `(tactic| (k_here; (with_reducible show wpAny _ _ (assign (Expr.Tuple _ _ _) _ (Value.ref _)) _ _ _); k_dflt (refine' unpackN_ ?k1 ?k2 ?k3 ?k4 ?k5 ?k6 ?_; (case k1 => k_asm); (case k2 => k_asm); (case k3 => kun_tup); (case k4 => first | exact rfl | assumption); (case k5 => exact rfl); (case k6 => exact rfl); k_whole); intro h' F' N'; (try k_sweep)))
local macro_rules | `(tactic| walk_at "MY hideT") => `(tactic| (refine hide_post (m := execs _ _) ?_; intro kTE kTEh))
local macro_rules | `(tactic| walk_at "MY hideW") => `(tactic| (intro kWT kWZ kWTh kWZh))
local macro_rules | `(tactic| walk_at "MY showT") => `(tactic| (rename Hid (TurnEnd _ _ _ _ _ _ _) _ => kTEh; refine kTEh _ _ ?_))
local macro_rules | `(tactic| walk_at "MY showW") => `(tactic| (rename Hid (WTurn _ _ _ _ _ _) _ => kWTh; refine kWTh _ _ ?_))
local macro_rules | `(tactic| walk_at "MY showZ") => `(tactic| (rename (∀ s : Shared, _ → _) => kWZh; refine kWZh _ ?_))
section
theorem fill_B1 (w : World) (h : Heap) : PySem.Challenge.rw_ko0128_02.Holds → (Mine.hd.heap_39 w.params).In h → True := by
  w_top off
  k_fill
  intros; trivial
set_option maxHeartbeats 8000000
section
variable {w : World} {A : Around} {mg mb : Str → Option Value} {mean : ExcName → Option Value} {loose : List Str} {s : Shared} {Q : Value → Shared → Prop} {E : Value → Shared → Prop}
theorem fspath_str {x : Str} {t : Tok} (X : (Mine.hd.heap_39 w.params).In s.heap) (T : Top Mine.hd.view_39 loose mean mg mb s.heap) (hd : A.depth ≤ 560)
    (h : ∀ h' tk, Kp s.heap h' → Q (.str x t) { s with heap := h', toks := tk }) : wpAny (model PySem.Challenge.rw_ko0128_02.row.prog w) A (call (.ref 94) [.str x t]) Q E s := by
  walk_at "MY enter"
  k_steps
  exact h _ _ (Fr.keep (by k_asm))
theorem fspath_bytes {x : Array UInt8} {t : Tok} (X : (Mine.hd.heap_39 w.params).In s.heap) (T : Top Mine.hd.view_39 loose mean mg mb s.heap) (hd : A.depth ≤ 560)
    (h : ∀ h' tk, Kp s.heap h' → Q (.bytes x t) { s with heap := h', toks := tk }) : wpAny (model PySem.Challenge.rw_ko0128_02.row.prog w) A (call (.ref 94) [.bytes x t]) Q E s := by
  walk_at "MY enter"
  k_steps
  exact h _ _ (Fr.keep (by k_asm))
theorem getsep_str {x : Str} {t : Tok} (X : (Mine.hd.heap_39 w.params).In s.heap) (T : Top Mine.hd.view_39 loose mean mg mb s.heap) (hd : A.depth ≤ 560)
    (h : ∀ h' tk u, Kp s.heap h' → Q (.str (Str.ofString "/") u) { s with heap := h', toks := tk }) : wpAny (model PySem.Challenge.rw_ko0128_02.row.prog w) A (call (.ref 108) [.str x t]) Q E s := by
  walk_at "MY enter"
  k_steps
  exact h _ _ _ (Fr.keep (by k_asm))
theorem getsep_bytes {x : Array UInt8} {t : Tok} (X : (Mine.hd.heap_39 w.params).In s.heap) (T : Top Mine.hd.view_39 loose mean mg mb s.heap) (hd : A.depth ≤ 560)
    (h : ∀ h' tk u, Kp s.heap h' → Q (.bytes #[47] u) { s with heap := h', toks := tk }) : wpAny (model PySem.Challenge.rw_ko0128_02.row.prog w) A (call (.ref 108) [.bytes x t]) Q E s := by
  walk_at "MY enter"
  k_steps
  exact h _ _ _ (Fr.keep (by k_asm))
end
end
section
local macro_rules | `(tactic| walk_at "MY back") => `(tactic| (rename Fr _ _ _ _ => kF'; rename News _ _ _ _ => kN'; rename Kp _ _ => hk'; replace kF' := Fr.grownK kF' hk'; replace kN' := News.grown kN' hk'; clear hk'))
local macro_rules | `(tactic| walk_at "MY prem") => `(tactic| ((case X => k_in); (case T => walk_at "MY top"); (case d => k_room); k_whole))
local macro_rules | `(tactic| walk_at "call ref") => `(tactic| (k_here; (with_reducible show wpAny _ _ (call (Value.ref 94) [Value.str _ _]) _ _ _); refine' fspath_str ?X ?T ?d ?_; walk_at "MY prem"; intro h' tk' hk'; walk_at "MY back"))
local macro_rules | `(tactic| walk_at "call ref") => `(tactic| (k_here; (with_reducible show wpAny _ _ (call (Value.ref 94) [Value.bytes _ _]) _ _ _); refine' fspath_bytes ?X ?T ?d ?_; walk_at "MY prem"; intro h' tk' hk'; walk_at "MY back"))
local macro_rules | `(tactic| walk_at "call ref") => `(tactic| (k_here; (with_reducible show wpAny _ _ (call (Value.ref 108) [Value.str _ _]) _ _ _); refine' getsep_str ?X ?T ?d ?_; walk_at "MY prem"; intro h' tk' u' hk'; walk_at "MY back"))
local macro_rules | `(tactic| walk_at "call ref") => `(tactic| (k_here; (with_reducible show wpAny _ _ (call (Value.ref 108) [Value.bytes _ _]) _ _ _); refine' getsep_bytes ?X ?T ?d ?_; walk_at "MY prem"; intro h' tk' u' hk'; walk_at "MY back"))
section
theorem fill_B2 (w : World) (h : Heap) : PySem.Challenge.rw_ko0128_02.Holds → (Mine.hd.heap_39 w.params).In h → True := by
  w_top off
  k_fill
  intros; trivial
set_option maxHeartbeats 8000000
section
variable {w : World} {A : Around} {mg mb : Str → Option Value} {mean : ExcName → Option Value} {loose : List Str} {s : Shared} {Q : Value → Shared → Prop} {E : Value → Shared → Prop}
theorem join_str {x : Str} {t : Tok} {vs : List Value} {xs : List Str} (X : (Mine.hd.heap_39 w.params).In s.heap) (T : Top Mine.hd.view_39 loose mean mg mb s.heap) (hd : A.depth ≤ 550) (hh : A.handled = none)
    (hv : Al RStr vs xs) (hz : x.length + lens xs ≤ 1000000) 
    (h : ∀ h' tk u, Kp s.heap h' → Q (.str (joinS x xs) u) { s with heap := h', toks := tk }) : wpAny (model PySem.Challenge.rw_ko0128_02.row.prog w) A (call (.ref 115) (.str x t :: vs)) Q E s := by
  have hlen : vs.length ≤ sizeLine := by have := lens_ge xs; rw [hv.1, sizeLine_eq]; omega
  refine wpAny_call ?_
  (refine' enterR (vs := vs) ?k1 ?k2 ?k3 ?k4 ?k5 ?k6 hlen ?k7 ?_ ?k8 ?k9 ?k10 ?k11; (case k1 => assumption); (case k2 => assumption); (case k3 => k_room); (case k4 => k_is); (case k5 => k_is); (case k6 => exact bind_rest1); (case k7 => intro D; exact locs rfl); (case k8 => decide); (case k9 => exact rfl); (case k10 => exact rfl); (case k11 => exact rfl); k_whole; intro D L' h' hDL F' N'; (try dsimp only); (try k_fold))
  k_steps
  rename Fr _ _ _ _ => F1
  rename News _ _ _ _ => N1
  refine for_tupS (J := fun m0 i m nx => nx = [(D, { cls := .type "tuple", data := .seq vs.toArray })] ∧ ∃ p tp, m "path" = some (.str p tp) ∧ Same ["path", "b"] m m0 ∧ p = joinS x (xs.take i)) hh F1 N1 ⟨_, (N1 _ (.head _)).1, rfl, _, rfl⟩ (N1 _ (.head _)).2.1 ⟨rfl, x, t, rfl, Same.refl, rfl⟩ ?_ ?_
  · rintro I i v m1 nx h1 tk1 own hi hI hnx ⟨rfl, p, tp, g1, g2, hp⟩ F2 N2
    obtain ⟨a, ha, ta, rfl⟩ := hv.2 i v hi
    rw [map1 g1 g2] at F2
    dsimp only at F2
    clear F1 N1
    have e1 := take_snoc ha
    have e2 : p.length + (a.length + 1) ≤ 1000000 := by
      have q1 := joinS_len x (xs.take i)
      have q2 := lens_take xs (i + 1)
      rw [e1, lens_snoc] at q2
      rw [hp]; omega
    have e3 : p.length ≤ 1000000 := by omega
    have e4 : a.length ≤ 1000000 := by omega
    walk_at "MY hideT"
    k_steps
    all_goals (
      walk_at "MY showT"
      refine' ⟨_, _, _, _, rfl, by k_asm, by k_asm, hnx, rfl, _, _, rfl, ?_, ?_⟩
      · walk_at "MY same"
      · rw [e1, joinS_snoc, ← hp]; unfold jstep sl; simp_all)
  · rintro m1 nx h1 tk1 ⟨rfl, p, tp, g1, g2, hp⟩ F2 N2
    rw [map1 g1 g2] at F2
    dsimp only at F2
    clear F1 N1
    k_steps
    have e1 : xs.take vs.length = xs := by rw [hv.1, List.take_length]
    rw [e1] at hp
    subst hp
    exact h _ _ _ F2.keep
end
end
section
local macro_rules | `(tactic| walk_at "getMethod bytes") => `(tactic| (k_here; first | with_reducible refine by_starts_m ?_ | with_reducible refine by_ends_m ?_))
local macro_rules | `(tactic| walk_at "call builtin:bytes.startswith") => `(tactic| (k_here; refine by_starts ?_))
local macro_rules | `(tactic| walk_at "call builtin:bytes.endswith") => `(tactic| (k_here; refine by_ends ?_))
local macro_rules | `(tactic| walk_at "truthy bytes") => `(tactic| (k_here; refine truthy_b (by first | omega | (simp only [List.size_toArray]; omega)) ?_))
local macro_rules | `(tactic| walk_at "binaryOp Add bytes bytes") => `(tactic| (k_here; refine KBy.add_bytes (by (try simp only [Array.size_append]); (try rw [show (#[47] : Array UInt8).size = 1 from rfl]); omega) ?_; intro t' k'))
local macro_rules | `(tactic| walk_at "inplaceOp Add bytes bytes") => `(tactic| (k_here; refine iadd_bytes (by (try simp only [Array.size_append]); (try rw [show (#[47] : Array UInt8).size = 1 from rfl]); omega) ?_; intro t' k'))
section
theorem fill_B3 (w : World) (h : Heap) : PySem.Challenge.rw_ko0128_02.Holds → (Mine.hd.heap_39 w.params).In h → True := by
  w_top off
  k_fill
  intros; trivial
set_option maxHeartbeats 8000000
section
variable {w : World} {A : Around} {mg mb : Str → Option Value} {mean : ExcName → Option Value} {loose : List Str} {s : Shared} {Q : Value → Shared → Prop} {E : Value → Shared → Prop}
theorem join_bytes {x : Array UInt8} {t : Tok} {vs : List Value} {xs : List (Array UInt8)} (X : (Mine.hd.heap_39 w.params).In s.heap) (T : Top Mine.hd.view_39 loose mean mg mb s.heap) (hd : A.depth ≤ 550) (hh : A.handled = none)
    (hv : Al RByt vs xs) (hz : x.size + lensL (xs.map Array.toList) ≤ 1000000) 
    (h : ∀ h' tk u P, Kp s.heap h' → P.toList = joinL 47 x.toList (xs.map Array.toList) → Q (.bytes P u) { s with heap := h', toks := tk }) : wpAny (model PySem.Challenge.rw_ko0128_02.row.prog w) A (call (.ref 115) (.bytes x t :: vs)) Q E s := by
  have hlen : vs.length ≤ sizeLine := by have := lensL_ge (xs.map Array.toList); rw [List.length_map] at this; rw [hv.1, sizeLine_eq]; omega
  refine wpAny_call ?_
  (refine' enterR (vs := vs) ?k1 ?k2 ?k3 ?k4 ?k5 ?k6 hlen ?k7 ?_ ?k8 ?k9 ?k10 ?k11; (case k1 => assumption); (case k2 => assumption); (case k3 => k_room); (case k4 => k_is); (case k5 => k_is); (case k6 => exact bind_rest1); (case k7 => intro D; exact locs rfl); (case k8 => decide); (case k9 => exact rfl); (case k10 => exact rfl); (case k11 => exact rfl); k_whole; intro D L' h' hDL F' N'; (try dsimp only); (try k_fold))
  k_steps
  rename Fr _ _ _ _ => F1
  rename News _ _ _ _ => N1
  refine for_tupS (J := fun m0 i m nx => nx = [(D, { cls := .type "tuple", data := .seq vs.toArray })] ∧ ∃ p tp, m "path" = some (.bytes p tp) ∧ Same ["path", "b"] m m0 ∧ p.toList = joinL 47 x.toList ((xs.map Array.toList).take i)) hh F1 N1 ⟨_, (N1 _ (.head _)).1, rfl, _, rfl⟩ (N1 _ (.head _)).2.1 ⟨rfl, x, t, rfl, Same.refl, rfl⟩ ?_ ?_
  · rintro I i v m1 nx h1 tk1 own hi hI hnx ⟨rfl, p, tp, g1, g2, hp⟩ F2 N2
    obtain ⟨a, ha, ta, rfl⟩ := hv.2 i v hi
    rw [map1 g1 g2] at F2
    dsimp only at F2
    clear F1 N1
    have ha' : (xs.map Array.toList)[i]? = some a.toList := by rw [List.getElem?_map, ha]; rfl
    have e1 := take_snoc ha'
    have e2 : p.size + (a.size + 1) ≤ 1000000 := by
      have q1 := joinL_len 47 x.toList ((xs.map Array.toList).take i)
      have q2 := lensL_take (xs.map Array.toList) (i + 1)
      rw [e1, lensL_snoc] at q2
      rw [← hp] at q1
      simp only [Array.length_toList] at q1 q2
      omega
    have e3 : p.size ≤ 1000000 := by omega
    have e4 : a.size ≤ 1000000 := by omega
    walk_at "MY hideT"
    k_steps
    all_goals (
      walk_at "MY showT"
      refine' ⟨_, _, _, _, rfl, by k_asm, by k_asm, hnx, rfl, _, _, rfl, ?_, ?_⟩
      · walk_at "MY same"
      · rw [e1, joinL_snoc, ← hp]; unfold jL; simp_all)
  · rintro m1 nx h1 tk1 ⟨rfl, p, tp, g1, g2, hp⟩ F2 N2
    rw [map1 g1 g2] at F2
    dsimp only at F2
    clear F1 N1
    k_steps
    have e1 : (xs.map Array.toList).take vs.length = xs.map Array.toList := by rw [hv.1, ← List.length_map (f := Array.toList), List.take_length]
    rw [e1] at hp
    exact h _ _ _ _ F2.keep hp
end
end
section
theorem fill_B4 (w : World) (h : Heap) : PySem.Challenge.rw_ko0128_02.Holds → (Mine.hd.heap_39 w.params).In h → True := by
  w_top off
  k_fill
  intros; trivial
set_option maxHeartbeats 8000000
section
variable {w : World} {A : Around} {mg mb : Str → Option Value} {mean : ExcName → Option Value} {loose : List Str} {s : Shared} {Q : Value → Shared → Prop} {E : Value → Shared → Prop} {base : Heap} {fs : List Env}
theorem check_mixed {fn : Str} {t : Tok} {vs : List Value} {xs : List TB} {y : Addr} {oy : Obj} {vy : Array Value} (B : Below A base fs s.heap) (X : (Mine.hd.heap_39 w.params).In s.heap) (T : Top Mine.hd.view_39 loose mean mg mb s.heap) (hd : A.depth ≤ 550)
    (hA : A.handled = some (.ref y)) (hy : s.heap.get? y = some oy) (hdy : oy.data = .fields vy) (hcy : vy[2]? = some .none)
    (hv : Al RTB vs xs) (hz : vs.length ≤ 2000000) (h1 : xs.any TB.isB = true) (h2 : (xs.any fun x => !x.isB) = true)
    (h : ∀ h' tk e c, Exc (fs.filterMap (·.frame)) s.heap h' e (.type "TypeError") c true → E (.ref e) { s with heap := h', toks := tk }) : wpAny (model PySem.Challenge.rw_ko0128_02.row.prog w) A (call (.ref 101) (.str fn t :: vs)) Q E s := by
  have hlen : vs.length ≤ sizeLine := by rw [sizeLine_eq]; omega
  refine wpAny_call ?_
  (refine' enterR (vs := vs) ?k1 ?k2 ?k3 ?k4 ?k5 ?k6 hlen ?k7 ?_ ?k8 ?k9 ?k10 ?k11; (case k1 => assumption); (case k2 => assumption); (case k3 => k_room); (case k4 => k_is); (case k5 => k_is); (case k6 => exact bind_rest1); (case k7 => intro D; exact locs rfl); (case k8 => decide); (case k9 => exact rfl); (case k10 => exact rfl); (case k11 => exact rfl); k_whole; intro D L' h' hDL F' N'; (try dsimp only); (try k_fold))
  k_steps
  rename Fr _ _ _ _ => F1
  rename News _ _ _ _ => N1
  refine for_tupH (J := fun m0 i m nx => nx = [(D, { cls := .type "tuple", data := .seq vs.toArray })] ∧ m "hasstr" = some (.bool ((xs.take i).any fun x => !x.isB)) ∧ m "hasbytes" = some (.bool ((xs.take i).any TB.isB)) ∧ Same ["hasstr", "hasbytes", "s"] m m0) hA (F1.keep _ _ hy) hdy hcy (by have e1 := Heap.lt_size hy; have e2 := F1.above; exact Nat.ne_of_lt (Nat.lt_of_lt_of_le e1 e2)) F1 N1 ⟨_, (N1 _ (.head _)).1, rfl, _, rfl⟩ (N1 _ (.head _)).2.1 ⟨rfl, rfl, rfl, Same.refl⟩ ?_ ?_
  · rintro I i v m1 nx h9 tk1 own hi hI hnx ⟨rfl, g1, g2, g3⟩ F2 N2
    obtain ⟨a, ha, hra⟩ := hv.2 i v hi
    rw [map2 g1 g2 g3] at F2
    dsimp only at F2
    clear F1 N1
    have e1 := take_snoc ha
    cases a with
    | t x =>
      obtain ⟨ta, rfl⟩ := hra
      have q1 : ((xs.take i ++ [TB.t x]).any fun x => !x.isB) = true := by simp [TB.isB]
      have q2 : (xs.take i ++ [TB.t x]).any TB.isB = (xs.take i).any TB.isB := by simp [TB.isB]
      k_steps
      all_goals (
        refine' ⟨_, _, _, _, rfl, by k_asm, by k_asm, hnx, rfl, ?_, ?_, ?_⟩
        · rw [e1]; exact congrArg (fun b => some (Value.bool b)) q1.symm
        · rw [e1]; exact congrArg (fun b => some (Value.bool b)) q2.symm
        · walk_at "MY same")
    | b x =>
      obtain ⟨ta, rfl⟩ := hra
      have q1 : ((xs.take i ++ [TB.b x]).any fun x => !x.isB) = ((xs.take i).any fun x => !x.isB) := by simp [TB.isB]
      have q2 : (xs.take i ++ [TB.b x]).any TB.isB = true := by simp [TB.isB]
      k_steps
      all_goals (
        refine' ⟨_, _, _, _, rfl, by k_asm, by k_asm, hnx, rfl, ?_, ?_, ?_⟩
        · rw [e1]; exact congrArg (fun b => some (Value.bool b)) q1.symm
        · rw [e1]; exact congrArg (fun b => some (Value.bool b)) q2.symm
        · walk_at "MY same")
  · rintro m1 nx h9 tk1 ⟨rfl, g1, g2, g3⟩ F2 N2
    have e1 : xs.take vs.length = xs := by rw [hv.1, List.take_length]
    rw [e1, h2] at g1
    rw [e1, h1] at g2
    rw [map2 g1 g2 g3] at F2
    dsimp only at F2
    clear F1 N1
    k_steps
    refine Raise_none PySem.F.excCall_TypeError PySem.F.excRaise_TypeError rfl ?_
    walk1
    refine ⟨rfl, evalArgs_c ?_⟩
    k_steps
    all_goals first
      | trivial
      | exact .inr ⟨y, oy, vy, hA, F2.keep _ _ hy, hdy, hcy⟩
      | (rename Exc _ _ _ _ _ _ _ => hx
         exact leave_frame (S := []) B F2 rfl rfl (fun _ hb => (nomatch hb)) hx fun h' x' => h h' _ _ _ x')
end
end
section
local macro_rules | `(tactic| walk_at "exec For Name Name cons nil") => `(tactic| (k_here; (rename Fr _ _ _ _ => lF'); (with_unfolding_all refine' For_invVF lF' ?k1 ?k2 ?_; (case k1 => exact rfl); (case k2 => exact rfl); k_whole)))
local macro_rules | `(tactic| walk_at "exec For Name Call cons nil") => `(tactic| (k_here; (rename Fr _ _ _ _ => lF'); (with_unfolding_all refine' For_invVF lF' ?k1 ?k2 ?_; (case k1 => exact rfl); (case k2 => exact rfl); k_whole)))
local macro_rules | `(tactic| walk_at "exec For Name Subscript cons nil") => `(tactic| (k_here; (rename Fr _ _ _ _ => lF'); (with_unfolding_all refine' For_invVF lF' ?k1 ?k2 ?_; (case k1 => exact rfl); (case k2 => exact rfl); k_whole)))
local macro_rules | `(tactic| walk_at "exec For Name IfExp cons nil") => `(tactic| (k_here; (rename Fr _ _ _ _ => lF'); (with_unfolding_all refine' For_invVF lF' ?k1 ?k2 ?_; (case k1 => exact rfl); (case k2 => exact rfl); k_whole)))
section
local macro_rules | `(tactic| walk_at "StarOf ref") => `(tactic| (k_here; k_dflt (refine' star_seq ?k1 ?k2 ?m ?c ?d ?T ?e ?z ?_; (case k1 => k_asm); (case k2 => k_asm); (case m => k_mem); (case c => exact rfl); (case d => exact rfl); (case T => first | exact .inl rfl | exact .inr rfl); (case e => exact rfl); (case z => (simp only [List.size_toArray]; assumption)); k_whole); intro h' F' N'; (try k_sweep); try dsimp only [List.nil_append, List.cons_append]))
section
theorem fill_B5 (w : World) (h : Heap) : PySem.Challenge.rw_ko0128_02.Holds → (Mine.hd.heap_39 w.params).In h → True := by
  w_top off
  k_fill
  intros; trivial
set_option maxHeartbeats 8000000
section
variable {w : World} {A : Around} {mg mb : Str → Option Value} {mean : ExcName → Option Value} {loose : List Str} {s : Shared} {Q : Value → Shared → Prop} {E : Value → Shared → Prop} {base : Heap} {fs : List Env}
theorem join_mixed_s {x : Str} {t : Tok} {vs : List Value} {xs : List TB} (B : Below A base fs s.heap) (X₀ : (Mine.hd.heap_39 w.params).In base) (T₀ : Top Mine.hd.view_39 loose mean mg mb base) (hd : A.depth ≤ 540) (hh : A.handled = none)
    (hv : Al RTB vs xs) (hz : x.length + lensT xs ≤ 1000000) (hmix : xs.any TB.isB = true)
    (h : ∀ h' tk e c, Exc (fs.filterMap (·.frame)) s.heap h' e (.type "TypeError") c true → E (.ref e) { s with heap := h', toks := tk }) : wpAny (model PySem.Challenge.rw_ko0128_02.row.prog w) A (call (.ref 115) (.str x t :: vs)) Q E s := by
  have hlen : vs.length ≤ sizeLine := by have := lensT_ge xs; rw [hv.1, sizeLine_eq]; omega
  have X := X₀.keeps B.stays
  have T := T₀.keeps B.stays
  refine wpAny_call ?_
  (refine' enterR (vs := vs) ?k1 ?k2 ?k3 ?k4 ?k5 ?k6 hlen ?k7 ?_ ?k8 ?k9 ?k10 ?k11; (case k1 => assumption); (case k2 => assumption); (case k3 => k_room); (case k4 => k_is); (case k5 => k_is); (case k6 => exact bind_rest1); (case k7 => intro D; exact locs rfl); (case k8 => decide); (case k9 => exact rfl); (case k10 => exact rfl); (case k11 => exact rfl); k_whole; intro D L' h' hDL F' N'; (try dsimp only); (try k_fold))
  obtain ⟨g, fobs, G, kf0⟩ := gnd B
  have hDn : s.heap.get? D = none := (N' _ (.head _)).2.2
  have hLn : s.heap.get? L' = none := fr_none F'
  replace N' := G.led kf0 F' N'
  simp only [List.cons_append, List.nil_append] at N'
  replace F' := G.fr F'
  replace X := X₀.keeps G.bg
  replace T := T₀.keeps G.bg
  k_steps
  rename Fr _ _ _ _ => F1
  rename News _ _ _ _ => N1
  refine for_tupS (vs := vs) (J := fun m0 i m nx => nx = (D, { cls := .type "tuple", data := .seq vs.toArray }) :: fobs ∧ ∃ p tp, m "path" = some (.str p tp) ∧ Same ["path", "b"] m m0 ∧ p.length ≤ x.length + lensT (xs.take i) ∧ (xs.take i).any TB.isB = false) hh F1 N1 ?_ ?_ ?_ ?_ ?_
  · exact ⟨_, (N1 _ (.head _)).1, rfl, _, rfl⟩
  · exact (N1 _ (.head _)).2.1
  · exact ⟨rfl, x, t, rfl, Same.refl, by simp, rfl⟩
  · rintro I i v m1 nx h1 tk1 own hi hI hnx ⟨rfl, p, tp, g1, g2, hp, hp2⟩ F2 N2
    obtain ⟨a, ha, hra⟩ := hv.2 i v hi
    rw [map1 g1 g2] at F2
    dsimp only at F2
    clear F1 N1
    have e1 := take_snoc ha
    have e0 := lensT_take xs (i + 1)
    rw [e1, lensT_snoc] at e0
    have e3 : p.length ≤ 1000000 := by omega
    walk_at "MY hideT"
    cases a with
    | t y =>
      obtain ⟨ta, rfl⟩ := hra
      have el : (TB.t y).len = y.length := rfl
      have e2 : p.length + (y.length + 1) ≤ 1000000 := by rw [el] at e0; omega
      have e4 : y.length ≤ 1000000 := by omega
      have e5 : y.length ≤ x.length + lensT (xs.take i ++ [TB.t y]) := by rw [lensT_snoc, el]; omega
      have e6 : p.length + (1 + y.length) ≤ x.length + lensT (xs.take i ++ [TB.t y]) := by rw [lensT_snoc, el]; omega
      have e7 : (xs.take i ++ [TB.t y]).any TB.isB = false := by rw [List.any_append, hp2]; rfl
      k_steps
      all_goals (
        walk_at "MY showT"
        refine' ⟨_, _, _, _, rfl, by k_asm, by k_asm, hnx, rfl, _, _, rfl, ?_, ?_, ?_⟩
        · walk_at "MY same"
        · rw [e1]; (try simp only [Str.length_append]); (try rw [show (Str.ofString "/").length = 1 from by decide]); omega
        · rw [e1]; exact e7)
    | b y =>
      obtain ⟨ta, rfl⟩ := hra
      k_steps
      refine b_starts_bad hh ?_
      intro h5 tk5 e hx
      rename Fr _ _ _ _ => F3
      rename News _ _ _ _ => N3
      have hDf : D ∉ fs.filterMap (·.frame) := fun hm => by
        obtain ⟨_, o, ho, _⟩ := B.frames.mem hm
        rw [hDn] at ho; cases ho
      refine catch_hit (led := [(D, { cls := .type "tuple", data := .seq vs.toArray })]) (S := []) B G F3 (news_sub N3 fun q hq => List.mem_append_right _ hq) (fun q hq => by rw [List.mem_singleton.mp hq]; exact hDf) rfl X (topRead_of T) (Exc.of_new hx) (fun _ hb => (nomatch hb)) (by kts_test) fun h8 oe To oT fobs' G8 F8 N8 hob => ?_
      simp only [List.cons_append, List.nil_append] at N8
      clear F3 N3
      k_steps
      rename Fr _ _ _ _ => F9
      rename News _ _ _ _ => N9
      have k9 := fun p (hp : p ∈ fobs') => (N9 p (.tail _ (.tail _ (.tail _ hp)))).1
      have hoe := (N9 _ (.head _)).1
      rw [List.append_nil]
      obtain ⟨vs8, ts8, a1, a2, a3, a4, a5, a6, a7, a8⟩ := hob
      refine check_mixed (vs := .str x t :: vs) (xs := .t x :: xs) (below_mark (G8.below B F9 k9 rfl rfl)) (X.keeps F9.keep) (T.keeps F9.keep) (by show A.depth + 1 ≤ 550; omega) rfl hoe a2 a4 (Al.cons ⟨t, rfl⟩ hv) (by have := lensT_ge xs; rw [List.length_cons, hv.1]; omega) (by rw [List.any_cons, hmix]; rfl) (by rw [List.any_cons]; rfl) fun h10 tk10 e2 c2 x10 => ?_
      refine handler_out (G8.below B F9 k9 rfl rfl) rfl x10 fun h11 x11 => ?_
      k_unfold
      exact leave_gnd (G8.below B F9 k9 rfl rfl) G8 F9 k9 hLn rfl x11 fun h12 x12 => h h12 _ _ _ x12
  · rintro m1 nx h1 tk1 ⟨rfl, p, tp, g1, g2, hp, hp2⟩ F2 N2
    have e1 : xs.take vs.length = xs := by rw [hv.1, List.take_length]
    rw [e1, hmix] at hp2
    cases hp2
end
end
section
theorem fill_B6 (w : World) (h : Heap) : PySem.Challenge.rw_ko0128_02.Holds → (Mine.hd.heap_39 w.params).In h → True := by
  w_top off
  k_fill
  intros; trivial
set_option maxHeartbeats 8000000
section
variable {w : World} {A : Around} {mg mb : Str → Option Value} {mean : ExcName → Option Value} {loose : List Str} {s : Shared} {Q : Value → Shared → Prop} {E : Value → Shared → Prop} {base : Heap} {fs : List Env}
theorem join_mixed_b {x : Array UInt8} {t : Tok} {vs : List Value} {xs : List TB} (B : Below A base fs s.heap) (X₀ : (Mine.hd.heap_39 w.params).In base) (T₀ : Top Mine.hd.view_39 loose mean mg mb base) (hd : A.depth ≤ 540) (hh : A.handled = none)
    (hv : Al RTB vs xs) (hz : x.size + lensT xs ≤ 1000000) (hmix : (xs.any fun x => !x.isB) = true)
    (h : ∀ h' tk e c, Exc (fs.filterMap (·.frame)) s.heap h' e (.type "TypeError") c true → E (.ref e) { s with heap := h', toks := tk }) : wpAny (model PySem.Challenge.rw_ko0128_02.row.prog w) A (call (.ref 115) (.bytes x t :: vs)) Q E s := by
  have hlen : vs.length ≤ sizeLine := by have := lensT_ge xs; rw [hv.1, sizeLine_eq]; omega
  have X := X₀.keeps B.stays
  have T := T₀.keeps B.stays
  refine wpAny_call ?_
  (refine' enterR (vs := vs) ?k1 ?k2 ?k3 ?k4 ?k5 ?k6 hlen ?k7 ?_ ?k8 ?k9 ?k10 ?k11; (case k1 => assumption); (case k2 => assumption); (case k3 => k_room); (case k4 => k_is); (case k5 => k_is); (case k6 => exact bind_rest1); (case k7 => intro D; exact locs rfl); (case k8 => decide); (case k9 => exact rfl); (case k10 => exact rfl); (case k11 => exact rfl); k_whole; intro D L' h' hDL F' N'; (try dsimp only); (try k_fold))
  obtain ⟨g, fobs, G, kf0⟩ := gnd B
  have hDn : s.heap.get? D = none := (N' _ (.head _)).2.2
  have hLn : s.heap.get? L' = none := fr_none F'
  replace N' := G.led kf0 F' N'
  simp only [List.cons_append, List.nil_append] at N'
  replace F' := G.fr F'
  replace X := X₀.keeps G.bg
  replace T := T₀.keeps G.bg
  k_steps
  rename Fr _ _ _ _ => F1
  rename News _ _ _ _ => N1
  refine for_tupS (vs := vs) (J := fun m0 i m nx => nx = (D, { cls := .type "tuple", data := .seq vs.toArray }) :: fobs ∧ ∃ p tp, m "path" = some (.bytes p tp) ∧ Same ["path", "b"] m m0 ∧ p.size ≤ x.size + lensT (xs.take i) ∧ ((xs.take i).any fun x => !x.isB) = false) hh F1 N1 ?_ ?_ ?_ ?_ ?_
  · exact ⟨_, (N1 _ (.head _)).1, rfl, _, rfl⟩
  · exact (N1 _ (.head _)).2.1
  · exact ⟨rfl, x, t, rfl, Same.refl, by simp, rfl⟩
  · rintro I i v m1 nx h1 tk1 own hi hI hnx ⟨rfl, p, tp, g1, g2, hp, hp2⟩ F2 N2
    obtain ⟨a, ha, hra⟩ := hv.2 i v hi
    rw [map1 g1 g2] at F2
    dsimp only at F2
    clear F1 N1
    have e1 := take_snoc ha
    have e0 := lensT_take xs (i + 1)
    rw [e1, lensT_snoc] at e0
    have e3 : p.size ≤ 1000000 := by omega
    walk_at "MY hideT"
    cases a with
    | b y =>
      obtain ⟨ta, rfl⟩ := hra
      have el : (TB.b y).len = y.size := rfl
      have e2 : p.size + (y.size + 1) ≤ 1000000 := by rw [el] at e0; omega
      have e4 : y.size ≤ 1000000 := by omega
      have e5 : y.size ≤ x.size + lensT (xs.take i ++ [TB.b y]) := by rw [lensT_snoc, el]; omega
      have e6 : p.size + (1 + y.size) ≤ x.size + lensT (xs.take i ++ [TB.b y]) := by rw [lensT_snoc, el]; omega
      have e7 : ((xs.take i ++ [TB.b y]).any fun x => !x.isB) = false := by rw [List.any_append, hp2]; rfl
      k_steps
      all_goals (
        walk_at "MY showT"
        refine' ⟨_, _, _, _, rfl, by k_asm, by k_asm, hnx, rfl, _, _, rfl, ?_, ?_, ?_⟩
        · walk_at "MY same"
        · rw [e1]; (try simp only [Array.size_append]); (try rw [show (#[47] : Array UInt8).size = 1 from rfl]); omega
        · rw [e1]; exact e7)
    | t y =>
      obtain ⟨ta, rfl⟩ := hra
      k_steps
      refine s_starts_bad hh ?_
      intro h5 tk5 e hx
      rename Fr _ _ _ _ => F3
      rename News _ _ _ _ => N3
      have hDf : D ∉ fs.filterMap (·.frame) := fun hm => by
        obtain ⟨_, o, ho, _⟩ := B.frames.mem hm
        rw [hDn] at ho; cases ho
      refine catch_hit (led := [(D, { cls := .type "tuple", data := .seq vs.toArray })]) (S := []) B G F3 (news_sub N3 fun q hq => List.mem_append_right _ hq) (fun q hq => by rw [List.mem_singleton.mp hq]; exact hDf) rfl X (topRead_of T) (Exc.of_new hx) (fun _ hb => (nomatch hb)) (by kts_test) fun h8 oe To oT fobs' G8 F8 N8 hob => ?_
      simp only [List.cons_append, List.nil_append] at N8
      clear F3 N3
      k_steps
      rename Fr _ _ _ _ => F9
      rename News _ _ _ _ => N9
      have k9 := fun p (hp : p ∈ fobs') => (N9 p (.tail _ (.tail _ (.tail _ hp)))).1
      have hoe := (N9 _ (.head _)).1
      rw [List.append_nil]
      obtain ⟨vs8, ts8, a1, a2, a3, a4, a5, a6, a7, a8⟩ := hob
      refine check_mixed (vs := .bytes x t :: vs) (xs := .b x :: xs) (below_mark (G8.below B F9 k9 rfl rfl)) (X.keeps F9.keep) (T.keeps F9.keep) (by show A.depth + 1 ≤ 550; omega) rfl hoe a2 a4 (Al.cons ⟨t, rfl⟩ hv) (by have := lensT_ge xs; rw [List.length_cons, hv.1]; omega) (by rw [List.any_cons]; rfl) (by rw [List.any_cons, hmix]; rfl) fun h10 tk10 e2 c2 x10 => ?_
      refine handler_out (G8.below B F9 k9 rfl rfl) rfl x10 fun h11 x11 => ?_
      k_unfold
      exact leave_gnd (G8.below B F9 k9 rfl rfl) G8 F9 k9 hLn rfl x11 fun h12 x12 => h h12 _ _ _ x12
  · rintro m1 nx h1 tk1 ⟨rfl, p, tp, g1, g2, hp, hp2⟩ F2 N2
    have e1 : xs.take vs.length = xs := by rw [hv.1, List.take_length]
    rw [e1, hmix] at hp2
    cases hp2
end
end
end
end
end
end
section
theorem fill_B10 (w : World) (h : Heap) : PySem.Challenge.rw_ko0128_02.Holds → (Mine.hd.heap_39 w.params).In h → True := by
  w_top off
  k_fill
  intros; trivial
def codesT : TB → List Int
  | .t x => (cpl x).map fun c : Nat => (c : Int)
  | .b x => octs x
theorem codesT_len (b : TB) : (codesT b).length = b.len := by
  cases b with
  | t x => simp [codesT, TB.len, cpl, Str.length]
  | b x => simp [codesT, TB.len, octs]
def texts (bs : List TB) : List Str := bs.filterMap fun b => match b with | .t x => some x | .b _ => none
def bytess (bs : List TB) : List (Array UInt8) := bs.filterMap fun b => match b with | .t _ => none | .b x => some x
theorem all_texts : ∀ {bs : List TB}, bs.any TB.isB = false → bs = (texts bs).map TB.t
  | [], _ => rfl
  | .t x :: r, h => by
    have ih := all_texts (bs := r) (by simpa [TB.isB] using h)
    show TB.t x :: r = TB.t x :: (texts r).map TB.t
    rw [← ih]
  | .b x :: r, h => by simp [TB.isB] at h
theorem all_bytess : ∀ {bs : List TB}, (bs.any fun b => !b.isB) = false → bs = (bytess bs).map TB.b
  | [], _ => rfl
  | .b x :: r, h => by
    have ih := all_bytess (bs := r) (by simpa [TB.isB] using h)
    show TB.b x :: r = TB.b x :: (bytess r).map TB.b
    rw [← ih]
  | .t x :: r, h => by simp [TB.isB] at h
theorem Al.mapR2 {α β : Type} {R : Value → α → Prop} {R' : Value → β → Prop} {f : β → α} {vs : List Value} {xs : List β} (r : Al R vs (xs.map f)) (h : ∀ v x, R v (f x) → R' v x) : Al R' vs xs :=
  ⟨by simpa using r.1, fun i v hv => by
    obtain ⟨a, ha, hr⟩ := r.2 i v hv
    rw [List.getElem?_map] at ha
    obtain ⟨x, hx, rfl⟩ := Option.map_eq_some_iff.mp ha
    exact ⟨x, hx, h v x hr⟩⟩
theorem lens_map (xs : List Str) : lens xs = lensT (xs.map TB.t) := by
  simp only [lens, lensT, List.map_map]; rfl
theorem lensL_map (xs : List (Array UInt8)) : lensL (xs.map Array.toList) = lensT (xs.map TB.b) := by
  simp only [lensL, lensT, List.map_map]
  congr 1
theorem codes_text (x : Str) (xs : List Str) : codesT (.t (joinS x xs)) = joinL 47 (codesT (.t x)) ((xs.map TB.t).map codesT) := by
  show (cpl (joinS x xs)).map (fun c : Nat => (c : Int)) = _
  rw [cpl_joinS, joinL_map (fun c : Nat => (c : Int)) 47 (fun _ => True) (fun a _ e => by omega) trivial (xs.map cpl) (cpl x) (fun _ _ => trivial) (fun _ _ _ _ => trivial)]
  rw [List.map_map, List.map_map]; rfl
theorem codes_bytes {P x : Array UInt8} {xs : List (Array UInt8)} (h : P.toList = joinL 47 x.toList (xs.map Array.toList)) : codesT (.b P) = joinL 47 (codesT (.b x)) ((xs.map TB.b).map codesT) := by
  show P.toList.map (fun b : UInt8 => (b.toNat : Int)) = _
  rw [h, joinL_map (fun b : UInt8 => (b.toNat : Int)) 47 (fun _ => True) (fun a _ e => by
    have : a.toNat = 47 := by have e' : (a.toNat : Int) = 47 := e; omega
    exact UInt8.toNat_inj.mp (by rw [this]; rfl)) trivial (xs.map Array.toList) x.toList (fun _ _ => trivial) (fun _ _ _ _ => trivial)]
  rw [List.map_map, List.map_map]; rfl
section
variable {w : World} {A : Around} {mg mb : Str → Option Value} {mean : ExcName → Option Value} {loose : List Str} {s : Shared} {Q : Value → Shared → Prop} {E : Value → Shared → Prop} {base : Heap} {fs : List Env}
theorem join_any {v0 : Value} {vr : List Value} {b0 : TB} {br : List TB} (B : Below A base fs s.heap) (X₀ : (Mine.hd.heap_39 w.params).In base) (T₀ : Top Mine.hd.view_39 loose mean mg mb base) (hd : A.depth ≤ 540) (hh : A.handled = none)
    (hv0 : RTB v0 b0) (hvr : Al RTB vr br) (hz : b0.len + lensT br ≤ 1000000)
    (good : (∀ b ∈ br, b.isB = b0.isB) → ∀ h' tk tv tb, Kp s.heap h' → RTB tv tb → tb.isB = b0.isB → codesT tb = joinL 47 (codesT b0) (br.map codesT) → Q tv { s with heap := h', toks := tk })
    (bad : ¬ (∀ b ∈ br, b.isB = b0.isB) → ∀ h' tk e c, Exc (fs.filterMap (·.frame)) s.heap h' e (.type "TypeError") c true → E (.ref e) { s with heap := h', toks := tk }) :
    wpAny (model PySem.Challenge.rw_ko0128_02.row.prog w) A (call (.ref 115) (v0 :: vr)) Q E s := by
  have X := X₀.keeps B.stays
  have T := T₀.keeps B.stays
  cases b0 with
  | t x =>
    obtain ⟨t, rfl⟩ := hv0
    cases hm : br.any TB.isB with
    | true =>
      refine join_mixed_s B X₀ T₀ hd hh hvr hz hm fun h' tk e c x => bad (fun q => ?_) h' tk e c x
      obtain ⟨b, hb, hq⟩ := List.any_eq_true.mp hm
      rw [q b hb] at hq; cases hq
    | false =>
      have e := all_texts hm
      rw [e] at hvr hz
      rw [← lens_map] at hz
      refine join_str X T (by omega) hh (hvr.mapR2 fun v x h => h) hz fun h' tk u hk => good (fun b hb => ?_) h' tk _ (.t (joinS x (texts br))) hk ⟨u, rfl⟩ rfl ?_
      · rw [e] at hb
        obtain ⟨y, _, rfl⟩ := List.mem_map.mp hb
        rfl
      · rw [codes_text, ← e]
  | b x =>
    obtain ⟨t, rfl⟩ := hv0
    cases hm : br.any fun b => !b.isB with
    | true =>
      refine join_mixed_b B X₀ T₀ hd hh hvr hz hm fun h' tk e c x => bad (fun q => ?_) h' tk e c x
      obtain ⟨b, hb, hq⟩ := List.any_eq_true.mp hm
      rw [q b hb] at hq; cases hq
    | false =>
      have e := all_bytess hm
      rw [e] at hvr hz
      rw [← lensL_map] at hz
      refine join_bytes X T (by omega) hh (hvr.mapR2 fun v x h => h) hz fun h' tk u P hk hP => good (fun b hb => ?_) h' tk _ (.b P) hk ⟨u, rfl⟩ rfl ?_
      · rw [e] at hb
        obtain ⟨y, _, rfl⟩ := List.mem_map.mp hb
        rfl
      · rw [codes_bytes hP, ← e]
end
end
section
local macro_rules | `(tactic| walk_at "MY back") => `(tactic| (rename Fr _ _ _ _ => kF'; rename News _ _ _ _ => kN'; rename Kp _ _ => hk'; replace kF' := Fr.grownK kF' hk'; replace kN' := News.grown kN' hk'; clear hk'))
local macro_rules | `(tactic| walk_at "MY prem") => `(tactic| ((case X => k_in); (case T => walk_at "MY top"); (case d => k_room); k_whole))
local macro_rules | `(tactic| walk_at "call ref") => `(tactic| (k_here; (with_reducible show wpAny _ _ (call (Value.ref 94) [Value.str _ _]) _ _ _); refine' fspath_str ?X ?T ?d ?_; walk_at "MY prem"; intro h' tk' hk'; walk_at "MY back"))
local macro_rules | `(tactic| walk_at "call ref") => `(tactic| (k_here; (with_reducible show wpAny _ _ (call (Value.ref 94) [Value.bytes _ _]) _ _ _); refine' fspath_bytes ?X ?T ?d ?_; walk_at "MY prem"; intro h' tk' hk'; walk_at "MY back"))
local macro_rules | `(tactic| walk_at "call ref") => `(tactic| (k_here; (with_reducible show wpAny _ _ (call (Value.ref 108) [Value.str _ _]) _ _ _); refine' getsep_str ?X ?T ?d ?_; walk_at "MY prem"; intro h' tk' u' hk'; walk_at "MY back"))
local macro_rules | `(tactic| walk_at "call ref") => `(tactic| (k_here; (with_reducible show wpAny _ _ (call (Value.ref 108) [Value.bytes _ _]) _ _ _); refine' getsep_bytes ?X ?T ?d ?_; walk_at "MY prem"; intro h' tk' u' hk'; walk_at "MY back"))
section
local macro_rules | `(tactic| walk_at "exec For Name Name cons nil") => `(tactic| (k_here; (rename Fr _ _ _ _ => lF'); (with_unfolding_all refine' For_invVF lF' ?k1 ?k2 ?_; (case k1 => exact rfl); (case k2 => exact rfl); k_whole)))
local macro_rules | `(tactic| walk_at "exec For Name Call cons nil") => `(tactic| (k_here; (rename Fr _ _ _ _ => lF'); (with_unfolding_all refine' For_invVF lF' ?k1 ?k2 ?_; (case k1 => exact rfl); (case k2 => exact rfl); k_whole)))
local macro_rules | `(tactic| walk_at "exec For Name Subscript cons nil") => `(tactic| (k_here; (rename Fr _ _ _ _ => lF'); (with_unfolding_all refine' For_invVF lF' ?k1 ?k2 ?_; (case k1 => exact rfl); (case k2 => exact rfl); k_whole)))
local macro_rules | `(tactic| walk_at "exec For Name IfExp cons nil") => `(tactic| (k_here; (rename Fr _ _ _ _ => lF'); (with_unfolding_all refine' For_invVF lF' ?k1 ?k2 ?_; (case k1 => exact rfl); (case k2 => exact rfl); k_whole)))
section
local macro_rules | `(tactic| walk_at "exec While BoolOp cons nil") => `(tactic| (k_here; refine Halt.mk ?_))
local macro_rules | `(tactic| walk_at "exec While Compare cons nil") => `(tactic| (k_here; refine Halt.mk ?_))
local macro_rules | `(tactic| walk_at "MY go") => `(tactic| show wpAny _ _ _ _ _ _)
section
local macro_rules | `(tactic| walk_at "eval ListComp") => `(tactic| (k_here; k_dflt (refine ListComp_G (F₀ := by k_asm) (by with_unfolding_all rfl) (by decide) (by rfl) (by decide) ?_)))
local macro_rules | `(tactic| walk_at "exec Assign cons ListComp") => `(tactic| (k_here; k_dflt (refine Assign_ListComp_G (F₀ := by k_asm) (by rfl) (by with_unfolding_all rfl) (by with_unfolding_all rfl) (by decide) (by rfl) (by decide) (by rfl) (by rfl) ?_)))
local macro_rules | `(tactic| walk_at "CompAt") => `(tactic| (k_here; refine Halt.mk ?_))
local macro_rules | `(tactic| walk_at "call type:zip") => `(tactic| (k_here; refine Halt.mk ?_))
local macro_rules | `(tactic| walk_at "MY open") => `(tactic| unfold Halt)
section
local macro_rules | `(tactic| walk_at "call builtin:len") => `(tactic| (k_here; (with_reducible show wpAny _ _ (call (Value.builtin "len") [Value.ref _]) _ _ _); k_dflt (refine' len_any ?l ?z ?_; (case l => kmk_list); (case z => first | assumption | exact Nat.le_of_ble_eq_true rfl))))
local macro_rules | `(tactic| walk_at "subscriptTail Name Name ref int") => `(tactic| (k_here; k_dflt (refine' item_nat ?l ?x ?z ?_; (case l => kmk_list); (case x => assumption); (case z => assumption))))
local macro_rules | `(tactic| walk_at "call type:range") => `(tactic| (k_here; (with_reducible show wpAny _ _ (call _ _) (CompAt _ _ _ _ _ _ _ _ _ _ _ _ _ _) _ _); refine Halt.mk ?_))
local macro_rules | `(tactic| walk_at "binaryOp Add ref ref") => `(tactic| (k_here; k_dflt (refine' add_any ?F ?N ?l ?b ?z ?_; (case F => k_asm); (case N => k_asm); (case l => kmk_list); (case b => kmk_list); (case z => (rw [sizeLine_eq]; (try simp only [List.length_cons, List.length_nil]); omega))); intro D' h' F' N' l1; (try k_lt l1); (try k_sweep)))
local macro_rules | `(tactic| walk_at "call builtin:max") => `(tactic| (k_here; (with_reducible show wpAny _ _ (call (Value.builtin "max") [Value.ref _]) _ _ _); k_dflt (refine' max_list_N ?h ?F ?N ?l ?i ?z ?_; (case h => first | assumption | exact rfl); (case F => k_asm); (case N => k_asm); (case l => kmk_list); (case i => first | assumption | exact (IntsAre.cons _ _ .nil).append (by assumption) | exact IntsAre.cons _ _ (by assumption)); (case z => simp)); intro h' M' t' tk' F' N' hM1' hM2'; (try k_sweep)))
section
local macro_rules | `(tactic| walk_at "call ref") => `(tactic| (k_here; (with_reducible show wpAny _ _ (call (Value.ref 127) [Value.str _ _, Value.int _ _]) _ _ _); (fail_if_success with_reducible show wpAny _ _ (call (Value.ref 127) [Value.str _ _, Value.int 0 _]) _ _ _); (fail_if_success with_reducible show wpAny _ _ (call (Value.ref 127) [Value.str _ _, Value.int 1 _]) _ _ _); refine Halt.mk ?_))
local macro_rules | `(tactic| walk_at "subscriptTail Name UnaryOp ref int") => `(tactic| (k_here; k_dflt (refine' item_last ?l ?x ?z ?_; (case l => kmk_list); (case x => assumption); (case z => assumption))))
section
theorem fill_B9 (w : World) (h : Heap) : PySem.Challenge.rw_ko0128_02.Holds → (Mine.hd.heap_39 w.params).In h → True := by
  w_top off
  k_fill
  intros; trivial
set_option maxHeartbeats 8000000
def strOf (row : List Int) : Str := ⟨(row.map Int.toNat).toArray⟩
theorem glue_fold (rest : List Str) : ∀ acc : Array Nat, (rest.foldl (fun acc p => acc ++ (Str.ofString "").cps ++ p.cps) acc).toList = acc.toList ++ rest.flatMap cpl := by
  have e : (Str.ofString "").cps = #[] := by decide
  induction rest with
  | nil => intro acc; simp
  | cons p r ih => intro acc; rw [List.foldl_cons, ih, e]; simp [cpl]
theorem glue0 (ys : List Str) : cpl (Txt.join (Str.ofString "") ys) = ys.flatMap cpl := by
  show (((ys.drop 1).foldl (fun acc p => acc ++ (Str.ofString "").cps ++ p.cps) (ys.headD Str.empty).cps)).toList = _
  rw [glue_fold]
  cases ys with
  | nil => rfl
  | cons y r => simp [cpl]
theorem glue_row (row : List Int) : Txt.join (Str.ofString "") (row.map fun c => (⟨#[c.toNat]⟩ : Str)) = strOf row := by
  apply cpl_inj
  rw [glue0]
  show _ = row.map Int.toNat
  induction row with
  | nil => rfl
  | cons c r ih => rw [List.map_cons, List.flatMap_cons, ih]; rfl
section
variable {w : World} {A : Around} {mg mb : Str → Option Value} {mean : ExcName → Option Value} {loose : List Str} {s : Shared} {Q : Value → Shared → Prop} {E : Value → Shared → Prop}
theorem made_s {r : Addr} {vs : List Value} {row : List Int} {u : Tok} (X : (Mine.hd.heap_39 w.params).In s.heap) (T : Top Mine.hd.view_39 loose mean mg mb s.heap) (hd : A.depth ≤ 560) (hh : A.handled = none)
    (hr : s.heap.IsList r vs.toArray) (hi : IntsAre vs row) (hrow : ∀ c ∈ row, Cp c) (hlen : row.length ≤ 1000)
    (h : ∀ h' tk t, Kp s.heap h' → Q (.str (strOf row) t) { s with heap := h', toks := tk }) : wpAny (model PySem.Challenge.rw_ko0128_02.row.prog w) A (call (.ref 127) [.ref r, .int 0 u]) Q E s := by
  walk_at "MY enter"
  k_steps
  walk_at "MY open"
  rename Fr _ _ _ _ => F1
  rename News _ _ _ _ => N1
  refine src_listS (vs := vs) (fun n0 i ys nx => nx = n0 ∧ StrsAre ys ((row.take i).map fun c => (⟨#[c.toNat]⟩ : Str))) hh F1 N1 (hr.at fun o e => F1.keep _ o e) ?_ (by rw [hi.length]; exact le_size hlen) rfl rfl ⟨rfl, .nil⟩ ?_ ?_
  · obtain ⟨o, e, _⟩ := hr; exact fun q => by rw [q] at e; rw [fr_none F1] at e; cases e
  · rintro I i v C oC D m₂ h₂ tk own ys nx E' hv ⟨rfl, hys⟩ hm hC F₂ N₂ hoff _ hCD
    obtain ⟨n, t, rfl, hn⟩ := ints_item hi hv
    have hc := hrow n (List.mem_of_getElem? hn)
    have hc1 := hc.1
    have hc2 := hc.2
    refine tests0 ?_
    k_steps
    exact ⟨_, _, _, rfl, by k_asm, by k_asm, hoff, rfl, strs_step hn hys rfl⟩
  rintro g tk ys nx ⟨rfl, hys⟩ D h₂ tk₂ F₂ N₂ hoff
  rw [List.take_of_length_le (by rw [hi.length]; exact Nat.le_refl _)] at hys
  clear F1 N1
  k_steps
  have hw : ∀ l : List Int, ((l.map fun c => (⟨#[c.toNat]⟩ : Str)).map (·.length)).sum = l.length := fun l => by
    induction l with
    | nil => rfl
    | cons c r ih => rw [List.map_cons, List.map_cons, List.sum_cons, ih, List.length_cons]; show 1 + r.length = _; omega
  refine join_listW (News.isList N₂ (.head _)) (by simpa using hys) (by decide) (by rw [hw, List.length_map]; omega) fun t' k => ?_
  k_steps
  rw [glue_row]
  exact h _ _ _ F₂.keep
theorem made_b {r : Addr} {vs : List Value} {row : List Int} {u : Tok} (X : (Mine.hd.heap_39 w.params).In s.heap) (T : Top Mine.hd.view_39 loose mean mg mb s.heap) (hd : A.depth ≤ 560) (hh : A.handled = none)
    (hr : s.heap.IsList r vs.toArray) (hi : IntsAre vs row) (hrow : ∀ c ∈ row, Cp c) (hlen : row.length ≤ 1000)
    (h : ∀ h' tk P t, Kp s.heap h' → octs P = row.map (fun c => (c - 1).fmod 255 + 1) → Q (.bytes P t) { s with heap := h', toks := tk }) : wpAny (model PySem.Challenge.rw_ko0128_02.row.prog w) A (call (.ref 127) [.ref r, .int 1 u]) Q E s := by
  walk_at "MY enter"
  k_steps
  walk_at "MY open"
  rename Fr _ _ _ _ => F1
  rename News _ _ _ _ => N1
  refine src_listS (vs := vs) (fun n0 i ys nx => nx = n0 ∧ IntsAre ys ((row.take i).map fun c => (c - 1).fmod 255 + 1)) hh F1 N1 (hr.at fun o e => F1.keep _ o e) ?_ (by rw [hi.length]; exact le_size hlen) rfl rfl ⟨rfl, .nil⟩ ?_ ?_
  · obtain ⟨o, e, _⟩ := hr; exact fun q => by rw [q] at e; rw [fr_none F1] at e; cases e
  · rintro I i v C oC D m₂ h₂ tk own ys nx E' hv ⟨rfl, hys⟩ hm hC F₂ N₂ hoff _ hCD
    obtain ⟨n, t, rfl, hn⟩ := ints_item hi hv
    have hc := hrow n (List.mem_of_getElem? hn)
    have hc1 := hc.1
    have hc2 := hc.2
    refine tests0 ?_
    k_steps
    exact ⟨_, _, _, rfl, by k_asm, by k_asm, hoff, rfl, ints_step hn hys rfl⟩
  rintro g tk ys nx ⟨rfl, hys⟩ D h₂ tk₂ F₂ N₂ hoff
  rw [List.take_of_length_le (by rw [hi.length]; exact Nat.le_refl _)] at hys
  clear F1 N1
  k_steps
  have hl : ys.length = row.length := by rw [hys.length]; simp
  refine call_bytes_ints (vs := ys) (News.isList N₂ (.head _)) hys ?_ (by rw [hl]; exact le_size hlen) hh fun h' t' k hk => ?_
  · intro n hn
    obtain ⟨c, hc, rfl⟩ := List.mem_map.mp hn
    have h0 : 0 ≤ (c - 1).fmod 255 := Int.fmod_nonneg_of_pos _ (by decide)
    have h1 : (c - 1).fmod 255 < 255 := Int.fmod_lt_of_pos _ (by decide)
    exact ⟨by omega, by omega⟩
  · k_steps
    refine h _ _ _ _ (Kp.trans F₂.keep hk) ?_
    rw [octs, byteArr, List.toList_toArray, List.map_map, List.map_map]
    refine List.map_congr_left fun c _ => ?_
    have h0 : 0 ≤ (c - 1).fmod 255 := Int.fmod_nonneg_of_pos _ (by decide)
    have h1 : (c - 1).fmod 255 < 255 := Int.fmod_lt_of_pos _ (by decide)
    show (((((c - 1).fmod 255 + 1).toNat.toUInt8).toNat : Nat) : Int) = _
    simp
    omega
end
end
section
local macro_rules | `(tactic| walk_at "call builtin:list.append") => `(tactic| (k_here; refine Halt.mk ?_))
local macro_rules | `(tactic| walk_at "call type:list") => `(tactic| (k_here; (with_reducible show wpAny _ _ (call (Value.type "list") [Value.bytes _ _]) _ _ _); refine Halt.mk ?_))
section
theorem fill_B8 (w : World) (h : Heap) : PySem.Challenge.rw_ko0128_02.Holds → (Mine.hd.heap_39 w.params).In h → True := by
  w_top off
  k_fill
  intros; trivial
set_option maxHeartbeats 8000000
section
variable {w : World} {A : Around} {mg mb : Str → Option Value} {mean : ExcName → Option Value} {loose : List Str} {s : Shared} {Q : Value → Shared → Prop} {E : Value → Shared → Prop}
theorem pieces_s {x : Str} {t : Tok} (X : (Mine.hd.heap_39 w.params).In s.heap) (T : Top Mine.hd.view_39 loose mean mg mb s.heap) (hd : A.depth ≤ 560) (hh : A.handled = none) (hx : x.length ≤ 1000000)
    (h : ∀ h' tk P vs c nx, Kp s.heap h' → (∀ p ∈ (P, lobj vs c) :: nx, h'.get? p.1 = some p.2 ∧ s.heap.get? p.1 = none) → Rows nx vs (pieces (x.cps.toList.map fun c : Nat => (c : Int))) → Q (.ref P) { s with heap := h', toks := tk }) : wpAny (model PySem.Challenge.rw_ko0128_02.row.prog w) A (call (.ref 132) [.str x t]) Q E s := by
  walk_at "MY enter"
  k_steps
  walk_at "MY open"
  rename Fr _ _ _ _ => F1
  rename News _ _ _ _ => N1
  refine src_strS (fun n0 i ys nx => nx = n0 ∧ IntsAre ys ((x.cps.toList.take i).map fun c : Nat => (c : Int))) hh F1 N1 (le_size hx) rfl rfl ⟨rfl, .nil⟩ ?_ ?_
  · rintro I i c u₁ C oC D m₂ h₂ tk own ys nx E' hc ⟨rfl, hys⟩ hm hC F₂ N₂ hoff _ hCD
    refine tests0 ?_
    k_steps
    exact ⟨_, _, _, rfl, F₂, N₂, hoff, rfl, ints_step hc hys rfl⟩
  rintro g tk ys nx ⟨rfl, hys⟩ D h₂ tk₂ F₂ N₂ hoff
  rw [List.take_of_length_le (by simp)] at hys
  generalize hcd : (x.cps.toList.map fun c : Nat => (c : Int)) = codes at hys h
  clear F1 N1
  k_steps
  rename Fr _ _ _ _ => F1
  rename News _ _ _ _ => N1
  refine for_listO (vs := ys) (fun n0 m0 i m nx => Same ["c"] m m0 ∧ (∀ p ∈ nx, p.1 ≠ D) ∧ ∃ P, m0 "pieces" = some (.ref P) ∧ PLoop P nx (pfold (codes.take i))) hh F1 (fun p hp => N1 p (.tail _ hp)) (News.isList N1 (.head _)) (N1 _ (.head _)).2.1 (by exact ⟨Same.refl, hoff, _, rfl, [], _, _, [], _, [], rfl, alnil, .nil, fun _ h => (nomatch h), by k_ne⟩) ?_ ?_
  · rintro I i v m1 nx h1 tk1 own hv hI hDo hown hnx ⟨hm, hDn, P', hP', vs, a', c1, zs, c2, rest, rfl, hr, hz, hd', hPa⟩ F3 N3
    obtain rfl := Value.ref.inj (Option.some.inj hP')
    obtain ⟨n, t, rfl, hn⟩ := ints_item hys hv
    rw [map0 hm] at F3
    dsimp only at F3
    have hD0 := hDo (N1 _ (.head _)).2.2
    clear F1 N1
    have hlast : (vs ++ [Value.ref a'])[(vs ++ [Value.ref a']).length - 1]? = some (.ref a') := by simp
    have hi : i < codes.length := (List.getElem?_eq_some_iff.mp hn).1
    have hcl : codes.length ≤ 1000000 := by rw [← hcd, List.length_map]; exact hx
    have hvl : (vs ++ [Value.ref a']).length ≤ sizeLine := by
      rw [List.length_append, hr.1]
      have := pfold_len (codes.take i)
      rw [List.length_take] at this
      exact le_size (k := 1000001) (by simp; omega)
    have hzl : zs.length ≤ sizeLine := by
      rw [hz.length]
      have := pfold_len2 (codes.take i)
      rw [List.length_take] at this
      exact le_size (k := 1000000) (by omega)
    walk_at "MY hideT"
    k_steps
    · walk_at "MY open"
      rename Fr _ _ _ _ => F4
      rename News _ _ _ _ => N4
      rename (∀ p : Addr × Obj, p ∈ _ → p.1 < _) => lt4
      refine append_led F4 N4 (.tail _ (List.mem_append_right _ (.head _))) hvl fun h5 k5 F5 hP5 hk5 => ?_
      have hown5 : ∀ p ∈ own, p.1 ≠ _ := fun p hp q => by
        rcases hown p hp with e | e
        · exact hnx _ (.head _) (List.mem_singleton.mpr (q.symm.trans e))
        · exact hDn _ (.head _) (q.symm.trans e)
      have ⟨nx', N5, off5, J5⟩ := ploop_new (Z := fun b => b ∉ [I] ∧ b ≠ D) (st := pfold (codes.take i)) (c := n) (by omega) N4 (by
        obtain ⟨o, ho⟩ := hI
        obtain ⟨o2, ho2⟩ := hD0
        exact ⟨fun q => Nat.lt_irrefl _ (List.mem_singleton.mp q ▸ lt4 _ (List.mem_append_left _ ho)), fun q => Nat.lt_irrefl _ (q ▸ lt4 _ (List.mem_append_left _ ho2))⟩) (fun p hp => ⟨hnx p hp, hDn p hp⟩) lt4 hP5 hk5 hown5 hr hz hd' hPa
      k_steps
      walk_at "MY showT"
      refine' ⟨_, _, _, nx', rfl, by k_asm, N5, fun p hp => (off5 p hp).1, ?_, fun p hp => (off5 p hp).2, _, rfl, ?_⟩
      · walk_at "MY same"
      · rw [take_snoc hn, pfold_snoc]; exact J5
    · walk_at "MY open"
      refine append_led F3 N3 (List.mem_append_right _ (.tail _ (.head _))) hzl fun h5 k5 F5 hP5 hk5 => ?_
      have hown5 : ∀ p ∈ own, p.1 ≠ a' := fun p hp q => by
        rcases hown p hp with e | e
        · exact hnx _ (.tail _ (.head _)) (List.mem_singleton.mpr (q.symm.trans e))
        · exact hDn _ (.tail _ (.head _)) (q.symm.trans e)
      obtain ⟨nx', N5, off5, J5⟩ := ploop_more (Z := fun b => b ∉ [I] ∧ b ≠ D) (st := pfold (codes.take i)) (c := n) (by omega) N3 (fun p hp => ⟨hnx p hp, hDn p hp⟩) hP5 hk5 hown5 hr hz hd' hPa
      k_steps
      walk_at "MY showT"
      refine' ⟨_, _, _, nx', rfl, by k_asm, N5, fun p hp => (off5 p hp).1, ?_, fun p hp => (off5 p hp).2, _, rfl, ?_⟩
      · walk_at "MY same"
      · rw [take_snoc hn, pfold_snoc]; exact J5
  · rintro m1 nx h1 tk1 ⟨hm, hDn, P', hP', vs, a', c1, zs, c2, rest, rfl, hr, hz, hd', hPa⟩ F3 N3
    obtain rfl := Value.ref.inj (Option.some.inj hP')
    rw [map0 hm] at F3
    dsimp only at F3
    clear F1 N1
    k_steps
    rw [List.take_of_length_le (by rw [hys.length]; exact Nat.le_refl _)] at hr hz
    refine h _ _ _ (vs ++ [.ref a']) c1 ((a', lobj zs c2) :: rest) F3.keep (fun p hp => ⟨(N3 p hp).1, (N3 p hp).2.2⟩) (alsnoc (hr.sub fun p hp => .tail _ hp) ⟨a', c2, zs, rfl, .head _, hz⟩)
theorem pieces_b {x : Array UInt8} {t : Tok} (X : (Mine.hd.heap_39 w.params).In s.heap) (T : Top Mine.hd.view_39 loose mean mg mb s.heap) (hd : A.depth ≤ 560) (hh : A.handled = none) (hx : x.size ≤ 1000000)
    (h : ∀ h' tk P vs c nx, Kp s.heap h' → (∀ p ∈ (P, lobj vs c) :: nx, h'.get? p.1 = some p.2 ∧ s.heap.get? p.1 = none) → Rows nx vs (pieces (octs x)) → Q (.ref P) { s with heap := h', toks := tk }) : wpAny (model PySem.Challenge.rw_ko0128_02.row.prog w) A (call (.ref 132) [.bytes x t]) Q E s := by
  walk_at "MY enter"
  k_steps
  walk_at "MY open"
  rename Fr _ _ _ _ => F1
  rename News _ _ _ _ => N1
  refine list_bytesK hh F1 N1 (le_size hx) fun D ys c0 h₂ tk₂ F₂ N₂ hys hlt => ?_
  have hoff := fun (p : Addr × Obj) hp => Nat.ne_of_lt (hlt p hp)
  have hcd0 : (octs x).length = x.size := by simp [octs]
  generalize octs x = codes at hys h hcd0
  clear F1 N1
  k_steps
  rename Fr _ _ _ _ => F1
  rename News _ _ _ _ => N1
  refine for_listO (vs := ys) (fun n0 m0 i m nx => Same ["c"] m m0 ∧ (∀ p ∈ nx, p.1 ≠ D) ∧ ∃ P, m0 "pieces" = some (.ref P) ∧ PLoop P nx (pfold (codes.take i))) hh F1 (fun p hp => N1 p (.tail _ hp)) (News.isList N1 (.head _)) (N1 _ (.head _)).2.1 (by exact ⟨Same.refl, hoff, _, rfl, [], _, _, [], _, [], rfl, alnil, .nil, fun _ h => (nomatch h), by k_ne⟩) ?_ ?_
  · rintro I i v m1 nx h1 tk1 own hv hI hDo hown hnx ⟨hm, hDn, P', hP', vs, a', c1, zs, c2, rest, rfl, hr, hz, hd', hPa⟩ F3 N3
    obtain rfl := Value.ref.inj (Option.some.inj hP')
    obtain ⟨n, t, rfl, hn⟩ := ints_item hys hv
    rw [map0 hm] at F3
    dsimp only at F3
    have hD0 := hDo (N1 _ (.head _)).2.2
    clear F1 N1
    have hlast : (vs ++ [Value.ref a'])[(vs ++ [Value.ref a']).length - 1]? = some (.ref a') := by simp
    have hi : i < codes.length := (List.getElem?_eq_some_iff.mp hn).1
    have hcl : codes.length ≤ 1000000 := by rw [hcd0]; exact hx
    have hvl : (vs ++ [Value.ref a']).length ≤ sizeLine := by
      rw [List.length_append, hr.1]
      have := pfold_len (codes.take i)
      rw [List.length_take] at this
      exact le_size (k := 1000001) (by simp; omega)
    have hzl : zs.length ≤ sizeLine := by
      rw [hz.length]
      have := pfold_len2 (codes.take i)
      rw [List.length_take] at this
      exact le_size (k := 1000000) (by omega)
    walk_at "MY hideT"
    k_steps
    · walk_at "MY open"
      rename Fr _ _ _ _ => F4
      rename News _ _ _ _ => N4
      rename (∀ p : Addr × Obj, p ∈ _ → p.1 < _) => lt4
      refine append_led F4 N4 (.tail _ (List.mem_append_right _ (.head _))) hvl fun h5 k5 F5 hP5 hk5 => ?_
      have hown5 : ∀ p ∈ own, p.1 ≠ _ := fun p hp q => by
        rcases hown p hp with e | e
        · exact hnx _ (.head _) (List.mem_singleton.mpr (q.symm.trans e))
        · exact hDn _ (.head _) (q.symm.trans e)
      have ⟨nx', N5, off5, J5⟩ := ploop_new (Z := fun b => b ∉ [I] ∧ b ≠ D) (st := pfold (codes.take i)) (c := n) (by omega) N4 (by
        obtain ⟨o, ho⟩ := hI
        obtain ⟨o2, ho2⟩ := hD0
        exact ⟨fun q => Nat.lt_irrefl _ (List.mem_singleton.mp q ▸ lt4 _ (List.mem_append_left _ ho)), fun q => Nat.lt_irrefl _ (q ▸ lt4 _ (List.mem_append_left _ ho2))⟩) (fun p hp => ⟨hnx p hp, hDn p hp⟩) lt4 hP5 hk5 hown5 hr hz hd' hPa
      k_steps
      walk_at "MY showT"
      refine' ⟨_, _, _, nx', rfl, by k_asm, N5, fun p hp => (off5 p hp).1, ?_, fun p hp => (off5 p hp).2, _, rfl, ?_⟩
      · walk_at "MY same"
      · rw [take_snoc hn, pfold_snoc]; exact J5
    · walk_at "MY open"
      refine append_led F3 N3 (List.mem_append_right _ (.tail _ (.head _))) hzl fun h5 k5 F5 hP5 hk5 => ?_
      have hown5 : ∀ p ∈ own, p.1 ≠ a' := fun p hp q => by
        rcases hown p hp with e | e
        · exact hnx _ (.tail _ (.head _)) (List.mem_singleton.mpr (q.symm.trans e))
        · exact hDn _ (.tail _ (.head _)) (q.symm.trans e)
      obtain ⟨nx', N5, off5, J5⟩ := ploop_more (Z := fun b => b ∉ [I] ∧ b ≠ D) (st := pfold (codes.take i)) (c := n) (by omega) N3 (fun p hp => ⟨hnx p hp, hDn p hp⟩) hP5 hk5 hown5 hr hz hd' hPa
      k_steps
      walk_at "MY showT"
      refine' ⟨_, _, _, nx', rfl, by k_asm, N5, fun p hp => (off5 p hp).1, ?_, fun p hp => (off5 p hp).2, _, rfl, ?_⟩
      · walk_at "MY same"
      · rw [take_snoc hn, pfold_snoc]; exact J5
  · rintro m1 nx h1 tk1 ⟨hm, hDn, P', hP', vs, a', c1, zs, c2, rest, rfl, hr, hz, hd', hPa⟩ F3 N3
    obtain rfl := Value.ref.inj (Option.some.inj hP')
    rw [map0 hm] at F3
    dsimp only at F3
    clear F1 N1
    k_steps
    rw [List.take_of_length_le (by rw [hys.length]; exact Nat.le_refl _)] at hr hz
    refine h _ _ _ (vs ++ [.ref a']) c1 ((a', lobj zs c2) :: rest) F3.keep (fun p hp => ⟨(N3 p hp).1, (N3 p hp).2.2⟩) (alsnoc (hr.sub fun p hp => .tail _ hp) ⟨a', c2, zs, rfl, .head _, hz⟩)
end
end
end
section
local macro_rules | `(tactic| walk_at "subscriptTail Name Slice ref ref") => `(tactic| (k_here; (with_reducible show wpAny _ _ (subscriptTail _ (PySem.Expr.Slice _ _ none _) (Value.ref _) (Value.ref _)) _ _ _); k_dflt (refine' slice_any ?F ?N ?l ?p ?q ?_ ?s ?t ?z; (case F => k_asm); (case N => k_asm); (case l => kmk_list); (case p => kmk_part); (case q => kmk_part); (case s => with_unfolding_all rfl); (case t => kmk_pure); (case z => first | assumption | exact Nat.le_of_ble_eq_true rfl)); intro D' h' F' N' l1; (try simp only [pick_tail1] at N'); (try k_lt l1); (try k_sweep)))
section
local macro_rules | `(tactic| walk_at "call ref") => `(tactic| (k_here; (with_reducible show wpAny _ _ (call (Value.ref 115) _) _ _ _); refine Halt.mk ?_))
local macro_rules | `(tactic| walk_at "call ref") => `(tactic| (k_here; (with_reducible show wpAny _ _ (call (Value.ref 132) _) _ _ _); refine Halt.mk ?_))
local macro_rules | `(tactic| walk_at "call ref") => `(tactic| (k_here; (with_reducible show wpAny _ _ (call (Value.ref 137) _) _ _ _); refine Halt.mk ?_))
local macro_rules | `(tactic| walk_at "call ref") => `(tactic| (k_here; (with_reducible show wpAny _ _ (call (Value.ref 127) _) _ _ _); refine Halt.mk ?_))
local macro_rules | `(tactic| walk_at "call ref") => `(tactic| (k_here; (with_reducible show wpAny _ _ (call (Value.ref 122) _) _ _ _); refine Halt.mk ?_))
section
local macro_rules | `(tactic| k_all) => `(tactic| assumption)
local macro_rules | `(tactic| k_mem) => `(tactic| first | assumption | (refine List.mem_append_right _ ?_; k_mem) | exact List.mem_append_left _ (by assumption))
local macro_rules | `(tactic| walk_at "subscriptTail Name Constant ref int") => `(tactic| (k_here; k_dflt (refine' item_zero ?l ?_; (case l => kmk_list))))
local macro_rules | `(tactic| walk_at "compareOp Eq ref ref") => `(tactic| (k_here; first | k_dflt (refine' ke_eq_ints ?a ?b ?i ?j ?u ?_; (case a => kmk_list); (case b => kmk_list); (case i => first | assumption | exact IntsAre.nil); (case j => first | assumption | exact IntsAre.nil); (case u => (simp only [units_in1, units_deeper, Around.mark_units]; rw [show cLine = 9900 from rfl]; omega))) | refine Halt.mk ?_))
section
local macro_rules | `(tactic| walk_at "StarOf ref") => `(tactic| (k_here; k_dflt (refine' star_list ?k1 ?k2 ?l ?z ?_; (case k1 => k_asm); (case k2 => k_asm); (case l => first | kmk_list | exact Heap.IsList.at (by assumption) fun o e => Fr.keep (by k_asm) _ o e); (case z => assumption); k_whole); intro h' F' N'; (try k_sweep); try dsimp only [List.nil_append, List.cons_append]))
section
local macro_rules | `(tactic| walk_at "MY enterC") => `(tactic| (refine wpAny_call ?_; (refine' enterC ?k1 ?k2 ?k3 ?k4 ?k5 ?k6 ?k7 ?k7b ?_ ?k9 ?k10 ?k11; (case k1 => assumption); (case k2 => assumption); (case k3 => k_room); (case k4 => k_is); (case k5 => k_is); (case k6 => first | exact BindsTo.of_eq rfl | exact binds_K (by k_in) rfl (by k_is) rfl rfl rfl); (case k7 => exact fun n x hx => .inl (locs rfl x hx)); (case k7b => decide); (case k9 => exact rfl); (case k10 => exact rfl); (case k11 => exact rfl); k_whole; intro L1 h1 tk1 cells1 F1 N1 Y1; (try dsimp only); (try k_fold))))
section
theorem fill_B11 (w : World) (h : Heap) : PySem.Challenge.rw_ko0128_02.Holds → (Mine.hd.heap_39 w.params).In h → True := by
  w_top off
  k_fill
  intros; trivial
set_option maxHeartbeats 8000000
def kb (b : TB) : Int := if b.isB then 1 else 0
section
variable {w : World} {A : Around} {mg mb : Str → Option Value} {mean : ExcName → Option Value} {loose : List Str} {s : Shared} {Q : Value → Shared → Prop} {E : Value → Shared → Prop} {base : Heap} {fs : List Env}
theorem right_bad {Lp Lk : Addr} {pvs kvs : List Value} {b0 : TB} {br : List TB} {ks : List Int} (B : Below A base fs s.heap) (X₀ : (Mine.hd.heap_39 w.params).In base) (T₀ : Top Mine.hd.view_39 loose mean mg mb base) (hd : A.depth ≤ 530) (hh : A.handled = none)
    (hp : s.heap.IsList Lp pvs.toArray) (hpv : Al RTB pvs (b0 :: br)) (hk : s.heap.IsList Lk kvs.toArray) (hkv : IntsAre kvs ks) (hz : lensT (b0 :: br) ≤ 1000) (hmix : ¬ ∀ b ∈ br, b.isB = b0.isB)
    (a0 : (ks.any fun x => x == 0) = true) (a1 : (ks.any fun x => x == 1) = true)
    (h : ∀ h' tk, KfS (fs.filterMap (·.frame)) s.heap h' → Q (.bool true) { s with heap := h', toks := tk }) :
    wpAny (model PySem.Challenge.rw_ko0128_02.row.prog w) A (call (.ref 137) [.ref Lp, .ref Lk]) Q E s := by
  have X := X₀.keeps B.stays
  have T := T₀.keeps B.stays
  have hpz : pvs.length ≤ sizeLine := by rw [hpv.1]; exact le_size (k := 1000) (Nat.le_trans (lensT_ge _) hz)
  obtain ⟨v0, vr, rfl, hv0, hvr⟩ := al_head hpv
  have hz2 : b0.len + lensT br ≤ 1000000 := by
    have : lensT (b0 :: br) = (b0.len + 1) + lensT br := by simp [lensT]
    omega
  walk_at "MY enterC"
  obtain ⟨oc, hY, hoc⟩ := CellsAre.one (by assumption)
  subst hY
  k_steps
  try k_dflt (refine wpAny_Try_except ?_)
  try k_steps
  walk_at "MY open"
  try rw [List.append_nil]
  rename Fr _ _ _ _ => F1
  rename News _ _ _ _ => N1
  rw [a1] at F1
  refine join_any (pushX B F1 (by rfl) (by rfl)) X₀ T₀ (by k_room) hh hv0 hvr hz2 (fun q => absurd q hmix) (fun _ h' tk' e c hx => ?_)
  obtain ⟨gg, fobs, GG, kf0⟩ := gnd B
  have N2 := GG.led kf0 F1 N1
  have F2 := GG.fr F1
  have X2 := X₀.keeps GG.bg
  have T2 := T₀.keeps GG.bg
  have hcn := (N1 _ (.head _)).2.2
  refine catch_hitE (base := base) (fs := fs) (g := gg) B GG F2 N2 (fun q hq => ?_) rfl rfl hx (fun b hb => hb) (testE_builtin (A₀ := A) (mean := fun _ => none) (c := .type "TypeError") X2 (topRead_of T2) ?_ ?_) fun h8 oe To oT fobs' G8 F8 N8 hob => ?_
  · rw [List.mem_singleton.mp hq]
    intro hm
    obtain ⟨_, o, ho, _⟩ := B.frames.mem hm
    rw [hcn] at ho; cases ho
  · kts_exm
  · intro M' A' E' Q' s' m' F' q'
    with_unfolding_all exact nameX_B F' X2 (topRead_of T2) (by k_is) (by boot_by_name) (by decide) q'
  · simp only [List.cons_append, List.nil_append] at N8
    clear F1 N1 F2 N2 X T
    k_steps
    exact h _ _ (G8.kf F8 fun p hp => (N8 p (.tail _ (.tail _ (.tail _ hp)))).1)
end
end
section
local macro_rules | `(tactic| walk_at "call type:range") => `(tactic| (k_here; (with_reducible show wpAny _ _ (call _ [Value.int _ _, Value.int _ _]) _ _ _); refine Halt.mk ?_))
section
local macro_rules | `(tactic| walk_at "exec If") => `(tactic| (k_here; rename MergeMark => kMM; clear kMM; refine Halt.mk ?_))
section
theorem fill_B12 (w : World) (h : Heap) : PySem.Challenge.rw_ko0128_02.Holds → (Mine.hd.heap_39 w.params).In h → True := by
  w_top off
  k_fill
  intros; trivial
set_option maxHeartbeats 8000000
theorem lensT_mem {b : TB} {bs : List TB} (h : b ∈ bs) : b.len ≤ lensT bs := by
  induction bs with
  | nil => cases h
  | cons a r ih =>
    have h3 : lensT (a :: r) = (a.len + 1) + lensT r := by simp [lensT]
    rcases List.mem_cons.mp h with rfl | h
    · omega
    · have := ih h; omega
theorem lensL_codes (bs : List TB) : lensL (bs.map codesT) = lensT bs := by
  unfold lensL lensT
  rw [List.map_map]
  congr 1
  exact List.map_congr_left fun b _ => by simp [codesT_len]
def tbsP (bs : List TB) : List (List (List Int)) := bs.map fun b => pieces (codesT b)
theorem pieces_len (l : List Int) : (pieces l).length ≤ l.length + 1 := by
  have := pfold_len l
  unfold pieces
  rw [List.length_append, List.length_singleton]; omega
theorem part_len (bs : List TB) (i : Nat) (b : TB) (hb : bs[i]? = some b) : (duePart (tbsP bs) i).length ≤ b.len + 1 := by
  have h1 := pieces_len (codesT b)
  rw [codesT_len] at h1
  unfold duePart tbsP
  rw [List.getElem?_map, hb]
  simp only [Option.map_some]
  split
  · rw [List.length_dropLast]; omega
  · exact h1
theorem due_len (bs : List TB) (f : Nat) : ∀ i, i ≤ bs.length → (dueFrom (tbsP bs) f i).length ≤ lensT (bs.take i)
  | 0, _ => by simp [dueFrom]
  | i + 1, h => by
    have hi : i < bs.length := by omega
    have hb := List.getElem?_eq_getElem hi
    rw [take_snoc hb, lensT_snoc, dueFrom]
    split
    · have := due_len bs f i (by omega)
      have := part_len bs i _ hb
      rw [List.length_append]; omega
    · simp
section
variable {w : World} {A : Around} {mg mb : Str → Option Value} {mean : ExcName → Option Value} {loose : List Str} {s : Shared} {Q : Value → Shared → Prop} {E : Value → Shared → Prop} {base : Heap} {fs : List Env}
theorem pieces_any {v : Value} {b : TB} (X : (Mine.hd.heap_39 w.params).In s.heap) (T : Top Mine.hd.view_39 loose mean mg mb s.heap) (hd : A.depth ≤ 560) (hh : A.handled = none) (hv : RTB v b) (hx : b.len ≤ 1000000)
    (h : ∀ h' tk P vs c nx, Kp s.heap h' → (∀ p ∈ (P, lobj vs c) :: nx, h'.get? p.1 = some p.2 ∧ s.heap.get? p.1 = none) → Rows nx vs (pieces (codesT b)) → Q (.ref P) { s with heap := h', toks := tk }) : wpAny (model PySem.Challenge.rw_ko0128_02.row.prog w) A (call (.ref 132) [v]) Q E s := by
  cases b with
  | t x => obtain ⟨t, rfl⟩ := hv; exact pieces_s X T hd hh hx h
  | b x => obtain ⟨t, rfl⟩ := hv; exact pieces_b X T hd hh hx h
theorem right_good {Lp Lk : Addr} {pvs kvs : List Value} {b0 : TB} {br : List TB} {ks : List Int} (B : Below A base fs s.heap) (X₀ : (Mine.hd.heap_39 w.params).In base) (T₀ : Top Mine.hd.view_39 loose mean mg mb base) (hd : A.depth ≤ 530) (hu : A.units ≤ 5000) (hh : A.handled = none)
    (hp : s.heap.IsList Lp pvs.toArray) (hpv : Al RTB pvs (b0 :: br)) {tk0 : Tok} (hk : s.heap.IsList Lk (.int (kb b0) tk0 :: kvs).toArray) (hkv : IntsAre (.int (kb b0) tk0 :: kvs) ks) (hz : lensT (b0 :: br) ≤ 1000) (hsame : ∀ b ∈ br, b.isB = b0.isB)
    (hmx : (b0.isB = false ∧ (ks.any fun x => x == 0) = true ∧ (ks.any fun x => x == 1) = false) ∨ (b0.isB = true ∧ (ks.any fun x => x == 0) = false ∧ (ks.any fun x => x == 1) = true))
    (h : ∀ h' tk, Kp s.heap h' → Q (.bool true) { s with heap := h', toks := tk }) :
    wpAny (model PySem.Challenge.rw_ko0128_02.row.prog w) A (call (.ref 137) [.ref Lp, .ref Lk]) Q E s := by
  have X := X₀.keeps B.stays
  have T := T₀.keeps B.stays
  have hpz : pvs.length ≤ sizeLine := by rw [hpv.1]; exact le_size (k := 1000) (Nat.le_trans (lensT_ge _) hz)
  obtain ⟨v0, vr, rfl, hv0, hvr⟩ := al_head hpv
  have hz2 : (b0).len + lensT br ≤ 1000000 := by
    have : lensT (b0 :: br) = ((b0).len + 1) + lensT br := by simp [lensT]
    omega
  walk_at "MY enterC"
  obtain ⟨oc, hY, hoc⟩ := CellsAre.one (by assumption)
  subst hY
  rename Fr _ _ _ _ => F0
  rename News _ _ _ _ => N0
  refine execs_merge (Str.ofString "mixed") (.bool false) F0 N0 ?_ fun h1 tk1 F1 N1 => ?_
  · intro K hK
    rcases hmx with ⟨_, a0, a1⟩ | ⟨_, a0, a1⟩
    · k_steps
      refine hK _ _ ?_ (by k_asm)
      rename Fr _ _ _ _ => F1
      rw [a1] at F1
      exact F1
    · k_steps
      refine hK _ _ ?_ (by k_asm)
      rename Fr _ _ _ _ => F1
      try rw [a0] at F1
      exact F1
  clear F0 N0
  k_steps
  try k_dflt (refine wpAny_Try_except ?_)
  try k_steps
  walk_at "MY open"
  try rw [List.append_nil]
  rename Fr _ _ _ _ => F1
  rename News _ _ _ _ => N1
  refine join_any (pushX B F1 (by rfl) (by rfl)) X₀ T₀ (by k_room) hh hv0 hvr hz2 (fun _ h' tk' tv tb hk' htv htb hcodes => ?_) (fun q => absurd hsame q)
  have F3 := Fr.grownK F1 hk'
  have N3 := News.grown N1 hk'
  clear F1 N1
  have hmark := MergeMark.mk
  k_steps
  walk_at "MY open"
  try clear F3
  try clear N3
  rename Fr _ _ _ _ => F4
  rename News _ _ _ _ => N4
  have hkb : kb b0 = if tb.isB then 1 else 0 := by rw [htb]; rfl
  refine exec_merge F4 N4 ?_ fun h5 tk5 F5 N5 => ?_
  · intro K hK
    cases tb with
    | t y =>
      obtain ⟨uv, rfl⟩ := htv
      have hkb : kb b0 = 0 := hkb
      rw [hkb] at hk
      k_steps
      exact hK _ _ (by k_asm) (by k_asm)
    | b y =>
      obtain ⟨uv, rfl⟩ := htv
      have hkb : kb b0 = 1 := hkb
      rw [hkb] at hk
      k_steps
      exact hK _ _ (by k_asm) (by k_asm)
  clear F4 N4
  k_steps
  walk_at "MY open"
  try clear F3
  try clear N3
  rename Fr _ _ _ _ => F1
  rename News _ _ _ _ => N1
  refine src_listS (vs := v0 :: vr) (fun n0 i ys nx => ∃ inner, nx = inner ++ n0 ∧ (∀ p ∈ inner, ∀ q ∈ n0, p.1 ≠ q.1) ∧ Al (Cut inner) ys (((b0 :: br).take i).map fun b => pieces (codesT b))) hh F1 N1 (hp.at fun o e => F1.keep _ o e) ?_ hpz rfl rfl ⟨[], rfl, fun _ h => (nomatch h), alnil⟩ ?_ ?_
  · obtain ⟨o, e, _⟩ := hp; exact fun q => by rw [q] at e; rw [fr_none F1] at e; cases e
  · rintro I i v C oC D m₂ h₂ tk own ys nx E' hv ⟨inner, rfl, hin, hys⟩ hm hC F₂ N₂ hoff hI hCD
    obtain ⟨b, hb, hvb⟩ := hpv.2 i v hv
    have hbl : b.len ≤ 1000 := by
      have := lensT_mem (List.mem_of_getElem? hb); omega
    refine tests0 ?_
    k_steps
    walk_at "MY open"
    refine pieces_any (X.keeps F₂.keep) (T.keeps F₂.keep) (by k_room) hh hvb (Nat.le_trans hbl (by decide)) fun h5 tk5 P vs c nw k5 new5 r5 => ?_
    obtain ⟨oI, hoI⟩ := hI
    have eI := (N₂ _ (List.mem_append_left _ hoI)).1
    have eC := (N₂ _ (List.mem_append_right _ (.head _))).1
    have eD := (N₂ _ (List.mem_append_right _ (.tail _ (.head _)))).1
    have N6 := news_new F₂ N₂ k5 new5
    refine ⟨_, _, ((P, lobj vs c) :: nw) ++ (inner ++ _), rfl, F₂.keeps k5, news_sub N6 fun p hp => ?_, fun p hp => ?_, ((P, lobj vs c) :: nw) ++ inner, (List.append_assoc _ _ _).symm, fun p hp q hq => ?_, ?_⟩
    · simp only [List.mem_append, List.mem_cons, List.not_mem_nil, or_false] at hp ⊢
      rcases hp with hp | hp | hp | (hp | hp) | hp <;> simp [hp]
    · rcases List.mem_append.mp hp with hp | hp
      · exact ⟨fun q => new_ne new5 eI p hp (List.mem_singleton.mp q), new_ne new5 eC p hp, new_ne new5 eD p hp⟩
      · exact hoff p hp
    · rcases List.mem_append.mp hp with hp | hp
      · exact new_ne new5 (N₂ q (List.mem_append_right _ (.tail _ (.tail _ (List.mem_append_right _ hq))))).1 p hp
      · exact hin p hp q hq
    · rw [take_snoc hb, List.map_append, List.map_singleton]
      refine alsnoc (hys.mono fun v d _ q => q.sub fun p hp => List.mem_append_right _ hp) ⟨P, c, vs, rfl, List.mem_append_left _ (.head _), r5.sub fun p hp => List.mem_append_left _ (.tail _ hp)⟩
  rintro g tk ys nx ⟨inner, rfl, hin, hys⟩ D h₂ tk₂ F₂ N₂ hoff
  rw [List.take_of_length_le (by rw [hpv.1]; exact Nat.le_refl _)] at hys
  have o1 := neN (hoff _ (List.mem_append_right _ (.head _)))
  have hin1 := fun p hp => hin p hp _ (.head _)
  have hD1 : ∀ p ∈ inner, p.1 ≠ D := fun p hp => hoff p (List.mem_append_left _ hp)
  have N₄ := fun (p : Addr × Obj) (hp : p ∈ (_, oc) :: (D, LCg.lst ys) :: inner) => N₂ p (by
    rcases List.mem_cons.mp hp with q | hp
    · rw [q]; exact .tail _ (List.mem_append_right _ (.head _))
    · rcases List.mem_cons.mp hp with q | hp
      · rw [q]; exact .head _
      · exact .tail _ (List.mem_append_left _ hp))
  replace N₄ : News _ _ _ ((_, oc) :: (D, LCg.lst ys) :: inner) := N₄
  dsimp only at o1 hin1
  have hyz : ys.length ≤ sizeLine := by rw [hys.1, List.length_map]; exact le_size (k := 1000) (Nat.le_trans (lensT_ge _) hz)
  clear N₂ hoff hin
  try clear F1
  try clear N1
  k_steps
  walk_at "MY open"
  rename Fr _ _ _ _ => F1
  rename News _ _ _ _ => N1
  refine comp_range (fun n0 i zs nx => nx = n0 ∧ IntsAre zs (firsts (tbsP (b0 :: br)) i)) hh F1 N1 hyz rfl rfl ⟨rfl, .nil⟩ ?_ ?_
  · rintro I i tv C oC D₁ m₂ h₂ tk own zs nx E' hi ⟨rfl, hzs⟩ hm hC F₂ N₂ hoff _ hCD
    obtain ⟨d, hd0, P, c, vs, hvP, hPm, hPr⟩ := hys.2 i _ (List.getElem?_eq_getElem hi)
    have hv := List.getElem?_eq_getElem hi
    rw [hvP] at hv
    obtain ⟨d1, dr, rfl⟩ : ∃ d1 dr, d = d1 :: dr := by
      rw [List.getElem?_map] at hd0
      obtain ⟨b, _, rfl⟩ := Option.map_eq_some_iff.mp hd0
      unfold pieces
      cases (pfold (codesT b)).1 with
      | nil => exact ⟨_, _, rfl⟩
      | cons a r => exact ⟨_, _, rfl⟩
    obtain ⟨v1, vr1, rfl, ⟨a1, c1, us1, rfl, hm1, hu1⟩, hr1⟩ := al_head hPr
    have hvz : (Value.ref a1 :: vr1).length ≤ sizeLine := by
      rw [hPr.1]
      rw [List.getElem?_map] at hd0
      obtain ⟨b, hb, e⟩ := Option.map_eq_some_iff.mp hd0
      have e1 := pieces_len (codesT b)
      rw [codesT_len, show pieces (codesT b) = d1 :: dr from e] at e1
      have e2 := lensT_mem (List.mem_of_getElem? hb)
      exact le_size (k := 1001) (by omega)
    have hq1 : (Value.ref a1 :: vr1).length = (d1 :: dr).length := hPr.1
    refine tests1 ?_
    k_steps
    · rename News _ _ _ _ => N5
      exact ⟨_, _, _, rfl, by k_asm, news_sub N5 fun p hp => .tail _ hp, hoff, rfl, firsts_yes hd0 (by rw [← hq1]; omega) (by assumption) hzs⟩
    · rename News _ _ _ _ => N5
      exact ⟨_, _, _, rfl, by k_asm, news_sub N5 fun p hp => .tail _ hp, hoff, rfl, firsts_no hd0 (.inr (by assumption)) hzs⟩
    · exact ⟨_, _, _, rfl, by k_asm, by k_asm, hoff, rfl, firsts_no hd0 (.inl (by
        rw [← hq1]; omega)) hzs⟩
  rintro g tk zs nx ⟨rfl, hzs⟩ D₁ h₂ tk₂ F₂ N₂ hoff
  try clear F1
  try clear N1
  have o2 := neN (hoff _ (.head _))
  have o3 := neN (hoff _ (.tail _ (.head _)))
  have o4 := neN (hoff _ (.tail _ (.tail _ (.head _))))
  have hin2 : ∀ p ∈ inner, p.1 ≠ D₁ := fun p hp => hoff p (.tail _ (.tail _ (.tail _ hp)))
  dsimp only at o2 o3 o4
  clear hoff
  have hyl : ys.length ≤ 1000 := by rw [hys.1, List.length_map]; exact Nat.le_trans (lensT_ge _) hz
  have hzl : zs.length ≤ 1000 := by rw [hzs.length]; exact Nat.le_trans (firsts_len _ _) hyl
  k_steps
  walk_at "MY open"
  rename Fr _ _ _ _ => F1
  rename News _ _ _ _ => N1
  rename (_ ∈ _ ++ _) => hM1
  rename (∀ a : Int, a ∈ _ ++ _ → _) => hM2
  rename Int => M
  have hM0 : 0 ≤ M := hM2 0 (by simp)
  obtain ⟨f, rfl⟩ : ∃ f : Nat, M = (f : Int) := ⟨M.toNat, by omega⟩
  have hfm : f = 0 ∨ (f : Int) ∈ firsts (tbsP (b0 :: br)) ys.length := by
    rcases List.mem_append.mp hM1 with q | q
    · have := List.mem_singleton.mp q; exact .inl (by omega)
    · exact .inr q
  have hfub : ∀ x ∈ firsts (tbsP (b0 :: br)) ys.length, x ≤ (f : Int) := fun x hx => hM2 x (List.mem_append_right _ hx)
  have hfy : f ≤ ys.length := by
    rcases hfm with q | q
    · omega
    · obtain ⟨j, hj, e, _⟩ := firsts_mem.mp q; omega
  have hps : (tbsP (b0 :: br)).length = ys.length := by rw [hys.1]; simp [tbsP]
  refine for_range2 (fun n0 m0 i m nx => Same ["k", "last", "due"] m m0 ∧ ∃ junk Dd us c, nx = junk ++ n0 ∧ m "due" = some (.ref Dd) ∧ (Dd, lobj us c) ∈ nx ∧ Rows nx us (dueFrom (tbsP (b0 :: br)) f i)) hh F1 N1 hfy hyz ⟨Same.refl, [], _, [], 0, rfl, rfl, .head _, by rw [due_self]; exact alnil⟩ ?_ ?_
  · rintro I i tv m1 nx h1 tk1 own hfi hi hI hown hnx ⟨hm, junk, Dd, us, cD, rfl, hdue, hDm, hdr⟩ F3 N3
    rw [map1 hdue hm] at F3
    dsimp only at F3
    clear F1 N1
    obtain ⟨d, hd0, P, c, vs, hvP, hPm, hPr⟩ := hys.2 i _ (List.getElem?_eq_getElem hi)
    have hv := List.getElem?_eq_getElem hi
    rw [hvP] at hv
    have hdl : d.length ≤ 1001 := by
      rw [List.getElem?_map] at hd0
      obtain ⟨b, hb, rfl⟩ := Option.map_eq_some_iff.mp hd0
      show (pieces (codesT b)).length ≤ 1001
      have e1 := pieces_len (codesT b)
      rw [codesT_len] at e1
      have e2 := lensT_mem (List.mem_of_getElem? hb)
      omega
    obtain ⟨dr, dl, rfl⟩ : ∃ dr dl, d = dr ++ [dl] := by
      rw [List.getElem?_map] at hd0
      obtain ⟨b, _, rfl⟩ := Option.map_eq_some_iff.mp hd0
      exact ⟨_, _, rfl⟩
    obtain ⟨vr1, v1, rfl, ⟨a1, c1, us1, rfl, hm1, hu1⟩, hr1⟩ := al_last hPr
    have hlast : (vr1 ++ [Value.ref a1])[(vr1 ++ [Value.ref a1]).length - 1]? = some (Value.ref a1) := by simp
    have hit : i < (b0 :: br).length := by rw [← hpv.1]; simpa [tbsP, hpv.1] using (hps ▸ hi : i < (tbsP (b0 :: br)).length)
    have hvl : (vr1 ++ [Value.ref a1]).length ≤ 1001 := by rw [hPr.1]; exact hdl
    have hvl' : vr1.length ≤ 1001 := by simp at hvl; omega
    have hvz : (vr1 ++ [Value.ref a1]).length ≤ sizeLine := le_size hvl
    have hul : us.length ≤ 1000 := by
      have e1 := due_len (b0 :: br) f i (Nat.le_of_lt hit)
      have e2 := lensT_take (b0 :: br) i
      rw [hdr.1]; omega
    have hd0' : (tbsP (b0 :: br))[i]? = some (dr ++ [dl]) := hd0
    walk_at "MY hideT"
    k_steps
    · rename News _ _ _ _ => N5
      rename (∀ p : Addr × Obj, p ∈ _ → p.1 < _) => lt1
      rename (_ < _ ∧ AllLt _ _) => lt2
      rename (decide (dl = []) = true) => hdl0
      rename ((i : Int) = _) => hik
      obtain ⟨N6, off6⟩ := turn_news (nw := [_, _]) N5 hnx hI (by
        intro p hp q hq
        rcases List.mem_cons.mp hp with rfl | hp
        · exact ktn_ltOf lt2.2 q hq
        · rw [List.mem_singleton.mp hp]; exact lt1 q hq)
      walk_at "MY showT"
      refine' ⟨_, _, _, _, rfl, by k_asm, N6, off6, ?_, _ :: _ :: junk, _, _, 0, rfl, rfl, .head _, ?_⟩
      · walk_at "MY same"
      · rw [due_succ hfi, part_keep hd0' (.inr (by omega))]
        exact alapp (hdr.sub fun p hp => .tail _ (.tail _ hp)) (hPr.sub fun p hp => by k_mem)
    · rename News _ _ _ _ => N5
      rename (∀ p : Addr × Obj, p ∈ _ → p.1 < _) => lt1
      rename (_ < _ ∧ AllLt _ _) => lt2
      rename (decide (dl = []) = true) => hdl0
      rename ((i : Int) ≠ _) => hik
      rw [pick_init1] at N5
      k_steps
      rename News _ _ _ _ => N7
      rename (_ < _ ∧ _ < _ ∧ AllLt _ _) => lt3
      obtain ⟨N6, off6⟩ := turn_news (nw := [_, _, _]) N7 hnx hI (by
        intro p hp q hq
        rcases List.mem_cons.mp hp with rfl | hp
        · exact ktn_ltOf lt3.2.2 q hq
        · rcases List.mem_cons.mp hp with rfl | hp
          · exact ktn_ltOf lt2.2 q hq
          · rw [List.mem_singleton.mp hp]; exact lt1 q hq)
      walk_at "MY showT"
      refine' ⟨_, _, _, _, rfl, by k_asm, N6, off6, ?_, _ :: _ :: _ :: junk, _, _, 0, rfl, rfl, .head _, ?_⟩
      · walk_at "MY same"
      · rw [due_succ hfi, part_drop hd0' (of_decide_eq_true hdl0) (by omega)]
        exact alapp (hdr.sub fun p hp => .tail _ (.tail _ (.tail _ hp))) (Rows.sub hr1 fun p hp => by k_mem)
    · rename News _ _ _ _ => N5
      rename (∀ p : Addr × Obj, p ∈ _ → p.1 < _) => lt1
      rename (_ < _ ∧ AllLt _ _) => lt2
      rename (decide (dl = []) = false) => hdl0
      obtain ⟨N6, off6⟩ := turn_news (nw := [_, _]) N5 hnx hI (by
        intro p hp q hq
        rcases List.mem_cons.mp hp with rfl | hp
        · exact ktn_ltOf lt2.2 q hq
        · rw [List.mem_singleton.mp hp]; exact lt1 q hq)
      walk_at "MY showT"
      refine' ⟨_, _, _, _, rfl, by k_asm, N6, off6, ?_, _ :: _ :: junk, _, _, 0, rfl, rfl, .head _, ?_⟩
      · walk_at "MY same"
      · rw [due_succ hfi, part_keep hd0' (.inl (of_decide_eq_false hdl0))]
        exact alapp (hdr.sub fun p hp => .tail _ (.tail _ hp)) (hPr.sub fun p hp => by k_mem)
  · rintro m1 nx h1 tk1 ⟨hm, junk, Dd, us, cD, rfl, hdue, hDm, hdr⟩ F3 N3
    rw [map1 hdue hm] at F3
    try dsimp only at F3
    clear F1 N1
    have hyl1 : tb.len ≤ 1000000 := by
      have e1 := codesT_len tb
      rw [hcodes] at e1
      have e2 := joinL_len 47 (codesT (b0)) (br.map codesT)
      rw [lensL_codes, codesT_len] at e2
      omega
    have hcsp : (codesT (b0) :: br.map codesT).map pieces = tbsP (b0 :: br) := by simp [tbsP]
    have hcsl : (codesT (b0) :: br.map codesT).length = ys.length := by rw [hys.1]; simp
    have hdue2 := due_all (cs := codesT (b0) :: br.map codesT) rfl (f := f) (by rw [hcsp, hcsl]; exact hfm) (by rw [hcsp, hcsl]; exact hfub)
    rw [hcsp, hcsl, ← hcodes] at hdue2
    rw [hdue2] at hdr
    k_steps
    walk_at "MY open"
    rename Fr _ _ _ _ => F5
    rename News _ _ _ _ => N5
    refine pieces_any (X.keeps F5.keep) (T.keeps F5.keep) (by k_room) hh htv hyl1 fun h5 tk5 P vs c nw k5 new5 r5 => ?_
    have N6 := news_new F5 N5 k5 new5
    have F6 := F5.keeps k5
    clear F5 N5
    try clear F3
    try clear N3
    k_steps
    walk_at "MY open"
    refine eq_rows N6 (List.mem_append_left _ (.head _)) (r5.sub fun p hp => List.mem_append_left _ (.tail _ hp)) (List.mem_append_right _ hDm) (hdr.sub fun p hp => List.mem_append_right _ hp) ?_ ?_
    · simp only [units_in1, units_deeper, Around.mark_units]; rw [show cLine = 9900 from rfl]; omega
    k_steps
    exact h _ _ F6.keep
end
end
end
end
end
end
end
end
end
section
theorem fill_B15 (w : World) (h : Heap) : PySem.Challenge.rw_ko0128_02.Holds → (Mine.hd.heap_39 w.params).In h → True := by
  w_top off
  k_fill
  intros; trivial
set_option maxHeartbeats 8000000
theorem any_kb (bs : List TB) (k : Int) : ((bs.map kb).any fun x => x == k) = bs.any fun b => kb b == k := by
  rw [List.any_map]; rfl
theorem any0 {bs : List TB} : ((bs.map kb).any fun x => x == 0) = bs.any fun b => !b.isB := by
  rw [any_kb]; congr 1; funext b; unfold kb; cases b.isB <;> rfl
theorem any1 {bs : List TB} : ((bs.map kb).any fun x => x == 1) = bs.any fun b => b.isB := by
  rw [any_kb]; congr 1; funext b; unfold kb; cases b.isB <;> rfl
section
variable {w : World} {A : Around} {mg mb : Str → Option Value} {mean : ExcName → Option Value} {loose : List Str} {s : Shared} {Q : Value → Shared → Prop} {E : Value → Shared → Prop} {base : Heap} {fs : List Env}
theorem right_any {Lp Lk : Addr} {pvs kvs : List Value} {b0 : TB} {br : List TB} (B : Below A base fs s.heap) (X₀ : (Mine.hd.heap_39 w.params).In base) (T₀ : Top Mine.hd.view_39 loose mean mg mb base) (hd : A.depth ≤ 530) (hu : A.units ≤ 5000) (hh : A.handled = none)
    (hp : s.heap.IsList Lp pvs.toArray) (hpv : Al RTB pvs (b0 :: br)) (hk : s.heap.IsList Lk kvs.toArray) (hkv : IntsAre kvs ((b0 :: br).map kb)) (hz : lensT (b0 :: br) ≤ 1000)
    (h : ∀ h' tk, KfS (fs.filterMap (·.frame)) s.heap h' → Q (.bool true) { s with heap := h', toks := tk }) :
    wpAny (model PySem.Challenge.rw_ko0128_02.row.prog w) A (call (.ref 137) [.ref Lp, .ref Lk]) Q E s := by
  by_cases hs : ∀ b ∈ br, b.isB = b0.isB
  · cases hkv with
    | cons n t r =>
      refine right_good B X₀ T₀ hd hu hh hp hpv hk (.cons _ _ r) hz hs ?_ fun h' tk k => h h' tk (KfS.of_kp k)
      have e0 := any0 (bs := b0 :: br)
      have e1 := any1 (bs := b0 :: br)
      cases h0 : b0.isB with
      | false =>
        refine .inl ⟨rfl, e0.trans (by rw [List.any_cons, h0]; rfl), e1.trans ?_⟩
        rw [List.any_eq_false]
        intro b hb
        rcases List.mem_cons.mp hb with rfl | hb
        · simp [h0]
        · simp [hs b hb, h0]
      | true =>
        refine .inr ⟨rfl, e0.trans ?_, e1.trans (by rw [List.any_cons, h0]; rfl)⟩
        rw [List.any_eq_false]
        intro b hb
        rcases List.mem_cons.mp hb with rfl | hb
        · simp [h0]
        · simp [hs b hb, h0]
  · have hx : ∃ b ∈ br, b.isB ≠ b0.isB := Classical.byContradiction fun q => hs fun b hb => Classical.byContradiction fun q2 => q ⟨b, hb, q2⟩
    obtain ⟨b, hb, hne⟩ := hx
    refine right_bad B X₀ T₀ hd hh hp hpv hk hkv hz hs ?_ ?_ h
    · rw [any0, List.any_eq_true]
      cases h0 : b0.isB with
      | false => exact ⟨b0, .head _, by rw [h0]; rfl⟩
      | true => exact ⟨b, .tail _ hb, by rw [h0] at hne; simpa using hne⟩
    · rw [any1, List.any_eq_true]
      cases h0 : b0.isB with
      | true => exact ⟨b0, .head _, h0⟩
      | false => exact ⟨b, .tail _ hb, by rw [h0] at hne; simpa using hne⟩
end
theorem strOf_len (row : List Int) : (TB.t (strOf row)).len = row.length := by simp [TB.len, strOf, Str.length]
theorem octs_len {P : Array UInt8} {row : List Int} (h : octs P = row.map (fun c => (c - 1).fmod 255 + 1)) : (TB.b P).len = row.length := by
  have := congrArg List.length h
  simpa [octs, TB.len] using this
theorem kind_step {ks : List Int} {i j : Nat} {bs : List TB} {b : TB} {kn : Int} (hbl : bs.length = j) (hbk : bs.map kb = (ks.take j).map (fun k => (k + (i : Int)).fmod 2)) (h : (ks.map fun k => (k + (i : Int)).fmod 2)[j]? = some kn) (hb : kb b = kn) :
    (bs ++ [b]).map kb = (ks.take (j + 1)).map (fun k => (k + (i : Int)).fmod 2) := by
  rw [List.getElem?_map] at h
  obtain ⟨k, hk, rfl⟩ := Option.map_eq_some_iff.mp h
  rw [take_snoc hk, List.map_append, List.map_append, hbk, List.map_singleton, List.map_singleton, hb]
theorem kind_01 {ks : List Int} {i j : Nat} {kn : Int} (h : (ks.map fun k => (k + (i : Int)).fmod 2)[j]? = some kn) : kn = 0 ∨ kn = 1 := by
  rw [List.getElem?_map] at h
  obtain ⟨k, _, rfl⟩ := Option.map_eq_some_iff.mp h
  have h0 : 0 ≤ (k + (i : Int)).fmod 2 := Int.fmod_nonneg_of_pos _ (by decide)
  have h1 : (k + (i : Int)).fmod 2 < 2 := Int.fmod_lt_of_pos _ (by decide)
  show (k + (i : Int)).fmod 2 = 0 ∨ (k + (i : Int)).fmod 2 = 1
  omega
theorem row_len {rs : List (List Int)} {row : List Int} (h : row ∈ rs) : row.length ≤ lensL rs := by
  induction rs with
  | nil => cases h
  | cons a r ih =>
    have h3 : lensL (a :: r) = (a.length + 1) + lensL r := by simp [lensL]
    rcases List.mem_cons.mp h with rfl | h
    · omega
    · have := ih h; omega
end
section
local macro_rules | `(tactic| walk_at "subscriptTail Name Slice ref ref") => `(tactic| (k_here; (with_reducible show wpAny _ _ (subscriptTail _ (PySem.Expr.Slice _ _ none _) (Value.ref _) (Value.ref _)) _ _ _); k_dflt (refine' slice_any ?F ?N ?l ?p ?q ?_ ?s ?t ?z; (case F => k_asm); (case N => k_asm); (case l => kmk_list); (case p => kmk_part); (case q => kmk_part); (case s => with_unfolding_all rfl); (case t => kmk_pure); (case z => first | assumption | exact Nat.le_of_ble_eq_true rfl)); intro D' h' F' N' l1; (try simp only [pick_tail1] at N'); (try k_lt l1); (try k_sweep)))
section
local macro_rules | `(tactic| walk_at "call ref") => `(tactic| (k_here; (with_reducible show wpAny _ _ (call (Value.ref 115) _) _ _ _); refine Halt.mk ?_))
local macro_rules | `(tactic| walk_at "call ref") => `(tactic| (k_here; (with_reducible show wpAny _ _ (call (Value.ref 132) _) _ _ _); refine Halt.mk ?_))
local macro_rules | `(tactic| walk_at "call ref") => `(tactic| (k_here; (with_reducible show wpAny _ _ (call (Value.ref 137) _) _ _ _); refine Halt.mk ?_))
local macro_rules | `(tactic| walk_at "call ref") => `(tactic| (k_here; (with_reducible show wpAny _ _ (call (Value.ref 127) _) _ _ _); refine Halt.mk ?_))
local macro_rules | `(tactic| walk_at "call ref") => `(tactic| (k_here; (with_reducible show wpAny _ _ (call (Value.ref 122) _) _ _ _); refine Halt.mk ?_))
section
local macro_rules | `(tactic| k_all) => `(tactic| assumption)
local macro_rules | `(tactic| k_mem) => `(tactic| first | assumption | (refine List.mem_append_right _ ?_; k_mem) | exact List.mem_append_left _ (by assumption))
local macro_rules | `(tactic| walk_at "subscriptTail Name Constant ref int") => `(tactic| (k_here; k_dflt (refine' item_zero ?l ?_; (case l => kmk_list))))
local macro_rules | `(tactic| walk_at "compareOp Eq ref ref") => `(tactic| (k_here; first | k_dflt (refine' ke_eq_ints ?a ?b ?i ?j ?u ?_; (case a => kmk_list); (case b => kmk_list); (case i => first | assumption | exact IntsAre.nil); (case j => first | assumption | exact IntsAre.nil); (case u => (simp only [units_in1, units_deeper, Around.mark_units]; rw [show cLine = 9900 from rfl]; omega))) | refine Halt.mk ?_))
section
local macro_rules | `(tactic| walk_at "call builtin:list.append") => `(tactic| (k_here; refine Halt.mk ?_))
local macro_rules | `(tactic| walk_at "call type:list") => `(tactic| (k_here; (with_reducible show wpAny _ _ (call (Value.type "list") [Value.bytes _ _]) _ _ _); refine Halt.mk ?_))
section
local macro_rules | `(tactic| walk_at "unpackItems ref") => `(tactic| (k_here; k_dflt (refine' unpackItemsN_ ?k1 ?k2 ?k3 ?k4 ?k5 ?_; (case k1 => k_asm); (case k2 => k_asm); (case k3 => kun_tup); (case k4 => first | exact rfl | assumption); (case k5 => exact rfl); k_whole); intro h' F' N'; (try k_sweep)))
section
theorem fill_B14 (w : World) (h : Heap) : PySem.Challenge.rw_ko0128_02.Holds → (Mine.hd.heap_39 w.params).In h → True := by
  w_top off
  k_fill
  intros; trivial
set_option maxHeartbeats 8000000
section
variable {w : World} {A : Around} {mg mb : Str → Option Value} {mean : ExcName → Option Value} {loose : List Str} {s : Shared} {Q : Value → Shared → Prop} {E : Value → Shared → Prop}
theorem law_parts {Ls : Addr} {svs : List Value} {ns : List Int} (X : (Mine.hd.heap_39 w.params).In s.heap) (T : Top Mine.hd.view_39 loose mean mg mb s.heap) (hd : A.depth ≤ 560) (hh : A.handled = none)
    (hl : s.heap.IsList Ls svs.toArray) (hi : IntsAre svs ns) (hlen : ns.length ≤ 63)
    (h : ∀ h' tk D P Kd vs kvs c c' nx rs ks, Kp s.heap h' → (∀ p ∈ (D, ({ cls := .type "tuple", data := .seq #[.ref P, .ref Kd] } : Obj)) :: (Kd, lobj kvs c') :: (P, lobj vs c) :: nx, h'.get? p.1 = some p.2 ∧ s.heap.get? p.1 = none) → Rows nx vs rs → IntsAre kvs ks → RGood rs ks → Q (.ref D) { s with heap := h', toks := tk }) : wpAny (model PySem.Challenge.rw_ko0128_02.row.prog w) A (call (.ref 122) [.ref Ls]) Q E s := by
  walk_at "MY enter"
  k_steps
  rename Fr _ _ _ _ => F1
  rename News _ _ _ _ => N1
  refine for_listO (vs := svs) (fun n0 m0 i m nx => Same ["x", "kind", "c", "size"] m m0 ∧ ∃ P Kd z tz rs r ks, m0 "rows" = some (.ref P) ∧ m0 "kinds" = some (.ref Kd) ∧ m "size" = some (.int z tz) ∧ PSt P Kd nx rs r ks ∧ PGood rs r ks z) hh F1 (fun p hp => N1 p (.tail _ hp)) (hl.at fun o e => F1.keep _ o e) ?_ ?_ ?_ ?_
  · obtain ⟨o, e, _⟩ := hl; exact fun q => by rw [q] at e; exact nomatch (fr_none F1).symm.trans e
  · exact ⟨Same.refl, _, _, 0, _, [], [], [0], rfl, rfl, rfl, ⟨[], _, [], _, 0, 0, 0, [], rfl, alnil, .nil, .cons _ _ .nil, fun _ h => (nomatch h), by k_ne, by k_ne, by k_ne⟩, PGood.start⟩
  · rintro I i v m1 nx h1 tk1 own hv hI hDo hown hnx ⟨hm, P, Kd, z, tz, rs, r, ks, hP, hK, hz, hst, hg⟩ F3 N3
    obtain ⟨n, t, rfl, hn⟩ := ints_item hi hv
    rw [map1 hz hm] at F3
    dsimp only at F3
    clear F1 N1
    have hP' : P = P := rfl
    obtain rfl := Value.ref.inj (Option.some.inj hP)
    obtain rfl := Value.ref.inj (Option.some.inj hK)
    have hnL : ∀ p ∈ nx, p.1 ∉ [I] ∧ p.1 ≠ Ls := fun p hp => ⟨hnx p hp, fun q => by
      obtain ⟨o, e, _⟩ := hl
      have := (N3 p (List.mem_append_right _ hp)).2.2
      rw [q, e] at this; cases this⟩
    walk_at "MY hideT"
    k_steps
    walk_at "MY go"
    rename Fr _ _ _ _ => F4
    rename News _ _ _ _ => N4
    refine while_invH (fun m0 k m l => Same ["x", "kind", "c", "size"] m m0 ∧ ∃ nx x tx z tz rs r ks, l = own ++ nx ∧ (∀ p ∈ nx, p.1 ∉ [I] ∧ p.1 ≠ Ls) ∧ m "x" = some (.int x tx) ∧ m "size" = some (.int z tz) ∧ PSt _ _ nx rs r ks ∧ PGood rs r ks z ∧ k = (40 - z).toNat) _ F4 N4 ⟨Same.refl, nx, _, _, z, tz, rs, r, ks, rfl, hnL, rfl, rfl, hst, hg, rfl⟩ ?_
    clear hst hg hz hm hnx hnL F4 N4 F3 N3
    rintro k mw nw hw tkw ⟨hmw, nx, x, tx, z, tz, rs, r, ks, rfl, hnL, gx, gz, hst, hg, rfl⟩ F4 N4
    walk_at "MY hideW"
    rw [map2 gx gz hmw] at F4
    try dsimp only at F4
    obtain ⟨vs, a, zs, kvs, c1, c2, c3, rest, rfl, hr, hz, hk, hd, d1, d2, d3⟩ := hst
    have hoP : ∀ q ∈ (_, lobj kvs c3) :: (_, lobj (vs ++ [Value.ref a]) c1) :: (a, lobj zs c2) :: rest, ∀ p ∈ own, p.1 ≠ q.1 := fun q hq p hp e => by
      rcases hown p hp with e1 | e1
      · exact (hnL q hq).1 (List.mem_singleton.mpr (e.symm.trans e1))
      · exact (hnL q hq).2 (e.symm.trans e1)
    have hgs := hg.size
    have hg40 := hg.hi
    have hgl := hg.len
    have hlr := lensL_ge rs
    have hlast : (vs ++ [Value.ref a])[(vs ++ [Value.ref a]).length - 1]? = some (.ref a) := by simp
    have hvl : (vs ++ [Value.ref a]).length ≤ sizeLine := le_size (k := 100) (by rw [List.length_append, hr.1]; simp; omega)
    have hzl : zs.length ≤ sizeLine := le_size (k := 100) (by rw [hz.length]; omega)
    have hkl : kvs.length ≤ sizeLine := le_size (k := 100) (by rw [hk.length]; omega)
    obtain ⟨kl, tkl, hlastK, hkl01⟩ : ∃ kl tkl, kvs[kvs.length - 1]? = some (.int kl tkl) ∧ (kl = 0 ∨ kl = 1) := by
      have e1 : kvs.length - 1 < kvs.length := by rw [hk.length]; omega
      obtain ⟨kl, tkl, e2, e3⟩ := ints_item hk (List.getElem?_eq_getElem e1)
      exact ⟨kl, tkl, by rw [List.getElem?_eq_getElem e1, e2], hg.kinds _ (List.mem_of_getElem? e3)⟩
    k_steps
    · walk_at "MY go"
      rename Fr _ _ _ _ => F5
      rename News _ _ _ _ => N5
      rename (_ < _ ∧ AllLt _ _) => lt5
      rename (z < 40) => hz40
      refine append_led F5 N5 (.tail _ (.tail _ (List.mem_append_right _ (.tail _ (.head _))))) hvl fun h5 k5 F6 hP6 hk6 => ?_
      have N6 := st_row (own := own) (rest := rest) (news_sub N5 fun p hp => by
        rcases List.mem_cons.mp hp with rfl | hp
        · exact .head _
        · exact .tail _ (.tail _ hp)) hP6 hk6 (ktn_ltOf lt5.2) (hoP _ (.tail _ (.head _))) (fun p hp => (hd p hp).1) d2 d1
      have hnZ := fresh_off N5 hI (ktn_ltOf lt5.2) hl
      clear F5 N5
      k_steps
      all_goals (
        walk_at "MY go"
        rename Fr _ _ _ _ => F7
        rename News _ _ _ _ => N7
        refine append_led F7 N7 (List.mem_append_right _ (.head _)) hkl fun h8 k8 F8 hP8 hk8 => ?_
        have N8 := st_kind (own := own) N7 hP8 hk8 (hoP _ (.head _)) (fun p hp => by
          rcases List.mem_cons.mp hp with rfl | hp
          · exact d2
          rcases List.mem_cons.mp hp with rfl | hp
          · exact Nat.ne_of_gt (ktn_ltOf lt5.2 (_, lobj kvs c3) (List.mem_append_right _ (.head _)))
          rcases List.mem_cons.mp hp with rfl | hp
          · exact d3
          · exact (hd p hp).2.2)
        clear F7 N7
        k_steps)
      all_goals first
        | (walk_at "MY showW"
           show wpAny _ _ _ _ _ _
           k_steps
           walk_at "MY showT"
           refine' ⟨_, _, _, _, rfl, by k_asm, (by k_asm : News _ _ _ (own ++ _)), ?off, ?same, _, _, z + 1, _, rs ++ [r], [], ks ++ [_], hP, hK, rfl, pst_row hr hz (ints_snoc hk) hd d1 d2 d3 (ktn_ltOf lt5.2), hg.row ?good hz40⟩
           case same => walk_at "MY same"
           case off => exact fun p hp => (off_row (Z := fun b => b ∉ [I] ∧ b ≠ Ls) hnL hnZ p hp).1
           case good => omega)
        | (walk_at "MY showW"
           refine' ⟨_, _, _, _, _, rfl, by k_asm, (by k_asm : News _ _ _ (own ++ _)), ?lt, ?same, _, _, _, z + 1, _, rs ++ [r], [], ks ++ [_], rfl, ?off, rfl, rfl, pst_row hr hz (ints_snoc hk) hd d1 d2 d3 (ktn_ltOf lt5.2), hg.row ?good hz40, rfl⟩
           case lt => omega
           case same => walk_at "MY same"
           case off => exact off_row (Z := fun b => b ∉ [I] ∧ b ≠ Ls) hnL hnZ
           case good => omega)
    · walk_at "MY go"
      rename Fr _ _ _ _ => F5
      rename News _ _ _ _ => N5
      rename (z < 40) => hz40
      have hcp := cp_menu (k := x.fmod 10) (by assumption) (Int.fmod_nonneg_of_pos _ (by decide)) (by assumption)
      refine append_led F5 N5 (.tail _ (List.mem_append_right _ (.tail _ (.tail _ (.head _))))) hzl fun h5 k5 F6 hA6 hk6 => ?_
      have N6 := st_sign (own := own) (rest := rest) (fun p hp => N5 p (.tail _ hp)) hA6 hk6 (hoP _ (.tail _ (.tail _ (.head _)))) (fun p hp => (hd p hp).2.1) d3 d1
      clear F5 N5
      k_steps
      all_goals first
        | (walk_at "MY showW"
           show wpAny _ _ _ _ _ _
           k_steps
           walk_at "MY showT"
           refine' ⟨_, _, _, _, rfl, by k_asm, (by k_asm : News _ _ _ (own ++ _)), ?off, ?same, _, _, z + 1, _, rs, _, ks, hP, hK, rfl, ⟨vs, a, _, kvs, _, _, _, rest, rfl, hr, ints_snoc hz, hk, hd, d1, d2, d3⟩, hg.sign ?good hz40⟩
           case same => walk_at "MY same"
           case off => exact fun p hp => (off_sign (Z := fun b => b ∉ [I] ∧ b ≠ Ls) hnL p hp).1
           case good => exact hcp)
        | (walk_at "MY showW"
           refine' ⟨_, _, _, _, _, rfl, by k_asm, (by k_asm : News _ _ _ (own ++ _)), ?lt, ?same, _, _, _, z + 1, _, rs, _, ks, rfl, ?off, rfl, rfl, ⟨vs, a, _, kvs, _, _, _, rest, rfl, hr, ints_snoc hz, hk, hd, d1, d2, d3⟩, hg.sign ?good hz40, rfl⟩
           case lt => omega
           case same => walk_at "MY same"
           case off => exact off_sign (Z := fun b => b ∉ [I] ∧ b ≠ Ls) hnL
           case good => exact hcp)
    · walk_at "MY go"
      rename Fr _ _ _ _ => F5
      rename News _ _ _ _ => N5
      rename (z < 40) => hz40
      have hcp := (show Cp (((x.fmod 100000000).fdiv 10).fmod 1112063 + 1) from by
        have e0 : 0 ≤ ((x.fmod 100000000).fdiv 10).fmod 1112063 := Int.fmod_nonneg_of_pos _ (by decide)
        exact ⟨by omega, by omega⟩)
      refine append_led F5 N5 (.tail _ (List.mem_append_right _ (.tail _ (.tail _ (.head _))))) hzl fun h5 k5 F6 hA6 hk6 => ?_
      have N6 := st_sign (own := own) (rest := rest) (fun p hp => N5 p (.tail _ hp)) hA6 hk6 (hoP _ (.tail _ (.tail _ (.head _)))) (fun p hp => (hd p hp).2.1) d3 d1
      clear F5 N5
      k_steps
      all_goals first
        | (walk_at "MY showW"
           show wpAny _ _ _ _ _ _
           k_steps
           walk_at "MY showT"
           refine' ⟨_, _, _, _, rfl, by k_asm, (by k_asm : News _ _ _ (own ++ _)), ?off, ?same, _, _, z + 1, _, rs, _, ks, hP, hK, rfl, ⟨vs, a, _, kvs, _, _, _, rest, rfl, hr, ints_snoc hz, hk, hd, d1, d2, d3⟩, hg.sign ?good hz40⟩
           case same => walk_at "MY same"
           case off => exact fun p hp => (off_sign (Z := fun b => b ∉ [I] ∧ b ≠ Ls) hnL p hp).1
           case good => exact hcp)
        | (walk_at "MY showW"
           refine' ⟨_, _, _, _, _, rfl, by k_asm, (by k_asm : News _ _ _ (own ++ _)), ?lt, ?same, _, _, _, z + 1, _, rs, _, ks, rfl, ?off, rfl, rfl, ⟨vs, a, _, kvs, _, _, _, rest, rfl, hr, ints_snoc hz, hk, hd, d1, d2, d3⟩, hg.sign ?good hz40, rfl⟩
           case lt => omega
           case same => walk_at "MY same"
           case off => exact off_sign (Z := fun b => b ∉ [I] ∧ b ≠ Ls) hnL
           case good => exact hcp)
    · walk_at "MY go"
      rename Fr _ _ _ _ => F5
      rename News _ _ _ _ => N5
      rename (z < 40) => hz40
      have hcp := (show Cp (((x.fmod 100000000).fdiv 10).fmod 1112063 + 2049) from by
        have e0 : ((x.fmod 100000000).fdiv 10).fmod 1112063 < 1112063 := Int.fmod_lt_of_pos _ (by decide)
        exact ⟨by omega, by omega⟩)
      refine append_led F5 N5 (.tail _ (List.mem_append_right _ (.tail _ (.tail _ (.head _))))) hzl fun h5 k5 F6 hA6 hk6 => ?_
      have N6 := st_sign (own := own) (rest := rest) (fun p hp => N5 p (.tail _ hp)) hA6 hk6 (hoP _ (.tail _ (.tail _ (.head _)))) (fun p hp => (hd p hp).2.1) d3 d1
      clear F5 N5
      k_steps
      all_goals first
        | (walk_at "MY showW"
           show wpAny _ _ _ _ _ _
           k_steps
           walk_at "MY showT"
           refine' ⟨_, _, _, _, rfl, by k_asm, (by k_asm : News _ _ _ (own ++ _)), ?off, ?same, _, _, z + 1, _, rs, _, ks, hP, hK, rfl, ⟨vs, a, _, kvs, _, _, _, rest, rfl, hr, ints_snoc hz, hk, hd, d1, d2, d3⟩, hg.sign ?good hz40⟩
           case same => walk_at "MY same"
           case off => exact fun p hp => (off_sign (Z := fun b => b ∉ [I] ∧ b ≠ Ls) hnL p hp).1
           case good => exact hcp)
        | (walk_at "MY showW"
           refine' ⟨_, _, _, _, _, rfl, by k_asm, (by k_asm : News _ _ _ (own ++ _)), ?lt, ?same, _, _, _, z + 1, _, rs, _, ks, rfl, ?off, rfl, rfl, ⟨vs, a, _, kvs, _, _, _, rest, rfl, hr, ints_snoc hz, hk, hd, d1, d2, d3⟩, hg.sign ?good hz40, rfl⟩
           case lt => omega
           case same => walk_at "MY same"
           case off => exact off_sign (Z := fun b => b ∉ [I] ∧ b ≠ Ls) hnL
           case good => exact hcp)
    · walk_at "MY showZ"
      walk_at "MY go"
      k_steps
      walk_at "MY showT"
      refine' ⟨_, _, _, _, rfl, by k_asm, (by k_asm : News _ _ _ (own ++ _)), ?off, ?same, _, _, z, _, rs, r, ks, hP, hK, rfl, ⟨vs, a, zs, kvs, _, _, _, rest, rfl, hr, hz, hk, hd, d1, d2, d3⟩, hg⟩
      case same => walk_at "MY same"
      case off => exact fun p hp => (hnL p hp).1
  · rintro m1 nx h1 tk1 ⟨hm, P, Kd, z, tz, rs, r, ks, hP, hK, hz, ⟨vs, a, zs, kvs, c1, c2, c3, rest, rfl, hr, hz', hk, hd, d1, d2, d3⟩, hg⟩ F3 N3
    obtain rfl := Value.ref.inj (Option.some.inj hP)
    obtain rfl := Value.ref.inj (Option.some.inj hK)
    rw [map1 hz hm] at F3
    try dsimp only at F3
    clear F1 N1
    k_steps
    rename Fr _ _ _ _ => F5
    rename News _ _ _ _ => N5
    exact h _ _ _ _ _ _ _ _ _ ((a, lobj zs c2) :: rest) (rs ++ [r]) ks F5.keep (fun p hp => ⟨(N5 p hp).1, (N5 p hp).2.2⟩) (alsnoc (hr.sub fun p hp => .tail _ hp) ⟨a, c2, zs, rfl, .head _, hz'⟩) hk hg.done
end
end
end
end
section
local macro_rules | `(tactic| walk_at "StarOf ref") => `(tactic| (k_here; k_dflt (refine' star_seq ?k1 ?k2 ?m ?c ?d ?T ?e ?z ?_; (case k1 => k_asm); (case k2 => k_asm); (case m => k_mem); (case c => exact rfl); (case d => exact rfl); (case T => first | exact .inl rfl | exact .inr rfl); (case e => exact rfl); (case z => (simp only [List.size_toArray]; assumption)); k_whole); intro h' F' N'; (try k_sweep); try dsimp only [List.nil_append, List.cons_append]))
section
local macro_rules | `(tactic| walk_at "unpackItems ref") => `(tactic| (k_here; k_dflt (refine' unpackItemsN_ ?k1 ?k2 ?k3 ?k4 ?k5 ?_; (case k1 => k_asm); (case k2 => k_asm); (case k3 => kun_tup); (case k4 => first | exact rfl | assumption); (case k5 => exact rfl); k_whole); intro h' F' N'; (try k_sweep)))
section
local macro_rules | `(tactic| walk_at "exec For Name Call cons nil") => `(tactic| (k_here; k_dflt (refine For_T ?_)))
local macro_rules | `(tactic| walk_at "call type:range") => `(tactic| (k_here; (with_reducible show wpAny _ _ (call _ _) (LoopT _ _ _ _ _ _ _ _) _ _); refine Halt.mk ?_))
section
theorem fill_L2 (w : World) (h : Heap) : PySem.Challenge.rw_ko0128_02.Holds → (Mine.hd.heap_39 w.params).In h → True := by
  w_top off
  k_fill
  intros; trivial
set_option maxHeartbeats 8000000
theorem holds2 : PySem.Challenge.rw_ko0128_02.Holds := Mine.hd (by
  k_go0; (all_goals try k_fold)
  k_steps
  walk_at "MY open"
  rename Heap.IsList _ _ _ => hL
  rename IntsAre _ _ => hI
  rename List Int => ns
  rename ¬ _ => hc
  rename Fr _ _ _ _ => F1
  rename News _ _ _ _ => N1
  rename Below _ _ _ _ => K0
  rename Frag.In _ _ => KX
  rename Top _ _ _ _ _ _ => TT
  have hlen := hI.length
  refine law_parts (KX.keeps F1.keep) (TT.keeps F1.keep) (by k_room) rfl (hL.at fun o e => F1.keep _ o e) hI (by omega) (fun h' tk D P Kd vs kvs c c' nx rs ks k1 new1 hr hk hg => ?_)
  have N2 := news_swap (news_new F1 N1 k1 new1)
  have F2 := F1.keeps k1
  have o1 := new_ne new1 (N1 _ (.head _)).1
  have o2 := new_ne new1 (N1 _ (.tail _ (.head _))).1
  have o3 := new_ne new1 (N1 _ (.tail _ (.tail _ (.head _)))).1
  have p1 := neN (o1 _ (.head _))
  have p2 := neN (o1 _ (.tail _ (.head _)))
  have p3 := neN (o1 _ (.tail _ (.tail _ (.head _))))
  have p4 := neN (o2 _ (.head _))
  have p5 := neN (o2 _ (.tail _ (.head _)))
  have p6 := neN (o2 _ (.tail _ (.tail _ (.head _))))
  have p7 := neN (o3 _ (.head _))
  have p8 := neN (o3 _ (.tail _ (.head _)))
  have p9 := neN (o3 _ (.tail _ (.tail _ (.head _))))
  dsimp only at p1 p2 p3 p4 p5 p6 p7 p8 p9
  have x1 := fun (p : Addr × Obj) (hp : p ∈ nx) => o1 p (.tail _ (.tail _ (.tail _ hp)))
  have x2 := fun (p : Addr × Obj) (hp : p ∈ nx) => o2 p (.tail _ (.tail _ (.tail _ hp)))
  have x3 := fun (p : Addr × Obj) (hp : p ∈ nx) => o3 p (.tail _ (.tail _ (.tail _ hp)))
  dsimp only at x1 x2 x3
  clear F1 N1 o1 o2 o3
  simp only [List.cons_append, List.nil_append] at N2
  k_steps
  walk_at "MY open"
  try clear F2 N2
  rename Fr _ _ _ _ => F1
  rename News _ _ _ _ => N1
  refine rangeU (n := 2) (fun n0 m0 i m nx => m = m0 ∧ ∃ a3 a2 o3 o2 q3 q2 x3 x2 rest, n0 = (a3, o3) :: (a2, o2) :: rest ∧ nx = (a3, q3) :: (a2, q2) :: rest ∧ q3.data = .cell x3 ∧ q2.data = .cell x2) rfl F1 N1 (by decide) ⟨rfl, _, _, _, _, _, _, _, _, _, rfl, rfl, by assumption, by assumption⟩ (fun _ _ => rfl) ?_ ?_
  · rintro I oI i tv m1 nx1 h1 tk1 hi hoff ⟨rfl, a3, a2, o3, o2, q3, q2, x3, x2, rest, e0, rfl, d3, d2⟩ F3 N3
    simp only [List.cons.injEq, Prod.mk.injEq] at e0
    obtain ⟨⟨rfl, rfl⟩, ⟨rfl, rfl⟩, rfl⟩ := e0
    have i1 := neN (hoff _ (.head _))
    have i2 := neN (hoff _ (.tail _ (.head _)))
    have i3 := neN (hoff _ (.tail _ (.tail _ (.head _))))
    have i4 := neN (hoff _ (.tail _ (.tail _ (.tail _ (.head _)))))
    have i5 := neN (hoff _ (.tail _ (.tail _ (.tail _ (.tail _ (.head _))))))
    have i6 := neN (hoff _ (.tail _ (.tail _ (.tail _ (.tail _ (.tail _ (.head _)))))))
    have i7 := fun (p : Addr × Obj) (hp : p ∈ nx) => hoff p (.tail _ (.tail _ (.tail _ (.tail _ (.tail _ (.tail _ hp))))))
    dsimp only at i1 i2 i3 i4 i5 i6 i7
    clear hoff F1 N1
    k_steps
    walk_at "MY open"
    rename Fr _ _ _ _ => F4
    rename News _ _ _ _ => N4
    have hkz : kvs.length ≤ sizeLine := le_size (k := 100) (by rw [hk.length, hg.len]; have := lensL_ge rs; have := hg.size; omega)
    refine src_listS (fun n0 j ys nx => nx = n0 ∧ IntsAre ys ((ks.take j).map fun k => (k + (i : Int)).fmod 2)) rfl F4 N4 (News.isList N4 (by k_mem)) (N4 (Kd, lobj kvs c') (by k_mem)).2.1 hkz rfl rfl ⟨rfl, .nil⟩ ?_ ?_
    · rintro I2 j v C oC D2 m₂ h₂ tk own ys nx E' hv ⟨rfl, hys⟩ hm hC F₂ N₂ hoff _ hCD
      obtain ⟨n, t, rfl, hn⟩ := ints_item hk hv
      refine tests0 ?_
      k_steps
      exact ⟨_, _, _, rfl, by k_asm, by k_asm, hoff, rfl, ints_step hn hys (by simp)⟩
    rintro g tk ys nx ⟨rfl, hys⟩ D2 h₂ tk₂ F₂ N₂ hoff
    rw [List.take_of_length_le (by rw [hk.length]; exact Nat.le_refl _)] at hys
    have j1 := neN (hoff _ (.head _))
    have j2 := neN (hoff _ (.tail _ (.head _)))
    have j3 := neN (hoff _ (.tail _ (.tail _ (.head _))))
    have j4 := neN (hoff _ (.tail _ (.tail _ (.tail _ (.head _)))))
    have j5 := neN (hoff _ (.tail _ (.tail _ (.tail _ (.tail _ (.head _))))))
    have j6 := neN (hoff _ (.tail _ (.tail _ (.tail _ (.tail _ (.tail _ (.head _)))))))
    have j7 := neN (hoff _ (.tail _ (.tail _ (.tail _ (.tail _ (.tail _ (.tail _ (.head _))))))))
    have j8 := fun (p : Addr × Obj) (hp : p ∈ nx) => hoff p (.tail _ (.tail _ (.tail _ (.tail _ (.tail _ (.tail _ (.tail _ hp)))))))
    dsimp only at j1 j2 j3 j4 j5 j6 j7 j8
    clear hoff F4 N4
    have hvl : vs.length ≤ 100 := by rw [hr.1]; have := lensL_ge rs; have := hg.size; omega
    have hvz : vs.length ≤ sizeLine := le_size hvl
    have hyl : ys.length = rs.length := by rw [hys.length, List.length_map, hg.len]
    have hyz : ys.length ≤ sizeLine := le_size (k := 100) (by rw [hyl, ← hr.1]; exact hvl)
    k_steps
    walk_at "MY open"
    rename Fr _ _ _ _ => F5
    rename News _ _ _ _ => N5
    refine comp_range (n := vs.length) (fun n0 j zs nx => nx = n0 ∧ ∃ bs : List TB, Al RTB zs bs ∧ bs.length = j ∧ (bs.map kb) = (ks.take j).map (fun k => (k + (i : Int)).fmod 2) ∧ lensT bs = lensL (rs.take j)) rfl F5 N5 hvz rfl rfl ⟨rfl, [], alnil, rfl, rfl, rfl⟩ ?_ ?_
    · rintro I2 j t2 C oC D3 m₂ h₂ tk own zs nx E' hj ⟨rfl, bs, hbs, hbl, hbk, hbz⟩ hm hC F₂ N₂ hoff _ hCD
      obtain ⟨row, hrow, b, c1, us, hvb, hbm, hbu⟩ := hr.2 j _ (List.getElem?_eq_getElem hj)
      have hvj := List.getElem?_eq_getElem hj
      rw [hvb] at hvj
      have hjr : j < ys.length := by rw [hyl, ← hr.1]; exact hj
      obtain ⟨kn, tkn, hkn, hknn⟩ := ints_item hys (List.getElem?_eq_getElem hjr)
      have hyj := List.getElem?_eq_getElem hjr
      rw [hkn] at hyj
      refine tests0 ?_
      k_steps
      walk_at "MY open"
      have hmr := List.mem_of_getElem? hrow
      have hrl : row.length ≤ 1000 := by have := row_len hmr; have := hg.size; omega
      have hbL : Heap.IsList _ b us.toArray := ⟨_, (N₂ (b, lobj us c1) (by k_mem)).1, rfl, c1, rfl⟩
      rcases kind_01 hknn with rfl | rfl
      · refine made_s (KX.keeps F₂.keep) (TT.keeps F₂.keep) (by k_room) rfl hbL hbu (hg.cps row hmr) hrl fun h8 tk8 t8 k8 => ?_
        exact ⟨_, _, _, rfl, F₂.keeps k8, N₂.grown k8, hoff, rfl, bs ++ [.t (strOf row)], alsnoc (x := TB.t (strOf row)) hbs ⟨_, rfl⟩, by simp [hbl], kind_step hbl hbk hknn rfl, by rw [lensT_snoc, take_snoc hrow, lensL_snoc, hbz, strOf_len]⟩
      · refine made_b (KX.keeps F₂.keep) (TT.keeps F₂.keep) (by k_room) rfl hbL hbu (hg.cps row hmr) hrl fun h8 tk8 P8 t8 k8 ho8 => ?_
        exact ⟨_, _, _, rfl, F₂.keeps k8, N₂.grown k8, hoff, rfl, bs ++ [.b P8], alsnoc (x := TB.b P8) hbs ⟨_, rfl⟩, by simp [hbl], kind_step hbl hbk hknn rfl, by rw [lensT_snoc, take_snoc hrow, lensL_snoc, hbz, octs_len ho8]⟩
    rintro g tk zs nx ⟨rfl, bs, hbs, hbl, hbk, hbz⟩ D3 h₂ tk₂ F₂ N₂ hoff
    clear F5 N5
    rw [List.take_of_length_le (by rw [hg.len, ← hr.1]; exact Nat.le_refl _)] at hbk
    rw [List.take_of_length_le (by rw [← hr.1]; exact Nat.le_refl _)] at hbz
    rw [← hbk] at hys
    obtain ⟨b0, br, rfl⟩ : ∃ b0 br, bs = b0 :: br := by
      cases bs with
      | nil => have := hg.pos; rw [← hr.1, ← hbl] at this; simp at this
      | cons x y => exact ⟨_, _, rfl⟩
    k_steps
    walk_at "MY open"
    rename Fr _ _ _ _ => F6
    rename News _ _ _ _ => N6
    refine right_any (pushX K0 F6 (by rfl) (by rfl)) KX TT (by k_room) ?_ rfl (News.isList N6 (.head _)) hbs (News.isList N6 (.tail _ (.head _))) hys (by rw [hbz]; have := hg.size; omega) fun h9 tk9 k9 => ?_
    · simp only [units_in1, units_deeper, Around.mark_units]; decide
    have F7 := k9.fr F6 (fun b hb => by rw [List.mem_singleton.mp hb]; exact fr_none F6)
    have N7 := k9.news N6 (fun p hp hm => (N6 p hp).2.1 (List.mem_singleton.mp hm))
    clear F6 N6
    k_steps
    refine ⟨_, _, _, _, rfl, F7, (fun p hp => N7 p (.tail _ (.tail _ hp)) : News _ _ _ ([(I, oI)] ++ _)), ?_, rfl, _, _, _, _, _, _, _, _, _, rfl, rfl, by assumption, by assumption⟩
    intro p hp hm
    have hm := List.mem_singleton.mp hm
    rcases List.mem_cons.mp hp with rfl | hp
    · exact i1 hm
    rcases List.mem_cons.mp hp with rfl | hp
    · exact i2 hm
    rcases List.mem_cons.mp hp with rfl | hp
    · exact i3 hm
    rcases List.mem_cons.mp hp with rfl | hp
    · exact i4 hm
    rcases List.mem_cons.mp hp with rfl | hp
    · exact i5 hm
    rcases List.mem_cons.mp hp with rfl | hp
    · exact i6 hm
    · exact i7 p hp hm
  · rintro m1 nx1 h1 tk1 ⟨rfl, a3, a2, o3, o2, q3, q2, x3, x2, rest, e0, rfl, d3, d2⟩ F3 N3
    k_steps)
end
end
end
end
end
end
end
end
end
end
end
end
end
end
end Mine
theorem PySem.Challenge.cw_ko0128_02_holds : PySem.Challenge.rw_ko0128_02.Holds := by
  exact Mine.holds2
