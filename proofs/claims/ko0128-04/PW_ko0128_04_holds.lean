import PyProof.Rows.All
import Wide.All
import OpenK.AllK
import Wide.FinOn
import Lean
import PySem.Challenge.RW_ko0128_04
open PySem PySem.W PyProof.Rows
set_option Elab.async false
set_option maxRecDepth 100000
set_option linter.unusedVariables false
set_option linter.unusedSimpArgs false
set_option compiler.extract_closed false
namespace Mine
section
open PySem.Calls
theorem kind_isubn : builtinKind "issubclass.nested" = none := by decide +kernel
theorem plain_isubn : plainId "issubclass.nested" = true := by decide +kernel
theorem args_isubn (a b c : Value) : argsOk "issubclass.nested" ⟨[a, b, c], []⟩ := by unfold argsOk; kernel_rfl
theorem meta_str : typeOf (.type "str") = pure (.type "type") := by kernel_rfl
theorem meta_bytes : typeOf (.type "bytes") = pure (.type "type") := by kernel_rfl
theorem tt_sub : isSubtype (.type "type") (.type "type") = pure true := by rw [isSubtype_type]; kernel_rfl
theorem ss_sub : isSubtype (.type "str") (.type "str") = pure true := by rw [isSubtype_type]; kernel_rfl
theorem bs_sub : isSubtype (.type "bytes") (.type "str") = pure false := by rw [isSubtype_type]; kernel_rfl
theorem bb_sub : isSubtype (.type "bytes") (.type "bytes") = pure true := by rw [isSubtype_type]; kernel_rfl
theorem isub_nested {T U : String} {b : Bool} (h1 : typeOf (.type T) = pure (.type "type")) (h2 : typeOf (.type U) = pure (.type "type")) (h3 : isSubtype (.type T) (.type U) = pure b) {dep : Int} {tk : Tok} :
    Meets (Builtin.«issubclass.nested» ⟨[.type T, .type U, .int dep tk], []⟩) (fun _ R s => R (.ok (.ret (.bool b))) s) := by
  intro prog w A R s hs
  have f1 := tt_sub
  repeat (any_goals (first | assumption | (rw [h3]) | wp_step))
theorem isub_tuple {T : String} {tp : Addr} {cs : List Value} (h1 : typeOf (.type T) = pure (.type "type")) (h3 : isSubtype (.type T) (.type "str") = pure (T == "str")) (h4 : isSubtype (.type T) (.type "bytes") = pure (T == "bytes")) (hcs : cs = [.type "str", .type "bytes"]) :
    Meets (Builtin.«issubclass» ⟨[.type T, .ref tp], []⟩) (fun _ R s => s.heap.get? tp = some { cls := .type "tuple", data := .seq cs.toArray } ∧ R (.ok (.ret (.bool (T == "str" || T == "bytes")))) s) := by
  intro prog w A R s ⟨hx, hs⟩
  refine issubclass_outer ?_
  obtain ⟨h, g, d, t, os⟩ := s
  have hT2 : (⟨h, g, d, t, os⟩ : Shared).TypeIs (.ref tp) "tuple" := ⟨_, hx, rfl⟩
  have f1 := F.isi_sub_tuple
  repeat (any_goals (first | assumption | wp_step))
  refine wpAny_arrayLoop ?_
  subst hcs
  simp only [Option.getD_some, List.toList_toArray]
  rw [List.forIn_cons]
  refine wpAny_bind (wpAny_bind (call_function_meets kind_isubn plain_isubn F.entry_issubclass_nested (args_isubn _ _ _) (isub_nested h1 meta_str h3) ?_))
  cases hT : (T == "str") with
  | true => 
    rw [hT] at hs
    repeat (any_goals (first | assumption | wp_step))
  | false =>
    rw [hT] at hs
    show wpAny _ _ (truthy (.bool false) >>= _) _ _ _
    refine wpAny_bind (m := truthy (.bool false)) (wpAny_pure (wpAny_pure ?_))
    show wpAny _ _ (forIn [Value.type "bytes"] _ _) _ _ _
    rw [List.forIn_cons]
    refine wpAny_bind (wpAny_bind (call_function_meets kind_isubn plain_isubn F.entry_issubclass_nested (args_isubn _ _ _) (isub_nested h1 meta_bytes h4) ?_))
    cases hU : (T == "bytes") with
    | true => 
      rw [hU] at hs
      repeat (any_goals (first | assumption | wp_step))
    | false =>
      rw [hU] at hs
      show wpAny _ _ (truthy (.bool false) >>= _) _ _ _
      refine wpAny_bind (m := truthy (.bool false)) (wpAny_pure (wpAny_pure ?_))
      repeat (any_goals (first | assumption | wp_step))
theorem call_isub {prog : Program} {w : World} {A : Around} {E : Value → Shared → Prop} {s : Shared} {T : String} {tp : Addr} {Q : Value → Shared → Prop} (hT : T = "str" ∨ T = "bytes")
    (hx : s.heap.get? tp = some { cls := .type "tuple", data := .seq [.type "str", .type "bytes"].toArray }) (h : Q (.bool true) s) :
    wpAny (model prog w) A (call (.builtin "issubclass") [.type T, .ref tp]) Q E s := by
  rcases hT with rfl | rfl
  · exact call_issubclass (isub_tuple meta_str ss_sub (by rw [isSubtype_type]; kernel_rfl) rfl) ⟨hx, h⟩
  · exact call_issubclass (isub_tuple meta_bytes bs_sub bb_sub rfl) ⟨hx, h⟩
end
end Mine
namespace Mine
section
open PySem.Calls
theorem bind_rest1 {name qual : Str} {pa : Arg} {va : Arg} {body : List Stmt} {scope : Scope} {doc pm cdv ct : Value} {an : Option Addr} {v : Value} {vs : List Value} :
    bindArgs (fnOf name qual { posonlyargs := [], args := [pa], vararg := some va, kwonlyargs := [], kw_defaults := [], kwarg := none, defaults := [] } body scope .none .none doc pm an cdv ct) ⟨v :: vs, []⟩ =
      (newTuple vs >>= fun t => pure [(pa.arg, v), (va.arg, t)]) := by
  unfold bindArgs fnOf
  simp only [List.map_cons, List.map_nil, List.nil_append, List.length_cons, List.length_nil, List.zip_cons_cons, List.append_nil, Option.isNone_some, Bool.and_false, List.drop_succ_cons, List.drop_zero]
  have e : (pa.arg == pa.arg) = true := beq_self_eq_true _
  have e2 : List.lookup pa.arg ((pa.arg, v) :: List.zip ([] : List Str) vs) = some v := by simp [List.lookup, e]
  simp only [List.forIn_nil, bind_pure_comp, pure_bind, Bool.false_eq_true, if_false]
  rw [show seqItems? Value.none = pure none from rfl]
  simp only [pure_bind, Option.getD_none, List.length_nil, List.drop_nil, List.take, List.filter, e2, Option.isNone_some, List.isEmpty_nil, Bool.not_true, Bool.false_eq_true, if_false]
  show ((do
      let __s ← (pure ((pa.arg, v) :: List.zip ([] : List Str) vs) : Sem (List (Str × Value)))
      (fun a => List.filterMap (fun n => Option.map (fun x => (n, x)) (List.lookup n __s)) [pa.arg] ++ [(va.arg, a)]) <$> newTuple vs) : Sem (List (Str × Value))) = _
  simp only [pure_bind, List.filterMap_cons, List.filterMap_nil, e2, Option.map_some, List.cons_append, List.nil_append]
abbrev Kp (h h' : Heap) : Prop := ∀ b o, h.get? b = some o → h'.get? b = some o
theorem Kp.trans {h h' h'' : Heap} (a : Kp h h') (b : Kp h' h'') : Kp h h'' := fun x o e => b x o (a x o e)
theorem none_size {h : Heap} {a : Addr} (ha : h.objs.size ≤ a) : h.get? a = none := by
  cases e : h.get? a with
  | none => rfl
  | some o => exact absurd (Heap.lt_size e) (Nat.not_lt.mpr ha)
section
variable {prog : Program} {w : World} {A : Around} {s : Shared} {K : Frag} {base : Heap} {mg mb : Str → Option Value} {p : Program} {loose : List Str} {mean : ExcName → Option Value} {fs : List Env}
theorem enterK {R : Result → Shared → Prop} {name qual : Str} {params : Arguments} {body : List Stmt} {scope : Scope} {dV kV doc pm cdv ct oc : Value} {an od : Option Addr} {osl : Array (Option Value)} {f : Addr} {args : Args} {binds : List (Str × Value)}
    (X : K.In s.heap) (T : Top p loose mean mg mb s.heap) (hroom : A.depth < recursionLimit)
    (ho : K.lookup f = some ⟨oc, od, .func (fnOf name qual params body scope dV kV doc pm an cdv ct), osl⟩) (hcd : codeIn K cdv qual = true)
    (hbind : BindsTo s (fnOf name qual params body scope dV kV doc pm an cdv ct) args binds) (hloc : ∀ y ∈ binds, scope.names.lookup y.1 = some .local)
    (h : ∀ L h₁, Fr s.heap L h₁ (fun y => binds.reverse.lookup y) → News s.heap L h₁ [] →
      wpAny (model prog w) (A.deeper (envOf qual scope L f cdv)) (execs body (envOf qual scope L f cdv))
        (fun fl s' => R (.ok (.ret (match fl with | .ret v => v | _ => .none))) s')
        (fun e s' => wpAny (model prog w) (A.deeper (envOf qual scope L f cdv)) (leaving (envOf qual scope L f cdv) e) (fun _ s'' => R (.error e) s'') (fun e' s'' => R (.error e') s'') s')
        { s with heap := h₁, toks := s.toks + binds.length })
    (hcell : ∀ x ∈ scope.names, x.2 ≠ .cell) (hco : scope.isCoroutine = false) (hgen : scope.isGenerator = false) (hk : scope.kind = .function) :
    codeAny (model prog w) A (.call (.ref f) args) R s := by
  refine codeAny_call_def (fd := fnOf name qual params body scope dV kV doc pm an cdv ct) (body := body) (binds := binds) hroom (X _ _ ho) rfl T.nolimit (codeRec_of X hcd) rfl hbind hcell hloc (fun h₁ hns hk₁ => ?_) hco hgen hk
  exact h s.heap.objs.size h₁ ⟨hns, hk₁, Nat.le_refl _⟩ News.nil
theorem enterR {R : Result → Shared → Prop} {name qual : Str} {params : Arguments} {body : List Stmt} {scope : Scope} {dV kV doc pm cdv ct oc : Value} {an od : Option Addr} {osl : Array (Option Value)} {f : Addr} {args : Args} {vs : List Value} {binds : Value → List (Str × Value)}
    (X : K.In s.heap) (T : Top p loose mean mg mb s.heap) (hroom : A.depth < recursionLimit)
    (ho : K.lookup f = some ⟨oc, od, .func (fnOf name qual params body scope dV kV doc pm an cdv ct), osl⟩) (hcd : codeIn K cdv qual = true)
    (hp : bindArgs (fnOf name qual params body scope dV kV doc pm an cdv ct) args = (newTuple vs >>= fun t => pure (binds t))) (hz : vs.length ≤ sizeLine)
    (hloc : ∀ D, ∀ y ∈ binds D, scope.names.lookup y.1 = some .local)
    (h : ∀ D L h₁, D < L → Fr s.heap L h₁ (fun y => (binds (.ref D)).reverse.lookup y) → News s.heap L h₁ [(D, ({ cls := .type "tuple", data := .seq vs.toArray } : Obj))] →
      wpAny (model prog w) (A.deeper (envOf qual scope L f cdv)) (execs body (envOf qual scope L f cdv))
        (fun fl s' => R (.ok (.ret (match fl with | .ret v => v | _ => .none))) s')
        (fun e s' => wpAny (model prog w) (A.deeper (envOf qual scope L f cdv)) (leaving (envOf qual scope L f cdv) e) (fun _ s'' => R (.error e) s'') (fun e' s'' => R (.error e') s'') s')
        { s with heap := h₁, toks := s.toks + (binds (.ref D)).length })
    (hcell : ∀ x ∈ scope.names, x.2 ≠ .cell) (hco : scope.isCoroutine = false) (hgen : scope.isGenerator = false) (hk : scope.kind = .function) :
    codeAny (model prog w) A (.call (.ref f) args) R s := by
  refine codeAny_call_function (fd := fnOf name qual params body scope dV kV doc pm an cdv ct) (body := body) hroom (X _ _ ho) rfl hco hgen rfl (codeRec_of X hcd) ?_
  rw [hp]
  refine wpAny_bind (wpAny_newObj_type (wpAny_pure ?_) (by show vs.toArray.size ≤ sizeLine; rw [List.size_toArray]; exact hz))
  refine wpAny_newFunctionEnv hcell (hloc _) (fun h₁ hns hsb => ?_) hk
  have hk₁ : Kp (s.heap.push { cls := .type "tuple", data := .seq vs.toArray }) h₁ := fun b o e => hsb.extBut b o (Nat.ne_of_lt (Heap.lt_size e)) (Heap.get?_push_of_some _ e)
  have hk₀ : Kp s.heap h₁ := fun b o e => hk₁ b o (Heap.get?_push_of_some _ e)
  refine ⟨(T.nolimit.keeps fun b o e => Heap.get?_push_of_some _ e).fresh _ hsb, codeAny_func ?_⟩
  refine h s.heap.objs.size (s.heap.push { cls := .type "tuple", data := .seq vs.toArray }).objs.size h₁ (by rw [Heap.size_push]; exact Nat.lt_succ_self _) ⟨hns, hk₀, by rw [Heap.size_push]; exact Nat.le_succ _⟩ (fun q hq => ?_)
  rw [List.mem_singleton.mp hq]
  exact ⟨hk₁ _ _ (Heap.get?_push_size _ rfl), by show s.heap.objs.size ≠ _; rw [Heap.size_push]; exact Nat.ne_of_lt (Nat.lt_succ_self _), none_size (Nat.le_refl _)⟩
end
theorem news_sub {h₀ h : Heap} {L : Addr} {n n' : List (Addr × Obj)} (N : News h₀ L h n') (hs : ∀ p ∈ n, p ∈ n') : News h₀ L h n := fun p hp => N p (hs p hp)
end
end Mine
namespace Mine
section
open PySem.Calls
def TurnEnd (h₀ : Heap) (L : Addr) (wr : List Addr) (own : List (Addr × Obj)) (J : (Str → Option Value) → List (Addr × Obj) → Prop) (s : Shared) (Q : Flow → Shared → Prop) (f : Flow) (s₂ : Shared) : Prop :=
  match f with
  | .ret v => Q (.ret v) s₂
  | .brk => Q .next s₂
  | _ => ∃ h' tk m' nx, s₂ = { s with heap := h', toks := tk } ∧ Fr h₀ L h' m' ∧ News h₀ L h' (own ++ nx) ∧ (∀ p ∈ nx, p.1 ∉ wr) ∧ J m' nx
section
variable {prog : Program} {w : World} {A : Around} {E : Value → Shared → Prop} {s : Shared} {env : Env} {h₀ : Heap} {x : Str} {body : List Stmt} {Q : Flow → Shared → Prop}
theorem for_walk {I : Addr} {fp wr : List Addr} {n : Nat} {P : Nat → Value → Prop} {St : Nat → Heap → Prop} {m₀ : Str → Option Value} {news : List (Addr × Obj)} (J : Nat → (Str → Option Value) → List (Addr × Obj) → Prop)
    (W : Walks prog w A I fp wr n P St) (hLf : env.locals ∉ fp) (hwr : ∀ b ∈ wr, h₀.get? b = none) (hnw : ∀ p ∈ news, p.1 ∉ wr) (hob : ∀ i h, St i h → ∀ b ∈ wr, ∃ o, h.get? b = some o)
    (hst : St 0 s.heap) (F : Fr h₀ env.locals s.heap m₀) (N : News h₀ env.locals s.heap news) (hj : J 0 m₀ news)
    (turn : ∀ i v m₁ nx h tk own, i < n → P i v → (∀ b ∈ wr, ∃ o, (b, o) ∈ own) → (∀ p ∈ nx, p.1 ∉ wr) → J i m₁ nx → Fr h₀ env.locals h (fun y => if y = x then some v else m₁ y) → News h₀ env.locals h (own ++ nx) →
      wpAny (model prog w) A (execs body env) (TurnEnd h₀ env.locals wr own (J (i + 1)) s Q) E { s with heap := h, toks := tk })
    (done : ∀ m₁ nx h tk, J n m₁ nx → Fr h₀ env.locals h m₁ → News h₀ env.locals h nx → Q .next { s with heap := h, toks := tk }) :
    LoopAtV prog w A h₀ env x body Q E (.ref I) s := by
  refine ⟨I, fp, wr, n, P, St, m₀, news, J, rfl, W, hLf, hwr, hnw, hst, F, N, hj, ?_, ?_⟩
  · rintro i v m₁ nx s₁ own ⟨h, tk, rfl⟩ hi hP hJ hoff _ _ hall hst' F₁ N₁
    refine wpAny_mono (turn i v m₁ nx h tk own hi hP (fun b hb => ?_) hoff hJ F₁ N₁) (fun f s₂ q => ?_) fun _ _ e => e
    · obtain ⟨o, ho⟩ := hob _ _ hst' b hb
      exact ⟨o, hall b (W.sub b hb) (hwr b hb) o ho⟩
    · cases f with
      | ret v => exact .ret q
      | brk => exact .brk q
      | next => obtain ⟨h', tk', m', nx', rfl, F', N', ho, hJ'⟩ := q; exact .next ⟨rfl, h', tk', m', nx', rfl, F', N', ho, hJ'⟩
      | cont => obtain ⟨h', tk', m', nx', rfl, F', N', ho, hJ'⟩ := q; exact .cont ⟨rfl, h', tk', m', nx', rfl, F', N', ho, hJ'⟩
  · rintro h' tk m' nx F' N' _ hJ
    exact done m' nx h' tk hJ F' N'
theorem lt_ne_size {h : Heap} {a : Addr} {o : Obj} (e : h.get? a = some o) : a ≠ h.objs.size := Nat.ne_of_lt (Heap.lt_size e)
theorem for_tup {D : Addr} {vs : List Value} {m₀ : Str → Option Value} {news : List (Addr × Obj)} (J : Nat → (Str → Option Value) → List (Addr × Obj) → Prop)
    (hh : A.handled = none) (hD : s.heap.IsTuple D vs.toArray) (hDL : D ≠ env.locals) (F : Fr h₀ env.locals s.heap m₀) (N : News h₀ env.locals s.heap news) (hj : J 0 m₀ news)
    (turn : ∀ I i v m₁ nx h tk own, vs[i]? = some v → (∃ o, (I, o) ∈ own) → (∀ p ∈ nx, p.1 ∉ [I]) → J i m₁ nx → Fr h₀ env.locals h (fun y => if y = x then some v else m₁ y) → News h₀ env.locals h (own ++ nx) →
      wpAny (model prog w) A (execs body env) (TurnEnd h₀ env.locals [I] own (J (i + 1)) s Q) E { s with heap := h, toks := tk })
    (done : ∀ m₁ nx h tk, J vs.length m₁ nx → Fr h₀ env.locals h m₁ → News h₀ env.locals h nx → Q .next { s with heap := h, toks := tk }) :
    wpAny (model prog w) A (pyIter (.ref D)) (fun it s₂ => LoopAtV prog w A h₀ env x body Q E it s₂) E s := by
  obtain ⟨oD, hoD, hr⟩ := id hD
  have hne : D ≠ s.heap.objs.size := lt_ne_size hoD
  refine wpAny_pyIter_tuple hD ?_
  have W := Walks.tuple (prog := prog) (w := w) hh s.heap.objs.size D hne vs.toArray
  have hlen : vs.toArray.size = vs.length := by simp
  rw [hlen] at W
  refine for_walk J W ?_ ?_ ?_ ?_ ⟨⟨_, Heap.get?_push_size _ rfl, rfl, rfl⟩, ⟨oD, Heap.get?_push_of_some _ hoD, hr⟩⟩ (F.push _) (fun p hp => ⟨Heap.get?_push_of_some _ (N p hp).1, (N p hp).2⟩) hj ?_ ?_
  · intro hm
    rcases List.mem_cons.mp hm with e | hm
    · exact absurd F.ns.lt (e ▸ Nat.lt_irrefl _)
    · exact hDL (List.mem_singleton.mp hm).symm
  · intro b hb; rw [List.mem_singleton.mp hb]; exact next_is_new F
  · intro p hp hI; exact absurd (Heap.lt_size (N p hp).1) ((List.mem_singleton.mp hI) ▸ Nat.lt_irrefl _)
  · intro i h hi b hb; rw [List.mem_singleton.mp hb]; obtain ⟨⟨o, ho, _⟩, _⟩ := hi; exact ⟨o, ho⟩
  · intro i v m₁ nx h tk own hi hP hI ho hJ F₁ N₁
    exact turn _ i v m₁ nx h tk own (by simpa using hP) (hI _ (.head _)) ho hJ F₁ N₁
  · exact fun m₁ nx h tk hJ F₁ N₁ => done m₁ nx h tk hJ F₁ N₁
theorem for_list {D : Addr} {vs : List Value} {m₀ : Str → Option Value} {news : List (Addr × Obj)} (J : Nat → (Str → Option Value) → List (Addr × Obj) → Prop)
    (hh : A.handled = none) (hD : s.heap.IsList D vs.toArray) (hDL : D ≠ env.locals) (F : Fr h₀ env.locals s.heap m₀) (N : News h₀ env.locals s.heap news) (hj : J 0 m₀ news)
    (turn : ∀ I i v m₁ nx h tk own, vs[i]? = some v → (∃ o, (I, o) ∈ own) → (∀ p ∈ nx, p.1 ∉ [I]) → J i m₁ nx → Fr h₀ env.locals h (fun y => if y = x then some v else m₁ y) → News h₀ env.locals h (own ++ nx) →
      wpAny (model prog w) A (execs body env) (TurnEnd h₀ env.locals [I] own (J (i + 1)) s Q) E { s with heap := h, toks := tk })
    (done : ∀ m₁ nx h tk, J vs.length m₁ nx → Fr h₀ env.locals h m₁ → News h₀ env.locals h nx → Q .next { s with heap := h, toks := tk }) :
    wpAny (model prog w) A (pyIter (.ref D)) (fun it s₂ => LoopAtV prog w A h₀ env x body Q E it s₂) E s := by
  obtain ⟨oD, hoD, hr⟩ := id hD
  have hne : D ≠ s.heap.objs.size := lt_ne_size hoD
  refine wpAny_pyIter_list hD ?_
  have W := Walks.list (prog := prog) (w := w) hh s.heap.objs.size D hne vs.toArray
  have hlen : vs.toArray.size = vs.length := by simp
  rw [hlen] at W
  refine for_walk J W ?_ ?_ ?_ ?_ ⟨⟨_, Heap.get?_push_size _ rfl, rfl, rfl⟩, ⟨oD, Heap.get?_push_of_some _ hoD, hr⟩⟩ (F.push _) (fun p hp => ⟨Heap.get?_push_of_some _ (N p hp).1, (N p hp).2⟩) hj ?_ ?_
  · intro hm
    rcases List.mem_cons.mp hm with e | hm
    · exact absurd F.ns.lt (e ▸ Nat.lt_irrefl _)
    · exact hDL (List.mem_singleton.mp hm).symm
  · intro b hb; rw [List.mem_singleton.mp hb]; exact next_is_new F
  · intro p hp hI; exact absurd (Heap.lt_size (N p hp).1) ((List.mem_singleton.mp hI) ▸ Nat.lt_irrefl _)
  · intro i h hi b hb; rw [List.mem_singleton.mp hb]; obtain ⟨⟨o, ho, _⟩, _⟩ := hi; exact ⟨o, ho⟩
  · intro i v m₁ nx h tk own hi hP hI ho hJ F₁ N₁
    exact turn _ i v m₁ nx h tk own (by simpa using hP) (hI _ (.head _)) ho hJ F₁ N₁
  · exact fun m₁ nx h tk hJ F₁ N₁ => done m₁ nx h tk hJ F₁ N₁
end
section
variable {prog : Program} {w : World} {A : Around} {E : Value → Shared → Prop} {s : Shared} {env : Env} {h₀ : Heap} {x : Str} {body : List Stmt} {Q : Flow → Shared → Prop}
theorem for_tupS {D : Addr} {vs : List Value} {m₀ : Str → Option Value} {news : List (Addr × Obj)} (J : (Str → Option Value) → Nat → (Str → Option Value) → List (Addr × Obj) → Prop)
    (hh : A.handled = none) (F : Fr h₀ env.locals s.heap m₀) (N : News h₀ env.locals s.heap news) (hD : s.heap.IsTuple D vs.toArray) (hDL : D ≠ env.locals) (hj : J m₀ 0 m₀ news)
    (turn : ∀ I i v m₁ nx h tk own, vs[i]? = some v → (∃ o, (I, o) ∈ own) → (∀ p ∈ nx, p.1 ∉ [I]) → J m₀ i m₁ nx → Fr h₀ env.locals h (fun y => if y = x then some v else m₁ y) → News h₀ env.locals h (own ++ nx) →
      wpAny (model prog w) A (execs body env) (TurnEnd h₀ env.locals [I] own (J m₀ (i + 1)) s Q) E { s with heap := h, toks := tk })
    (done : ∀ m₁ nx h tk, J m₀ vs.length m₁ nx → Fr h₀ env.locals h m₁ → News h₀ env.locals h nx → Q .next { s with heap := h, toks := tk }) :
    wpAny (model prog w) A (pyIter (.ref D)) (fun it s₂ => LoopAtV prog w A h₀ env x body Q E it s₂) E s := for_tup (J m₀) hh hD hDL F N hj turn done
theorem for_listS {D : Addr} {vs : List Value} {m₀ : Str → Option Value} {news : List (Addr × Obj)} (J : (Str → Option Value) → Nat → (Str → Option Value) → List (Addr × Obj) → Prop)
    (hh : A.handled = none) (F : Fr h₀ env.locals s.heap m₀) (N : News h₀ env.locals s.heap news) (hD : s.heap.IsList D vs.toArray) (hDL : D ≠ env.locals) (hj : J m₀ 0 m₀ news)
    (turn : ∀ I i v m₁ nx h tk own, vs[i]? = some v → (∃ o, (I, o) ∈ own) → (∀ p ∈ nx, p.1 ∉ [I]) → J m₀ i m₁ nx → Fr h₀ env.locals h (fun y => if y = x then some v else m₁ y) → News h₀ env.locals h (own ++ nx) →
      wpAny (model prog w) A (execs body env) (TurnEnd h₀ env.locals [I] own (J m₀ (i + 1)) s Q) E { s with heap := h, toks := tk })
    (done : ∀ m₁ nx h tk, J m₀ vs.length m₁ nx → Fr h₀ env.locals h m₁ → News h₀ env.locals h nx → Q .next { s with heap := h, toks := tk }) :
    wpAny (model prog w) A (pyIter (.ref D)) (fun it s₂ => LoopAtV prog w A h₀ env x body Q E it s₂) E s := for_list (J m₀) hh hD hDL F N hj turn done
end
abbrev MapS := Str → Option Value
def Same (ns : List Str) (m m₀ : MapS) : Prop := ∀ y, ns.contains y = false → m y = m₀ y
theorem Same.refl {ns : List Str} {m : MapS} : Same ns m m := fun _ _ => rfl
theorem map0 {m m₀ : MapS} {ns : List Str} (hs : Same ns m m₀) : m = fun y => if ns.contains y then m y else m₀ y := by
  funext y
  cases h : ns.contains y with
  | true => rfl
  | false => simp only [Bool.false_eq_true, if_false]; exact hs y h
theorem map1 {m m₀ : MapS} {ns : List Str} {a : Str} {v : Value} (h1 : m a = some v) (hs : Same ns m m₀) : m = fun y => if y = a then some v else if ns.contains y then m y else m₀ y := by
  funext y
  by_cases h : y = a
  · subst h; rw [if_pos rfl, h1]
  · rw [if_neg h]; exact congrFun (map0 hs) y
theorem map2 {m m₀ : MapS} {ns : List Str} {a b : Str} {v u : Value} (h1 : m a = some v) (h2 : m b = some u) (hs : Same ns m m₀) : m = fun y => if y = a then some v else if y = b then some u else if ns.contains y then m y else m₀ y := by
  funext y
  by_cases h : y = a
  · subst h; rw [if_pos rfl, h1]
  · rw [if_neg h]; exact congrFun (map1 h2 hs) y
def WTurn (h₀ : Heap) (L : Addr) (s : Shared) (J : Nat → (Str → Option Value) → List (Addr × Obj) → Prop) (Q : Flow → Shared → Prop) (n : Nat) (f : Flow) (s₃ : Shared) : Prop :=
  match f with
  | .ret v => Q (.ret v) s₃
  | .brk => Q .next s₃
  | _ => ∃ h' tk m₂ nx n', s₃ = { s with heap := h', toks := tk } ∧ Fr h₀ L h' m₂ ∧ News h₀ L h' nx ∧ n' < n ∧ J n' m₂ nx
section
variable {prog : Program} {w : World} {A : Around} {E : Value → Shared → Prop} {Q : Flow → Shared → Prop} {s : Shared} {env : Env} {h₀ : Heap} {L : Addr}
theorem while_inv {test : Expr} {body : List Stmt} {pos : Pos} {m : Str → Option Value} {news : List (Addr × Obj)} (J : (Str → Option Value) → Nat → (Str → Option Value) → List (Addr × Obj) → Prop) (n₀ : Nat)
    (F : Fr h₀ L s.heap m) (N : News h₀ L s.heap news) (hJ : J m n₀ m news)
    (turn : ∀ n m₁ nx h₁ tk₁, J m n m₁ nx → Fr h₀ L h₁ m₁ → News h₀ L h₁ nx →
      wpAny (model prog w) A (isTrue test env (eval test env)) (fun b s₂ =>
        if b = true then wpAny (model prog w) A (execs body env) (WTurn h₀ L s (J m) Q n) E s₂ else Q .next s₂) E { s with heap := h₁, toks := tk₁ })
    (hE : PassesOwn (model prog w) A env E := by passes_own) :
    wpAny (model prog w) A (exec (.While test body [] pos) env) Q E s := by
  refine wpAny_While (codeAny_whileLoop (fun n s' => ∃ h₁ tk₁ m₁ nx, s' = { s with heap := h₁, toks := tk₁ } ∧ Fr h₀ L h₁ m₁ ∧ News h₀ L h₁ nx ∧ J m n m₁ nx) ?_ n₀ ⟨s.heap, s.toks, m, news, rfl, F, N, hJ⟩)
  rintro n s' ⟨h₁, tk₁, m₁, nx, rfl, F₁, N₁, J₁⟩
  refine wpAny_mono (turn n m₁ nx h₁ tk₁ J₁ F₁ N₁) (fun b s₂ h₂ => ?_) hE
  cases b with
  | false =>
    simp only [Bool.false_eq_true, if_false] at h₂ ⊢
    exact wpAny_execs_nil h₂
  | true =>
    simp only [if_true] at h₂ ⊢
    refine wpAny_mono h₂ (fun f s₃ h₃ => ?_) hE
    cases f with
    | ret v => exact h₃
    | brk => exact h₃
    | next => obtain ⟨h', tk, m₂, nx₂, n', rfl, F₂, N₂, hn, J₂⟩ := h₃; exact ⟨n', hn, h', tk, m₂, nx₂, rfl, F₂, N₂, J₂⟩
    | cont => obtain ⟨h', tk, m₂, nx₂, n', rfl, F₂, N₂, hn, J₂⟩ := h₃; exact ⟨n', hn, h', tk, m₂, nx₂, rfl, F₂, N₂, J₂⟩
end
def Halt (P : Prop) : Prop := P
theorem Halt.mk {P : Prop} (h : Halt P) : P := h
def Hid (P K : Flow → Shared → Prop) : Prop := ∀ f s, P f s → K f s
theorem hide_post {M : Model} {A : Around} {E : Value → Shared → Prop} {s : Shared} {m : Sem Flow} {P : Flow → Shared → Prop} (h : ∀ K, Hid P K → wpAny M A m K E s) : wpAny M A m P E s := h P fun _ _ x => x
section
variable {prog : Program} {w : World} {A : Around} {E : Value → Shared → Prop} {Q : Flow → Shared → Prop} {s : Shared} {env : Env} {h₀ : Heap} {L : Addr}
end
def MergeMark : Prop := True
theorem MergeMark.mk : MergeMark := trivial
section
variable {M : Model} {A : Around} {E : Value → Shared → Prop} {Q : Flow → Shared → Prop} {s : Shared} {env : Env} {h₀ : Heap} {L : Addr} {m : Str → Option Value} {nw : List (Addr × Obj)}
end
section
variable {M : Model} {A : Around} {E : Value → Shared → Prop} {Q : Flow → Shared → Prop} {s : Shared} {env : Env} {h₀ : Heap} {L : Addr} {m : Str → Option Value}
theorem exec_mergeJ {st : Stmt} (F : Fr h₀ L s.heap m) (J : List (Addr × Obj) → Prop) (step : ∀ K : Flow → Shared → Prop, (∀ h' tk nx, Fr h₀ L h' m → News h₀ L h' nx → J nx → K .next { s with heap := h', toks := tk }) → wpAny M A (exec st env) K E s)
    (next : ∀ h' tk nx, Fr h₀ L h' m → News h₀ L h' nx → J nx → Q .next { s with heap := h', toks := tk }) : wpAny M A (exec st env) Q E s := step Q next
end
end
end Mine
namespace Mine
section
open PySem.Calls
def Al {α : Type} (R : Value → α → Prop) (vs : List Value) (xs : List α) : Prop := vs.length = xs.length ∧ ∀ (i : Nat) (v : Value), vs[i]? = some v → ∃ a, xs[i]? = some a ∧ R v a
def RStr (v : Value) (x : Str) : Prop := ∃ t, v = .str x t
def RByt (v : Value) (x : Array UInt8) : Prop := ∃ t, v = .bytes x t
theorem take_snoc {α : Type} {xs : List α} {i : Nat} {a : α} (h : xs[i]? = some a) : xs.take (i + 1) = xs.take i ++ [a] := by simp [List.take_add_one, h]
def sl : Str := Str.ofString "/"
def jstep (p b : Str) : Str := if Txt.startswith b sl || p.length == 0 then b else if Txt.endswith p sl then p ++ b else p ++ (sl ++ b)
def joinS (x : Str) (xs : List Str) : Str := xs.foldl jstep x
def lens (xs : List Str) : Nat := (xs.map fun y => y.length + 1).sum
theorem jstep_len (p b : Str) : (jstep p b).length ≤ p.length + (b.length + 1) := by
  have h1 : sl.length = 1 := by decide
  unfold jstep
  split
  · omega
  · split
    · rw [Str.length_append]; omega
    · rw [Str.length_append, Str.length_append]; omega
theorem joinS_snoc (x : Str) (xs : List Str) (b : Str) : joinS x (xs ++ [b]) = jstep (joinS x xs) b := by simp [joinS]
theorem lens_snoc (xs : List Str) (b : Str) : lens (xs ++ [b]) = lens xs + (b.length + 1) := by simp [lens]
theorem lens_take (xs : List Str) (i : Nat) : lens (xs.take i) ≤ lens xs := by
  have : xs.take i ++ xs.drop i = xs := List.take_append_drop i xs
  have h2 : ∀ a b : List Str, lens (a ++ b) = lens a + lens b := fun a b => by simp [lens]
  have h2 := h2 (xs.take i) (xs.drop i)
  rw [this] at h2; omega
theorem joinS_len (x : Str) (xs : List Str) : (joinS x xs).length ≤ x.length + lens xs := by
  induction xs generalizing x with
  | nil => simp [joinS, lens]
  | cons b r ih =>
    have := ih (jstep x b)
    have h2 := jstep_len x b
    have h3 : lens (b :: r) = (b.length + 1) + lens r := by simp [lens]
    show (joinS (jstep x b) r).length ≤ _
    omega
theorem lens_ge (xs : List Str) : xs.length ≤ lens xs := by
  induction xs with
  | nil => simp [lens]
  | cons b r ih => have h3 : lens (b :: r) = (b.length + 1) + lens r := by simp [lens]
                   simp only [List.length_cons]; omega
inductive TB where
  | t (x : Str)
  | b (x : Array UInt8)
def TB.isB : TB → Bool
  | .t _ => false
  | .b _ => true
def RTB (v : Value) : TB → Prop
  | .t x => ∃ t, v = .str x t
  | .b x => ∃ t, v = .bytes x t
theorem Al.cons {α : Type} {R : Value → α → Prop} {v : Value} {x : α} {vs : List Value} {xs : List α} (h : R v x) (r : Al R vs xs) : Al R (v :: vs) (x :: xs) :=
  ⟨by rw [List.length_cons, List.length_cons, r.1], fun i u hu => by
    cases i with
    | zero => cases hu; exact ⟨x, rfl, h⟩
    | succ i => exact r.2 i u hu⟩
end
end Mine
namespace Mine
section
open PySem.Calls
theorem sub_bytes_tuple : isSubtype (.type "bytes") (.type "tuple") = pure false := by rw [isSubtype_type]; kernel_rfl
section
open Builtin
theorem meets_bstarts {b c : Array UInt8} {t u : Tok} (h47 : c = #[47]) : Meets (Builtin.«bytes.startswith» ⟨[.bytes b t, .bytes c u], []⟩) (fun _ R s => R (.ok (.ret (.bool (b.toList.head? == some 47)))) s) := by
  intro prog w A R s hs
  have hT : s.TypeIs (.bytes c u) "bytes" := rfl
  have f1 := sub_bytes_tuple
  have f2 : ∀ id, Bytes.buffer? id (.bytes c u) = pure (some c) := fun id => KBy.buffer_eq
  unfold Builtin.«bytes.startswith» Bytes.tailMatchM
  repeat (any_goals (first | assumption | (simp only [List.headD_cons, f2]) | wp_step))
  subst h47
  have hw : Bytes.window b.size none none = (0, (b.size : Int)) := by
    unfold Bytes.window
    simp only [Option.getD_none]
    rw [if_neg (by omega), if_neg (by omega)]
    simp
  rw [hw]
  have e : (if ((0 : Int), (b.size : Int)).snd - ((0 : Int), (b.size : Int)).fst < ((#[47] : Array UInt8).size : Int) then false else
      if false = true then b.extract (((0 : Int), (b.size : Int)).snd.toNat - (#[47] : Array UInt8).size) ((0 : Int), (b.size : Int)).snd.toNat == #[47]
      else b.extract ((0 : Int), (b.size : Int)).fst.toNat (((0 : Int), (b.size : Int)).fst.toNat + (#[47] : Array UInt8).size) == #[47]) = (b.toList.head? == some 47) := by
    obtain ⟨l⟩ := b
    cases l with
    | nil => rfl
    | cons x r => 
      rw [if_neg (by simp; omega), if_neg (by simp)]
      simp
  rw [e]; exact hs
theorem meets_bends {b c : Array UInt8} {t u : Tok} (h47 : c = #[47]) : Meets (Builtin.«bytes.endswith» ⟨[.bytes b t, .bytes c u], []⟩) (fun _ R s => R (.ok (.ret (.bool (b.toList.getLast? == some 47)))) s) := by
  intro prog w A R s hs
  have hT : s.TypeIs (.bytes c u) "bytes" := rfl
  have f1 := sub_bytes_tuple
  have f2 : ∀ id, Bytes.buffer? id (.bytes c u) = pure (some c) := fun id => KBy.buffer_eq
  unfold Builtin.«bytes.endswith» Bytes.tailMatchM
  repeat (any_goals (first | assumption | (simp only [List.headD_cons, f2]) | wp_step))
  subst h47
  have hw : Bytes.window b.size none none = (0, (b.size : Int)) := by
    unfold Bytes.window
    simp only [Option.getD_none]
    rw [if_neg (by omega), if_neg (by omega)]
    simp
  rw [hw]
  have e : (if ((0 : Int), (b.size : Int)).snd - ((0 : Int), (b.size : Int)).fst < ((#[47] : Array UInt8).size : Int) then false else
      if True then b.extract (((0 : Int), (b.size : Int)).snd.toNat - (#[47] : Array UInt8).size) ((0 : Int), (b.size : Int)).snd.toNat == #[47]
      else b.extract ((0 : Int), (b.size : Int)).fst.toNat (((0 : Int), (b.size : Int)).fst.toNat + (#[47] : Array UInt8).size) == #[47]) = (b.toList.getLast? == some 47) := by
    obtain ⟨l⟩ := b
    rcases List.eq_nil_or_concat l with rfl | ⟨r, x, rfl⟩
    · rfl
    · rw [if_neg (by simp; omega), if_pos trivial]
      simp
  rw [e]; exact hs
end
section
variable {prog : Program} {w : World} {A : Around} {E : Value → Shared → Prop} {s : Shared} {t u : Tok} {b : Array UInt8} {Q : Value → Shared → Prop}
theorem by_starts (h : Q (.bool (b.toList.head? == some 47)) s) : wpAny (model prog w) A (call (.builtin "bytes.startswith") [.bytes b t, .bytes #[47] u]) Q E s :=
  call_meets FB.slot_bytes_startswith (typeIs_bytes _ _ _) FB.entry_bytes_startswith (FB.args_bytes_startswith_2 _ _) (meets_bstarts rfl) h
theorem by_ends (h : Q (.bool (b.toList.getLast? == some 47)) s) : wpAny (model prog w) A (call (.builtin "bytes.endswith") [.bytes b t, .bytes #[47] u]) Q E s :=
  call_meets FB.slot_bytes_endswith (typeIs_bytes _ _ _) FB.entry_bytes_endswith (FB.args_bytes_endswith_2 _ _) (meets_bends rfl) h
theorem by_starts_m {M : Model} {pl : Sem Bool} {Q : Value × List Value → Shared → Prop} (h : Q (.builtin "bytes.startswith", [.bytes b t]) s) : wpAny M A (getMethod (.bytes b t) "startswith" pl) Q E s := by
  with_reducible exact KBd.method_of (.bytes b t) (typeIs_bytes _ _ _) FB.slot_bytes_startswith FB.type_bytes_startswith KBd.noRef h
theorem by_ends_m {M : Model} {pl : Sem Bool} {Q : Value × List Value → Shared → Prop} (h : Q (.builtin "bytes.endswith", [.bytes b t]) s) : wpAny M A (getMethod (.bytes b t) "endswith" pl) Q E s := by
  with_reducible exact KBd.method_of (.bytes b t) (typeIs_bytes _ _ _) FB.slot_bytes_endswith FB.type_bytes_endswith KBd.noRef h
end
theorem no_iadd_bytes : typeLookup (.type "bytes") (dunderI "add") = pure none := by rw [typeLookup_type, builtinLookup_eq_fast]; kernel_rfl
section
variable {prog : Program} {w : World} {A : Around} {E : Value → Shared → Prop} {s : Shared} {b c : Array UInt8} {t u : Tok} {Q : Value → Shared → Prop}
theorem iadd_bytes (hsz : b.size + c.size ≤ 16777216) (h : ∀ t' k, Q (.bytes (b ++ c) t') { s with toks := k }) : wpAny (model prog w) A (inplaceOp .Add (.bytes b t) (.bytes c u)) Q E s := by
  refine iconcat_gives (typeIs_bytes s b t) (typeIs_bytes s c u) no_iadd_bytes KBy.noFill_bytes_add KBy.seq_bytes_add FB.slot_bytes_add FB.entry_bytes_add (FB.args_bytes_add_2 _ _) (KBy.gives_bytes_add (KBy.tooLong_not hsz)) ?_
  by_cases hb : b.isEmpty = true
  · rw [if_pos hb]
    have h' := h u s.toks
    rw [Array.isEmpty_iff.1 hb, Array.empty_append] at h'
    exact h'
  · rw [if_neg hb]
    by_cases hc : c.isEmpty = true
    · rw [if_pos hc]
      have h' := h t s.toks
      rw [Array.isEmpty_iff.1 hc, Array.append_empty] at h'
      exact h'
    · rw [if_neg hc]
      exact ⟨by rw [Array.size_append, sizeLine_eq]; exact hsz, h s.toks (s.toks + 1)⟩
end
def jL {α : Type} [DecidableEq α] (sep : α) (p b : List α) : List α := if b.head? == some sep || p.isEmpty then b else if p.getLast? == some sep then p ++ b else p ++ sep :: b
def joinL {α : Type} [DecidableEq α] (sep : α) (p : List α) (bs : List (List α)) : List α := bs.foldl (jL sep) p
def lensL {α : Type} (xs : List (List α)) : Nat := (xs.map fun y => y.length + 1).sum
section
theorem jL_len {α : Type} [DecidableEq α] (sep : α) (p b : List α) : (jL sep p b).length ≤ p.length + (b.length + 1) := by
  unfold jL
  split
  · omega
  · split
    · rw [List.length_append]; omega
    · rw [List.length_append, List.length_cons]; omega
theorem joinL_snoc {α : Type} [DecidableEq α] (sep : α) (x : List α) (xs : List (List α)) (b : List α) : joinL sep x (xs ++ [b]) = jL sep (joinL sep x xs) b := by simp [joinL]
theorem lensL_snoc {α : Type} (xs : List (List α)) (b : List α) : lensL (xs ++ [b]) = lensL xs + (b.length + 1) := by simp [lensL]
theorem lensL_take {α : Type} (xs : List (List α)) (i : Nat) : lensL (xs.take i) ≤ lensL xs := by
  have h2 : ∀ a b : List (List α), lensL (a ++ b) = lensL a + lensL b := fun a b => by simp [lensL]
  have h2 := h2 (xs.take i) (xs.drop i)
  rw [List.take_append_drop] at h2; omega
theorem joinL_len {α : Type} [DecidableEq α] (sep : α) (x : List α) (xs : List (List α)) : (joinL sep x xs).length ≤ x.length + lensL xs := by
  induction xs generalizing x with
  | nil => simp [joinL, lensL]
  | cons b r ih =>
    have := ih (jL sep x b)
    have h2 := jL_len sep x b
    have h3 : lensL (b :: r) = (b.length + 1) + lensL r := by simp [lensL]
    show (joinL sep (jL sep x b) r).length ≤ _
    omega
theorem lensL_ge {α : Type} (xs : List (List α)) : xs.length ≤ lensL xs := by
  induction xs with
  | nil => simp [lensL]
  | cons b r ih => have h3 : lensL (b :: r) = (b.length + 1) + lensL r := by simp [lensL]
                   simp only [List.length_cons]; omega
end
theorem truthy_b {prog : Program} {w : World} {A : Around} {E : Value → Shared → Prop} {s : Shared} {b : Array UInt8} {t : Tok} {Q : Bool → Shared → Prop} (hfit : b.size ≤ 1099511627776) (h : Q (!b.toList.isEmpty) { s with toks := s.toks + 1 + 1 }) : wpAny (model prog w) A (truthy (.bytes b t)) Q E s := by
  refine truthy_bytes hfit ?_
  have e : ((b.size : Int) != 0) = !b.toList.isEmpty := by
    obtain ⟨l⟩ := b
    cases l with
    | nil => rfl
    | cons x r => simp; omega
  rw [e]; exact h
end
end Mine
namespace Mine
section
open PySem.Calls
def KfS (S : List Addr) (h h' : Heap) : Prop := ∀ b o, h.get? b = some o → ∃ sl, h'.get? b = some { o with slots := sl } ∧ (b ∉ S → sl = o.slots)
structure Exc (S : List Addr) (h h' : Heap) (e : Addr) (cls c : Value) (tb : Bool) : Prop where
  kf : KfS S h h'
  new : h.get? e = none
  ob : ∃ oe vs, h'.get? e = some oe ∧ oe.cls = cls ∧ oe.data = .fields vs ∧ vs.size = 6 ∧ vs[2]? = some c ∧
    ((tb = false ∧ vs[1]? = some .none) ∨ (tb = true ∧ ∃ T oT ts, vs[1]? = some (.ref T) ∧ T ≠ e ∧ h.get? T = none ∧ h'.get? T = some oT ∧ oT.data = .fields ts ∧ 3 < ts.size))
section
variable {M : Model} {A : Around} {E : Value → Shared → Prop} {s : Shared} {S : List Addr} {h : Heap} {e : Addr} {cls c : Value} {tb : Bool} {Q : Unit → Shared → Prop}
end
section
variable {M : Model} {A : Around} {E : Value → Shared → Prop} {s : Shared} {S : List Addr} {h base : Heap} {e L : Addr} {cls c : Value} {tb : Bool} {Q : Unit → Shared → Prop} {env : Env} {outer : List Env}
end
theorem fr_none {g h : Heap} {L : Addr} {m : MapS} (F : Fr g L h m) : g.get? L = none := none_size F.above
end
end Mine
namespace Mine
section
open PySem.Calls
section
variable {prog : Program} {w : World} {A : Around} {E : Value → Shared → Prop} {R : Result → Shared → Prop} {s : Shared}
theorem compLoop_gen {elt target iter : Expr} {ifs : List Expr} {scope : Scope} {pos : Pos} {it acc : Value} {env : Env} (I : Nat → Shared → Prop)
    (turn : ∀ n s, I n s → wpAny (model prog w) A (pyNext it) (fun r s₁ => match r with
      | none => R (.ok .next) s₁
      | some v => wpAny (model prog w) A (letOwnedTupleGo target it v) (fun _ s₁' => wpAny (model prog w) A (assign target env v) (fun _ s₂ =>
          wpAny (model prog w) A (forIn ifs true fun c r => if r = true then do let ok ← isTrue c env (eval c env); pure (ForInStep.yield ok) else pure (ForInStep.yield r)) (fun ok s₃ =>
            if ok = true then wpAny (model prog w) A (eval elt env) (fun x s₄ =>
              wpAny (model prog w) A (call (.builtin "list.append") [acc, x]) (fun _ s₅ => ∃ m, m < n ∧ I m s₅) (notedBy (model prog w) A env fun e s' => R (.error e) s') s₄) (notedBy (model prog w) A env fun e s' => R (.error e) s') s₃
            else ∃ m, m < n ∧ I m s₃) (notedBy (model prog w) A env fun e s' => R (.error e) s') s₂) (notedBy (model prog w) A env fun e s' => R (.error e) s') s₁') (notedBy (model prog w) A env fun e s' => R (.error e) s') s₁) (notedBy (model prog w) A env fun e s' => R (.error e) s') s)
    (n : Nat) (h : I n s) :
    codeAny (model prog w) A (.compLoop (.ListComp elt [⟨target, iter, ifs, 0⟩] scope pos) 0 it acc env) R s := by
  refine codeAny_loop rfl I (fun n s hI => ?_) n h
  show wpAny _ A ((compTurn (.ListComp elt [⟨target, iter, ifs, 0⟩] scope pos) 0 it acc env).onRaise (fun x => do noteFrame x env; theTreesLotGoes x)) _ _ s
  refine wpAny_noted ?_
  rw [compTurn_list]
  refine wpAny_bind (wpAny_standAt (wpAny_bind (wpAny_mono (turn n s hI) (fun r s₁ h₁ => ?_) fun _ _ h' => h')))
  cases r with
  | none => exact wpAny_pure h₁
  | some v =>
    refine wpAny_bind (wpAny_mono h₁ (fun _ s₁' h₁' => ?_) fun _ _ h' => h')
    refine wpAny_bind (wpAny_mono h₁' (fun _ s₂ h₂ => wpAny_bind (wpAny_mono h₂ (fun ok s₃ h₃ => ?_) fun _ _ h' => h')) fun _ _ h' => h')
    cases ok with
    | false => exact wpAny_pure ⟨rfl, h₃⟩
    | true =>
      exact wpAny_bind (wpAny_bind (wpAny_mono h₃ (fun x s₄ h₄ => wpAny_bind (wpAny_mono h₄ (fun _ s₅ h₅ => wpAny_pure (wpAny_pure ⟨rfl, h₅⟩)) fun _ _ h' => h')) fun _ _ h' => h'))
end
open LCg in
def EltEnd (h₀ : Heap) (L : Addr) (m : Str → Option Value) (own : List (Addr × Obj)) (C D : Addr) (oC oD : Obj) (wr : List Addr) (J : List (Addr × Obj) → Prop) (s s₂ : Shared) : Prop :=
  ∃ h' tk nx, s₂ = { s with heap := h', toks := tk } ∧ Fr h₀ L h' m ∧ News h₀ L h' (own ++ ((C, oC) :: (D, oD) :: nx)) ∧ (∀ p ∈ nx, p.1 ∉ wr ∧ p.1 ≠ C ∧ p.1 ≠ D) ∧ J nx
def testsOf (ifs : List Expr) (env : Env) : Sem Bool := forIn ifs true fun c r => if r = true then do let ok ← isTrue c env (eval c env); pure (ForInStep.yield ok) else pure (ForInStep.yield r)
structure Steps (prog : Program) (w : World) (A : Around) (env : Env) (scope : Scope) (cl : List (Str × Addr)) (target : Expr) (I : Addr) (fp wr : List Addr) (n : Nat) (P : Nat → (Str → Option Value) → Prop) (St : Nat → Heap → Prop) : Prop where
  sub : ∀ b ∈ wr, b ∈ fp
  frame : ∀ i h h', St i h → (∀ b ∈ fp, ∀ o, h.get? b = some o → h'.get? b = some o) → St i h'
  self : ∀ i (s : Shared) (Q : Value → Shared → Prop) (E : Value → Shared → Prop), St i s.heap → Q (.ref I) s → wpAny (model prog w) A (pyIter (.ref I)) Q E s
  done : ∀ (s : Shared) (Q : Option Value → Shared → Prop) (E : Value → Shared → Prop), St n s.heap →
    (∀ h' tk, (∀ b o, b ∉ wr → s.heap.get? b = some o → h'.get? b = some o) → Q none { s with heap := h', toks := tk }) → wpAny (model prog w) A (pyNext (.ref I)) Q E s
  step : ∀ i C m' (s : Shared) (K Z : Shared → Prop) (E : Value → Shared → Prop), i < n → St i s.heap → s.heap.Ns C m' → C ∉ fp →
    (∀ m₂ h' tk, P i m₂ → St (i + 1) h' → h'.Ns C m₂ → (∀ b o, b ∉ wr → b ≠ C → s.heap.get? b = some o → h'.get? b = some o) → K { s with heap := h', toks := tk }) →
    wpAny (model prog w) A (pyNext (.ref I)) (fun r s₁ => match r with
      | none => Z s₁
      | some v => wpAny (model prog w) A (letOwnedTupleGo target (.ref I) v) (fun _ s₁' => wpAny (model prog w) A (assign target (compEnvC scope cl C env) v) (fun _ s₂ => K s₂) E s₁') E s₁) E s
  some' : ∀ i h, St i h → ∀ b ∈ wr, ∃ o, h.get? b = some o
def ownOf (h₀ h : Heap) (fp : List Addr) : List (Addr × Obj) := fp.filterMap fun b => match h₀.get? b, h.get? b with | none, some o => some (b, o) | _, _ => none
theorem ownOf_in {h₀ h : Heap} {fp : List Addr} {b : Addr} {o : Obj} (hb : b ∈ fp) (h1 : h₀.get? b = none) (h2 : h.get? b = some o) : (b, o) ∈ ownOf h₀ h fp :=
  List.mem_filterMap.mpr ⟨b, hb, by simp [h1, h2]⟩
theorem ownOf_out {h₀ h : Heap} {fp : List Addr} {p : Addr × Obj} (hp : p ∈ ownOf h₀ h fp) : p.1 ∈ fp ∧ h₀.get? p.1 = none ∧ h.get? p.1 = some p.2 := by
  obtain ⟨b, hb, e⟩ := List.mem_filterMap.mp hp
  split at e
  · cases e; exact ⟨hb, by assumption, by assumption⟩
  · cases e
section
variable {prog : Program} {w : World} {A : Around} {E : Value → Shared → Prop} {h₀ : Heap} {L : Addr} {m : Str → Option Value} {env : Env}
open LCg in
theorem block_G {elt target iter : Expr} {ifs : List Expr} {scope : Scope} {cl : List (Str × Addr)} {pos : Pos} {s₂ : Shared} {I : Addr} {fp wr : List Addr} {n : Nat} {P : Nat → (Str → Option Value) → Prop} {St : Nat → Heap → Prop} {news : List (Addr × Obj)}
    {RR : Value → Addr → Result → Shared → Prop} (J : Nat → List Value → List (Addr × Obj) → Prop)
    (W : Steps prog w A env scope cl target I fp wr n P St) (hsz : n ≤ sizeLine) (hcell : ∀ y ∈ scope.names, y.2 ≠ .cell) (hkind : scope.kind = .function)
    (hst : St 0 s₂.heap) (hfp : ∀ b ∈ fp, b < s₂.heap.objs.size) (hwr : ∀ b ∈ wr, h₀.get? b = none) (hLf : L ∉ fp)
    (F : Fr h₀ L s₂.heap m) (N : News h₀ L s₂.heap news) (off : ∀ p ∈ news, p.1 ∉ wr) (hJ : J 0 [] news)
    (turn : ∀ i C oC D m₂ h tk own ys nx (E' : Value → Shared → Prop), i < n → J i ys nx → P i m₂ → NsObj oC m₂ → Fr h₀ L h m → News h₀ L h (own ++ ((C, oC) :: (D, lst ys) :: nx)) → (∀ b ∈ wr, ∃ o, (b, o) ∈ own) → (∀ p ∈ nx, p.1 ∉ wr ∧ p.1 ≠ C ∧ p.1 ≠ D) → C ≠ D →
      wpAny (model prog w) A (testsOf ifs (compEnvC scope cl C env)) (fun ok s₃ =>
        if ok = true then wpAny (model prog w) A (eval elt (compEnvC scope cl C env)) (fun y s₄ => EltEnd h₀ L m own C D oC (lst ys) wr (J (i + 1) (ys ++ [y])) s₂ s₄) E' s₃
        else EltEnd h₀ L m own C D oC (lst ys) wr (J (i + 1) ys) s₂ s₃) E' { s₂ with heap := h, toks := tk })
    (hRR : ∀ D C h tk m' ys nx, Fr h₀ L h m → News h₀ L h ((D, lst ys) :: nx) → (∀ p ∈ nx, p.1 ≠ D) → h.Ns C m' → h₀.get? C = none → h₀.get? D = none → C ≠ L → D ≠ L → C ≠ D → (∀ p ∈ nx, p.1 ≠ C) → J n ys nx → RR (.ref D) C (.ok .next) { s₂ with heap := h, toks := tk }) :
    wpAny (model prog w) A (newList []) (fun acc s₃ => wpAny (model prog w) A (newFunctionEnv scope env.globals cl [] env.qual none .none (some env)) (fun cenv s₄ =>
      codeAny (model prog w) A (.compStart (.ListComp elt [⟨target, iter, ifs, 0⟩] scope pos) 0 (.ref I) acc { cenv with scope := relabel scope env }) (RR acc cenv.locals) s₄) E s₃) E s₂ := by
  refine wpAny_newObj_type (wpAny_newFunctionEnv hcell (by intro y hy; simp at hy) (fun h₁ hns₁ hsb₁ => ?_) hkind)
  dsimp only at hns₁ hsb₁ ⊢
  generalize hH2 : s₂.heap.push { cls := .type "list", dict := none, data := .seq ([] : List Value).toArray } = H2 at hns₁ hsb₁ ⊢
  have hC : H2.objs.size = s₂.heap.objs.size + 1 := by rw [← hH2, Heap.size_push]
  have hDC : s₂.heap.objs.size ≠ H2.objs.size := by rw [hC]; exact Nat.ne_of_lt (Nat.lt_succ_self _)
  have below : ∀ b, b < s₂.heap.objs.size → b ≠ H2.objs.size ∧ b ≠ s₂.heap.objs.size := fun b hb => ⟨by rw [hC]; exact Nat.ne_of_lt (Nat.lt_succ_of_lt hb), Nat.ne_of_lt hb⟩
  have hDf : s₂.heap.objs.size ∉ fp := fun hm => Nat.lt_irrefl _ (hfp _ hm)
  have hCf : H2.objs.size ∉ fp := fun hm => by have := hfp _ hm; rw [hC] at this; exact Nat.lt_irrefl _ (Nat.lt_of_succ_lt this)
  have old : ∀ b o, s₂.heap.get? b = some o → h₁.get? b = some o := fun b o e => hsb₁.extBut b o (below b (Heap.lt_size e)).1 (Heap.get?_push_of_some _ (hH2 ▸ Heap.get?_push_of_some _ e))
  have hacc : h₁.get? s₂.heap.objs.size = some (lst []) := hsb₁.extBut _ _ hDC (Heap.get?_push_of_some _ (hH2 ▸ Heap.get?_push_size _ rfl))
  have hst₁ : St 0 h₁ := W.frame _ _ _ hst fun b _ o e => old b o e
  have fresh : ∀ a, s₂.heap.objs.size ≤ a → s₂.heap.get? a = none := fun a ha => none_size ha
  have fresh₀ : ∀ a, s₂.heap.objs.size ≤ a → h₀.get? a = none := fun a ha => by
    cases e : h₀.get? a with
    | none => rfl
    | some o' => have := F.keep a o' e; rw [fresh a ha] at this; cases this
  have hD₀ : h₀.get? s₂.heap.objs.size = none := fresh₀ _ (Nat.le_refl _)
  have hC₀ : h₀.get? H2.objs.size = none := fresh₀ _ (by rw [hC]; exact Nat.le_succ _)
  have hLlt : L < s₂.heap.objs.size := F.ns.lt
  have hDL : s₂.heap.objs.size ≠ L := Ne.symm (below L hLlt).2
  have hCL : H2.objs.size ≠ L := Ne.symm (below L hLlt).1
  have hDw : s₂.heap.objs.size ∉ wr := fun hm => hDf (W.sub _ hm)
  have hCw : H2.objs.size ∉ wr := fun hm => hCf (W.sub _ hm)
  have hLw : L ∉ wr := fun hm => hLf (W.sub _ hm)
  have off₀ : ∀ p ∈ news, p.1 ∉ wr ∧ p.1 ≠ H2.objs.size ∧ p.1 ≠ s₂.heap.objs.size := fun p hp => ⟨off p hp, (below _ (Heap.lt_size (N p hp).1)).1, (below _ (Heap.lt_size (N p hp).1)).2⟩
  have loop : ∀ s₃ : Shared, s₃ = { s₂ with heap := h₁, toks := s₂.toks + ([] : List (Str × Value)).length } →
      codeAny (model prog w) A (.compLoop (.ListComp elt [⟨target, iter, ifs, 0⟩] scope pos) 0 (.ref I) (.ref s₂.heap.objs.size) (compEnvC scope cl H2.objs.size env))
        (RR (.ref s₂.heap.objs.size) H2.objs.size) s₃ := by
    intro s₃ e3
    subst e3
    refine compLoop_gen
      (fun k s' => ∃ h' tk i ys m' nx, s' = { s₂ with heap := h', toks := tk } ∧ i ≤ n ∧ k = n + 1 - i ∧ ys.length ≤ i ∧ St i h' ∧ Fr h₀ L h' m ∧ h'.Ns H2.objs.size m' ∧ News h₀ L h' ((s₂.heap.objs.size, lst ys) :: nx) ∧
        (∀ p ∈ nx, p.1 ∉ wr ∧ p.1 ≠ H2.objs.size ∧ p.1 ≠ s₂.heap.objs.size) ∧ J i ys nx) ?_ (n + 1)
      ⟨h₁, _, 0, [], _, news, rfl, Nat.zero_le _, rfl, Nat.le_refl _, hst₁, F.keeps old, hns₁, fun p hp => ?_, off₀, hJ⟩
    · rintro k s' ⟨h', tk, i, ys, m', nx, rfl, hi, rfl, hyl, hst', F', hn', N', off', hJ'⟩
      by_cases hlt : i < n
      · refine W.step i H2.objs.size m' _ _ _ _ hlt hst' hn' hCf fun m₂ h₃ tk₃ hPv hst₃ hn₃ hk₃ => ?_
        · obtain ⟨oC, heC, hoC⟩ := ns_obj hn₃
          have F₃ : Fr h₀ L h₃ m := ⟨F'.ns.at' fun o e => hk₃ L o hLw (Ne.symm hCL) e, fun b o e => hk₃ b o (fun hm => by rw [hwr b hm] at e; cases e) (fun q => by rw [q, hC₀] at e; cases e) (F'.keep b o e), F'.above⟩
          have N₃ : News h₀ L h₃ (ownOf h₀ h₃ fp ++ ((H2.objs.size, oC) :: (s₂.heap.objs.size, lst ys) :: nx)) := fun p hp => by
            rcases List.mem_append.mp hp with hp | hp
            · obtain ⟨a, b, c⟩ := ownOf_out hp
              exact ⟨c, fun q => hLf (q ▸ a), b⟩
            rcases List.mem_cons.mp hp with rfl | hp
            · exact ⟨heC, hCL, hC₀⟩
            rcases List.mem_cons.mp hp with rfl | hp
            · exact ⟨hk₃ _ _ hDw hDC (N' _ List.mem_cons_self).1, hDL, hD₀⟩
            · exact ⟨hk₃ _ _ (off' p hp).1 (off' p hp).2.1 (N' p (List.mem_cons_of_mem _ hp)).1, (N' p (List.mem_cons_of_mem _ hp)).2⟩
          have keepSt : ∀ h₄ nx₄, Fr h₀ L h₄ m → News h₀ L h₄ (ownOf h₀ h₃ fp ++ nx₄) → St (i + 1) h₄ := fun h₄ nx₄ F₄ N₄ => by
            refine W.frame _ _ _ hst₃ fun b hb o e => ?_
            cases e0 : h₀.get? b with
            | some o0 => rw [F₃.keep b o0 e0] at e; cases e; exact F₄.keep b _ e0
            | none => exact (N₄ _ (List.mem_append_left _ (ownOf_in hb e0 e))).1
          refine wpAny_mono (turn i H2.objs.size oC s₂.heap.objs.size m₂ h₃ _ (ownOf h₀ h₃ fp) ys nx _ hlt hJ' hPv hoC F₃ N₃ (fun b hb => ?_) off' (Ne.symm hDC)) (fun ok s₄ h₄ => ?_) fun _ _ e => e
          · obtain ⟨o, ho⟩ := W.some' _ _ hst₃ b hb
            exact ⟨o, ownOf_in (W.sub b hb) (hwr b hb) ho⟩
          · cases ok with
            | true =>
              simp only [if_true] at h₄ ⊢
              refine wpAny_mono h₄ (fun y s₅ h₅ => ?_) fun _ _ e => e
              obtain ⟨h₅, tk₅, nx₅, rfl, F₅, N₅, off₅, hJ₅⟩ := h₅
              have hst₅ := keepSt _ _ F₅ N₅
              have N₅' := fun p hp => N₅ p (List.mem_append_right _ hp)
              refine append_at (hsz := by show ys.toArray.size ≤ sizeLine; rw [List.size_toArray]; exact Nat.le_trans hyl (Nat.le_trans hi hsz)) (N₅' (s₂.heap.objs.size, lst ys) (by simp)).1 fun h₆ hs₆ hD₆ => ?_
              refine ⟨n + 1 - (i + 1), by omega, h₆, tk₅, i + 1, ys ++ [y], _, nx₅, rfl, hlt, rfl, by rw [List.length_append, List.length_singleton]; exact Nat.succ_le_succ hyl,
                W.frame _ _ _ hst₅ fun b hb o e => hs₆.extBut b o (fun q => hDf (q ▸ hb)) e, F₅.change hs₆ hDL hD₀, (hoC.ns (N₅' (H2.objs.size, oC) (by simp)).1).sameBut hs₆ (Ne.symm hDC), fun p hp => ?_, off₅, hJ₅⟩
              rcases List.mem_cons.mp hp with rfl | hp
              · exact ⟨hD₆.trans (congrArg some (lst_snoc ys y)), hDL, hD₀⟩
              · have z := N₅' p (by simp [hp])
                exact ⟨hs₆.extBut _ _ (off₅ p hp).2.2 z.1, z.2⟩
            | false =>
              simp only [Bool.false_eq_true, if_false] at h₄ ⊢
              obtain ⟨h₅, tk₅, nx₅, rfl, F₅, N₅, off₅, hJ₅⟩ := h₄
              have N₅' := fun p hp => N₅ p (List.mem_append_right _ hp)
              exact ⟨n + 1 - (i + 1), by omega, h₅, tk₅, i + 1, ys, _, nx₅, rfl, hlt, rfl, Nat.le_succ_of_le hyl, keepSt _ _ F₅ N₅, F₅, hoC.ns (N₅' (H2.objs.size, oC) (by simp)).1, fun p hp => N₅' p (List.mem_cons_of_mem _ hp), off₅, hJ₅⟩
      · obtain rfl : i = n := Nat.le_antisymm hi (Nat.not_lt.mp hlt)
        refine W.done _ _ _ hst' fun h₂ tk₂ hk₂ => ?_
        have F₂ : Fr h₀ L h₂ m := ⟨F'.ns.at' fun o e => hk₂ L o hLw e, fun b o e => hk₂ b o (fun hm => by rw [hwr b hm] at e; cases e) (F'.keep b o e), F'.above⟩
        exact hRR _ _ h₂ tk₂ _ ys nx F₂ (fun p hp => by
          refine ⟨hk₂ _ _ ?_ (N' p hp).1, (N' p hp).2⟩
          rcases List.mem_cons.mp hp with rfl | hp
          · exact hDw
          · exact (off' p hp).1) (fun p hp => (off' p hp).2.2) (hn'.at' fun o e => hk₂ _ o hCw e) hC₀ hD₀ hCL hDL (Ne.symm hDC) (fun p hp => (off' p hp).2.1) hJ'
    · rcases List.mem_cons.mp hp with rfl | hp
      · exact ⟨hacc, hDL, hD₀⟩
      · exact ⟨old _ _ (N p hp).1, (N p hp).2⟩
  exact codeAny_compStart_list (loop _ rfl) (W.self 0 _ _ _ hst₁ (loop _ rfl))
end
end
end Mine
namespace Mine
section
open PySem.Calls
open LCg
def CompIn (prog : Program) (w : World) (A : Around) (h₀ : Heap) (L : Addr) (m : Str → Option Value) (env : Env) (target elt : Expr) (ifs : List Expr) (scope : Scope) (cl : List (Str × Addr)) (Fin : Shared → List Value → List (Addr × Obj) → Prop) (it : Value) (s₂ : Shared) : Prop :=
  ∃ (I : Addr) (fp wr : List Addr) (n : Nat) (P : Nat → (Str → Option Value) → Prop) (St : Nat → Heap → Prop) (news : List (Addr × Obj)) (J : Nat → List Value → List (Addr × Obj) → Prop),
    it = .ref I ∧ Steps prog w A env scope cl target I fp wr n P St ∧ n ≤ sizeLine ∧ St 0 s₂.heap ∧ (∀ b ∈ fp, b < s₂.heap.objs.size) ∧ (∀ b ∈ wr, h₀.get? b = none) ∧ L ∉ fp ∧
    Fr h₀ L s₂.heap m ∧ News h₀ L s₂.heap news ∧ (∀ p ∈ news, p.1 ∉ wr) ∧ J 0 [] news ∧
    (∀ i C oC D m₂ h tk own ys nx (E' : Value → Shared → Prop), i < n → J i ys nx → P i m₂ → NsObj oC m₂ → Fr h₀ L h m → News h₀ L h (own ++ ((C, oC) :: (D, lst ys) :: nx)) → (∀ b ∈ wr, ∃ o, (b, o) ∈ own) → (∀ p ∈ nx, p.1 ∉ wr ∧ p.1 ≠ C ∧ p.1 ≠ D) → C ≠ D →
      wpAny (model prog w) A (testsOf ifs (compEnvC scope cl C env)) (fun ok s₃ =>
        if ok = true then wpAny (model prog w) A (eval elt (compEnvC scope cl C env)) (fun y s₄ => EltEnd h₀ L m own C D oC (lst ys) wr (J (i + 1) (ys ++ [y])) s₂ s₄) E' s₃
        else EltEnd h₀ L m own C D oC (lst ys) wr (J (i + 1) ys) s₂ s₃) E' { s₂ with heap := h, toks := tk }) ∧
    (∀ ys nx, J n ys nx → Fin s₂ ys nx)
def CompAt (prog : Program) (w : World) (A : Around) (h₀ : Heap) (L : Addr) (m : Str → Option Value) (env : Env) (target elt : Expr) (ifs : List Expr) (scope : Scope) (cl : List (Str × Addr)) (E : Value → Shared → Prop) (Fin : Shared → List Value → List (Addr × Obj) → Prop) (xv : Value) (s₁ : Shared) : Prop :=
  wpAny (model prog w) A (pyIter xv) (CompIn prog w A h₀ L m env target elt ifs scope cl Fin) E s₁
def EndE (h₀ : Heap) (L : Addr) (m : Str → Option Value) (Q : Value → Shared → Prop) (s : Shared) (ys : List Value) (news : List (Addr × Obj)) : Prop :=
  ∀ D h tk, Fr h₀ L h m → News h₀ L h ((D, lst ys) :: news) → (∀ p ∈ news, p.1 ≠ D) → Q (.ref D) { s with heap := h, toks := tk }
def EndA (h₀ : Heap) (L : Addr) (m : Str → Option Value) (y : Str) (Q : Flow → Shared → Prop) (s : Shared) (ys : List Value) (news : List (Addr × Obj)) : Prop :=
  ∀ D h tk, Fr h₀ L h (fun z => if z = y then some (.ref D) else m z) → News h₀ L h ((D, lst ys) :: news) → (∀ p ∈ news, p.1 ≠ D) → Q .next { s with heap := h, toks := tk }
section
variable {prog : Program} {w : World} {A : Around} {E : Value → Shared → Prop} {s : Shared} {h₀ : Heap} {L : Addr} {m : Str → Option Value} {env : Env}
theorem ListComp_G {elt target iter : Expr} {ifs : List Expr} {scope : Scope} {cl : List (Str × Addr)} {pos : Pos} {Q : Value → Shared → Prop} (F₀ : Fr h₀ L s.heap m)
    (hclos : closureFor scope env = pure cl) (hcell : ∀ y ∈ scope.names, y.2 ≠ .cell) (hkind : scope.kind = .function)
    (hnames : ∀ y ∈ scope.names, y.2 = .local → scope.names.lookup y.1 = some .local)
    (h : wpAny (model prog w) A (eval iter env) (CompAt prog w A h₀ L m env target elt ifs scope cl E (EndE h₀ L m Q)) E s)
    (hs : ∀ x, foldedSetIterable iter env x = pure x := by intro _; rfl) :
    wpAny (model prog w) A (eval (.ListComp elt [⟨target, iter, ifs, 0⟩] scope pos) env) Q E s := by
  rw [eval_ListComp]
  refine wpAny_comprehension_free (use := none) rfl hs hclos hkind hnames (wpAny_mono h (fun xv s₁ h₁ => wpAny_mono h₁ (fun it s₂ h₂ => ?_) fun _ _ e => e) fun _ _ e => e)
  obtain ⟨I, fp, wr, n, P, St, news, J, rfl, W, hsz, hst, hfp, hwr, hLf, F, N, off, hJ, turn, fin⟩ := h₂
  refine block_G J W hsz hcell hkind hst hfp hwr hLf F N off hJ turn ?_
  intro D C h tk m' ys nx F' N' o1 hn hC₀ hD₀ hCL hDL hCD offC hJ'
  refine ⟨m', hn, fun h'' hs'' => fin _ _ hJ' D h'' tk (F'.change hs'' hCL hC₀) (fun p hp => ?_) o1⟩
  refine ⟨hs''.extBut _ _ ?_ (N' p hp).1, (N' p hp).2⟩
  rcases List.mem_cons.mp hp with rfl | hp
  · exact Ne.symm hCD
  · exact offC p hp
theorem Assign_ListComp_G {elt target iter : Expr} {ifs : List Expr} {y : Str} {py : Pos} {scope : Scope} {cl : List (Str × Addr)} {pos spos : Pos} {Q : Flow → Shared → Prop} (F₀ : Fr h₀ L s.heap m) (hLe : env.locals = L)
    (hsw : swapsWith (.ListComp elt [⟨target, iter, ifs, 0⟩] scope pos) (some (.Name y py)) spos.line env = pure true)
    (hclos : closureFor scope env = pure cl) (hcell : ∀ z ∈ scope.names, z.2 ≠ .cell) (hkind : scope.kind = .function)
    (hnames : ∀ z ∈ scope.names, z.2 = .local → scope.names.lookup z.1 = some .local)
    (hy : env.kindOf y = some .local) (hp : (env.scope.kind == .class || (env.scope.kind == .module && env.locals != env.globals)) = false)
    (h : wpAny (model prog w) A (eval iter env) (CompAt prog w A h₀ L m env target elt ifs scope cl E (EndA h₀ L m y Q)) E s)
    (hs : ∀ x, foldedSetIterable iter env x = pure x := by intro _; rfl) :
    wpAny (model prog w) A (exec (.Assign [.Name y py] (.ListComp elt [⟨target, iter, ifs, 0⟩] scope pos) spos) env) Q E s := by
  subst hLe
  rw [exec_Assign_Name_used _ _ _ _ hsw]
  refine wpAny_bind (wpAny_standAt (wpAny_bind ?_))
  show wpAny _ A (do let _ ← comprehension (.ListComp elt [⟨target, iter, ifs, 0⟩] scope pos) scope env _ (newList []) false (eval iter env) (some (assign (.Name y py) env))) _ _ s
  refine wpAny_bind (wpAny_mono (wpAny_comprehension_free (use := some (assign (.Name y py) env)) (Q := fun _ s' => Q .next s') rfl hs hclos hkind hnames
    (wpAny_mono h (fun xv s₁ h₁ => wpAny_mono h₁ (fun it s₂ h₂ => ?_) fun _ _ e => e) fun _ _ e => e)) (fun _ s' hq => wpAny_pure (wpAny_pure hq)) fun _ _ e => e)
  obtain ⟨I, fp, wr, n, P, St, news, J, rfl, W, hsz, hst, hfp, hwr, hLf, F, N, off, hJ, turn, fin⟩ := h₂
  refine block_G J W hsz hcell hkind hst hfp hwr hLf F N off hJ turn ?_
  intro D C h' tk m' ys news' F' N' o1 hn hC₀ hD₀ hCL hDL hCD offC hJ'
  show wpAny _ A (assign (.Name y py) env (.ref D)) _ _ _
  refine wpAny_assign_Name (wpAny_storeName_local hy F'.ns (fun h₂ hn₂ hs₂ => ?_) hp)
  have hL₀ : h₀.get? env.locals = none := Heap.get?_none_of_le F'.above
  have F₂ : Fr h₀ env.locals h₂ (fun z => if z = y then some (.ref D) else m z) := ⟨hn₂, fun b o e => hs₂.extBut b o (fun q => by rw [q, hL₀] at e; cases e) (F'.keep b o e), F'.above⟩
  refine ⟨m', hn.sameBut hs₂ hCL, fun h'' hs'' => fin _ _ hJ' D h'' _ (F₂.change hs'' hCL hC₀) (fun p hp => ?_) o1⟩
  have z : h₂.get? p.1 = some p.2 := hs₂.extBut _ _ (N' p hp).2.1 (N' p hp).1
  refine ⟨hs''.extBut _ _ ?_ z, (N' p hp).2⟩
  rcases List.mem_cons.mp hp with rfl | hp
  · exact Ne.symm hCD
  · exact offC p hp

theorem steps_name {x : Str} {px : Pos} {scope : Scope} {cl : List (Str × Addr)} {I : Addr} {fp wr : List Addr} {n : Nat} {P : Nat → Value → Prop} {St : Nat → Heap → Prop} (W : Walks prog w A I fp wr n P St)
    (hkind : scope.kind = .function) (hx : scope.names.lookup x = some .local) (hob : ∀ i h, St i h → ∀ b ∈ wr, ∃ o, h.get? b = some o) :
    Steps prog w A env scope cl (.Name x px) I fp wr n (fun i m₂ => ∃ v, P i v ∧ m₂ x = some v) St where
  sub := W.sub
  frame := W.frame
  self := W.self
  done := W.done
  some' := hob
  step := fun i C m' s K Z E hi hst hn hC hK => by
    refine W.item i _ _ _ hi hst fun v h₂ tk₂ hPv hst₂ hk₂ => ?_
    have hCw : C ∉ wr := fun q => hC (W.sub _ q)
    dsimp only
    show wpAny _ A (pure () : Sem Unit) _ _ _
    refine wpAny_pure ?_
    refine wpAny_assign_Name (wpAny_storeName_local (lookup_relabel_local hx) (hn.at' fun o e => hk₂ _ o hCw e) (fun h₃ hn₃ hs₃ => ?_) (by simp [compEnvC, relabel, hkind]))
    exact hK _ h₃ _ ⟨v, hPv, by simp⟩ (W.frame _ _ _ hst₂ fun b hb o e => hs₃.extBut b o (fun q => hC (by have q' : b = C := q; rw [← q']; exact hb)) e) hn₃ fun b o hb hbC e => hs₃.extBut b o hbC (hk₂ b o hb e)

end
end
end Mine
namespace Mine
section
open PySem.Calls
open LCg
section
variable {prog : Program} {w : World} {A : Around} {E : Value → Shared → Prop} {s : Shared} {h₀ : Heap} {L : Addr} {m : Str → Option Value} {env : Env} {elt : Expr} {ifs : List Expr} {scope : Scope} {cl : List (Str × Addr)} {Fin : Shared → List Value → List (Addr × Obj) → Prop}
theorem tests0 {cenv : Env} {Q : Value → Shared → Prop} {Z : Shared → Prop} {E' : Value → Shared → Prop} (h : wpAny (model prog w) A (eval elt cenv) Q E' s) :
    wpAny (model prog w) A (testsOf [] cenv) (fun ok s₃ => if ok = true then wpAny (model prog w) A (eval elt cenv) Q E' s₃ else Z s₃) E' s := wpAny_tests_nil (by simpa using h)
theorem tests1 {cenv : Env} {c : Expr} {Q : Value → Shared → Prop} {Z : Shared → Prop} {E' : Value → Shared → Prop}
    (h : wpAny (model prog w) A (isTrue c cenv (eval c cenv)) (fun ok s₃ => if ok = true then wpAny (model prog w) A (eval elt cenv) Q E' s₃ else Z s₃) E' s) :
    wpAny (model prog w) A (testsOf [c] cenv) (fun ok s₃ => if ok = true then wpAny (model prog w) A (eval elt cenv) Q E' s₃ else Z s₃) E' s := wpAny_tests_one h
theorem src_list {x : Str} {px : Pos} {ax : Addr} {vs : List Value} {news : List (Addr × Obj)} (J : Nat → List Value → List (Addr × Obj) → Prop)
    (hh : A.handled = none) (F : Fr h₀ L s.heap m) (N : News h₀ L s.heap news) (hD : s.heap.IsList ax vs.toArray) (haL : ax ≠ L) (hsz : vs.length ≤ sizeLine)
    (hkind : scope.kind = .function) (hx : scope.names.lookup x = some .local) (hJ : J 0 [] news)
    (turn : ∀ I i v C oC D m₂ h tk own ys nx (E' : Value → Shared → Prop), vs[i]? = some v → J i ys nx → m₂ x = some v → NsObj oC m₂ → Fr h₀ L h m → News h₀ L h (own ++ ((C, oC) :: (D, lst ys) :: nx)) → (∀ p ∈ nx, p.1 ∉ [I] ∧ p.1 ≠ C ∧ p.1 ≠ D) → (∃ o, (I, o) ∈ own) → C ≠ D →
      wpAny (model prog w) A (testsOf ifs (compEnvC scope cl C env)) (fun ok s₃ =>
        if ok = true then wpAny (model prog w) A (eval elt (compEnvC scope cl C env)) (fun y s₄ => EltEnd h₀ L m own C D oC (lst ys) [I] (J (i + 1) (ys ++ [y])) s s₄) E' s₃
        else EltEnd h₀ L m own C D oC (lst ys) [I] (J (i + 1) ys) s s₃) E' { s with heap := h, toks := tk })
    (fin : ∀ g tk ys nx, J vs.length ys nx → Fin { s with heap := g, toks := tk } ys nx) :
    CompAt prog w A h₀ L m env (.Name x px) elt ifs scope cl E Fin (.ref ax) s := by
  obtain ⟨oD, hoD, hr⟩ := id hD
  have hne : ax ≠ s.heap.objs.size := lt_ne_size hoD
  refine wpAny_pyIter_list hD ?_
  have W := Walks.list (prog := prog) (w := w) hh s.heap.objs.size ax hne vs.toArray
  have hlen : vs.toArray.size = vs.length := by simp
  rw [hlen] at W
  have W2 := steps_name (env := env) (cl := cl) (px := px) W hkind hx fun i h hi b hb => by rw [List.mem_singleton.mp hb]; obtain ⟨⟨o, ho, _⟩, _⟩ := hi; exact ⟨o, ho⟩
  refine ⟨_, _, _, _, _, _, news, J, rfl, W2, hsz, ⟨⟨_, Heap.get?_push_size _ rfl, rfl, rfl⟩, ⟨oD, Heap.get?_push_of_some _ hoD, hr⟩⟩, ?_, ?_, ?_, F.push _, fun p hp => ⟨Heap.get?_push_of_some _ (N p hp).1, (N p hp).2⟩, ?_, hJ, ?_, fun ys nx hj => fin _ _ ys nx hj⟩
  · intro b hb
    show b < (s.heap.push _).objs.size
    rw [Heap.size_push]
    rcases List.mem_cons.mp hb with rfl | hb
    · exact Nat.lt_succ_self _
    · rw [List.mem_singleton.mp hb]; exact Nat.lt_succ_of_lt (Heap.lt_size hoD)
  · intro b hb; rw [List.mem_singleton.mp hb]; exact next_is_new F
  · intro hm
    rcases List.mem_cons.mp hm with e | hm
    · exact absurd F.ns.lt (e ▸ Nat.lt_irrefl _)
    · exact haL (List.mem_singleton.mp hm).symm
  · intro p hp hI; exact absurd (Heap.lt_size (N p hp).1) ((List.mem_singleton.mp hI) ▸ Nat.lt_irrefl _)
  · intro i C oC D m₂ h tk own ys nx E' hi hj hP hC F₁ N₁ hI ho hne
    obtain ⟨v, hv, hm⟩ := hP
    exact turn _ i v C oC D m₂ h tk own ys nx E' (by simpa using hv) hj hm hC F₁ N₁ ho (hI _ (.head _)) hne
theorem src_str {x : Str} {px : Pos} {tx : Str} {t : Tok} {news : List (Addr × Obj)} (J : Nat → List Value → List (Addr × Obj) → Prop)
    (hh : A.handled = none) (F : Fr h₀ L s.heap m) (N : News h₀ L s.heap news) (hsz : tx.cps.size ≤ sizeLine)
    (hkind : scope.kind = .function) (hx : scope.names.lookup x = some .local) (hJ : J 0 [] news)
    (turn : ∀ I i c u C oC D m₂ h tk own ys nx (E' : Value → Shared → Prop), tx.cps.toList[i]? = some c → J i ys nx → m₂ x = some (.str ⟨#[c]⟩ u) → NsObj oC m₂ → Fr h₀ L h m → News h₀ L h (own ++ ((C, oC) :: (D, lst ys) :: nx)) → (∀ p ∈ nx, p.1 ∉ [I] ∧ p.1 ≠ C ∧ p.1 ≠ D) → (∃ o, (I, o) ∈ own) → C ≠ D →
      wpAny (model prog w) A (testsOf ifs (compEnvC scope cl C env)) (fun ok s₃ =>
        if ok = true then wpAny (model prog w) A (eval elt (compEnvC scope cl C env)) (fun y s₄ => EltEnd h₀ L m own C D oC (lst ys) [I] (J (i + 1) (ys ++ [y])) s s₄) E' s₃
        else EltEnd h₀ L m own C D oC (lst ys) [I] (J (i + 1) ys) s s₃) E' { s with heap := h, toks := tk })
    (fin : ∀ g tk ys nx, J tx.cps.size ys nx → Fin { s with heap := g, toks := tk } ys nx) :
    CompAt prog w A h₀ L m env (.Name x px) elt ifs scope cl E Fin (.str tx t) s := by
  have go : ∀ (T : String) (o : Obj), Walks prog w A s.heap.objs.size [s.heap.objs.size] [s.heap.objs.size] tx.cps.size (SignAt tx) (fun i h => h.IsStrIter s.heap.objs.size T tx t i) →
      (s.heap.push o).IsStrIter s.heap.objs.size T tx t 0 → CompIn prog w A h₀ L m env (.Name x px) elt ifs scope cl Fin (.ref s.heap.objs.size) { s with heap := s.heap.push o } := by
    intro T o W hst
    have W2 := steps_name (env := env) (cl := cl) (px := px) W hkind hx fun i h hi b hb => by rw [List.mem_singleton.mp hb]; obtain ⟨o, ho, _⟩ := hi; exact ⟨o, ho⟩
    refine ⟨_, _, _, _, _, _, news, J, rfl, W2, hsz, hst, ?_, ?_, ?_, F.push _, fun p hp => ⟨Heap.get?_push_of_some _ (N p hp).1, (N p hp).2⟩, ?_, hJ, ?_, fun ys nx hj => fin _ _ ys nx hj⟩
    · intro b hb
      show b < (s.heap.push _).objs.size
      rw [Heap.size_push, List.mem_singleton.mp hb]; exact Nat.lt_succ_self _
    · intro b hb; rw [List.mem_singleton.mp hb]; exact next_is_new F
    · intro hm; exact absurd F.ns.lt ((List.mem_singleton.mp hm) ▸ Nat.lt_irrefl _)
    · intro p hp hI; exact absurd (Heap.lt_size (N p hp).1) ((List.mem_singleton.mp hI) ▸ Nat.lt_irrefl _)
    · intro i C oC D m₂ h tk own ys nx E' hi hj hP hC F₁ N₁ hI ho hne
      obtain ⟨v, ⟨c, u, hv, rfl⟩, hm⟩ := hP
      exact turn _ i c u C oC D m₂ h tk own ys nx E' (by simpa using hv) hj hm hC F₁ N₁ ho (hI _ (.head _)) hne
  show wpAny _ _ _ _ _ _
  cases ha : tx.cps.all (· < 128)
  · exact wpAny_pyIter_wide ha (go "str_iterator" _ (Walks.strWide hh _ tx t) ⟨_, Heap.get?_push_size _ rfl, rfl, rfl⟩)
  · exact wpAny_pyIter_ascii ha (go "str_ascii_iterator" _ (Walks.strAscii hh _ tx t) ⟨_, Heap.get?_push_size _ rfl, rfl, rfl⟩)
end
end
end Mine
namespace Mine
section
open PySem.Calls
theorem ints_snoc {vs : List Value} {ns : List Int} {n : Int} {t : Tok} (h : IntsAre vs ns) : IntsAre (vs ++ [.int n t]) (ns ++ [n]) := h.append (.cons n t .nil)
theorem strs_snoc {vs : List Value} {ns : List Str} {n : Str} {t : Tok} (h : StrsAre vs ns) : StrsAre (vs ++ [.str n t]) (ns ++ [n]) := h.append' (.cons n t .nil)
theorem ints_step {α : Type} {f : α → Int} {vs : List Value} {xs : List α} {i : Nat} {a : α} {n : Int} {t : Tok} (ha : xs[i]? = some a) (h : IntsAre vs ((xs.take i).map f)) (e : f a = n) : IntsAre (vs ++ [.int n t]) ((xs.take (i + 1)).map f) := by
  rw [take_snoc ha, List.map_append, List.map_singleton, e]; exact ints_snoc h
theorem le_size {n k : Nat} (h : n ≤ k) (hk : k ≤ 16777216 := by decide) : n ≤ sizeLine := by rw [show sizeLine = 16777216 from rfl]; exact Nat.le_trans h hk
theorem ints_item : ∀ {vs : List Value} {ns : List Int}, IntsAre vs ns → ∀ {i : Nat} {v : Value}, vs[i]? = some v → ∃ n t, v = .int n t ∧ ns[i]? = some n
  | _, _, .nil, i, v, h => by simp at h
  | _, _, .cons n t r, 0, v, h => by simp at h; exact ⟨n, t, h.symm, by simp⟩
  | _, _, .cons n t r, i + 1, v, h => by simp at h; simpa using ints_item r h
theorem strs_item : ∀ {vs : List Value} {ns : List Str}, StrsAre vs ns → ∀ {i : Nat} {v : Value}, vs[i]? = some v → ∃ n t, v = .str n t ∧ ns[i]? = some n
  | _, _, .nil, i, v, h => by simp at h
  | _, _, .cons n t r, 0, v, h => by simp at h; exact ⟨n, t, h.symm, by simp⟩
  | _, _, .cons n t r, i + 1, v, h => by simp at h; simpa using strs_item r h
end
end Mine
namespace Mine
section
open PySem.Calls
open LCg
section
variable {prog : Program} {w : World} {A : Around} {E : Value → Shared → Prop} {s : Shared} {h₀ : Heap} {L : Addr} {m : Str → Option Value} {env : Env} {elt : Expr} {ifs : List Expr} {scope : Scope} {cl : List (Str × Addr)} {Fin : Shared → List Value → List (Addr × Obj) → Prop}
theorem src_listS {x : Str} {px : Pos} {ax : Addr} {vs : List Value} {news : List (Addr × Obj)} (J : List (Addr × Obj) → Nat → List Value → List (Addr × Obj) → Prop)
    (hh : A.handled = none) (F : Fr h₀ L s.heap m) (N : News h₀ L s.heap news) (hD : s.heap.IsList ax vs.toArray) (haL : ax ≠ L) (hsz : vs.length ≤ sizeLine)
    (hkind : scope.kind = .function) (hx : scope.names.lookup x = some .local) (hJ : J news 0 [] news)
    (turn : ∀ I i v C oC D m₂ h tk own ys nx (E' : Value → Shared → Prop), vs[i]? = some v → J news i ys nx → m₂ x = some v → NsObj oC m₂ → Fr h₀ L h m → News h₀ L h (own ++ ((C, oC) :: (D, lst ys) :: nx)) → (∀ p ∈ nx, p.1 ∉ [I] ∧ p.1 ≠ C ∧ p.1 ≠ D) → (∃ o, (I, o) ∈ own) → C ≠ D →
      wpAny (model prog w) A (testsOf ifs (compEnvC scope cl C env)) (fun ok s₃ =>
        if ok = true then wpAny (model prog w) A (eval elt (compEnvC scope cl C env)) (fun y s₄ => EltEnd h₀ L m own C D oC (lst ys) [I] (J news (i + 1) (ys ++ [y])) s s₄) E' s₃
        else EltEnd h₀ L m own C D oC (lst ys) [I] (J news (i + 1) ys) s s₃) E' { s with heap := h, toks := tk })
    (fin : ∀ g tk ys nx, J news vs.length ys nx → Fin { s with heap := g, toks := tk } ys nx) :
    CompAt prog w A h₀ L m env (.Name x px) elt ifs scope cl E Fin (.ref ax) s := src_list (J news) hh F N hD haL hsz hkind hx hJ turn fin
theorem src_strS {x : Str} {px : Pos} {tx : Str} {t : Tok} {news : List (Addr × Obj)} (J : List (Addr × Obj) → Nat → List Value → List (Addr × Obj) → Prop)
    (hh : A.handled = none) (F : Fr h₀ L s.heap m) (N : News h₀ L s.heap news) (hsz : tx.cps.size ≤ sizeLine)
    (hkind : scope.kind = .function) (hx : scope.names.lookup x = some .local) (hJ : J news 0 [] news)
    (turn : ∀ I i c u C oC D m₂ h tk own ys nx (E' : Value → Shared → Prop), tx.cps.toList[i]? = some c → J news i ys nx → m₂ x = some (.str ⟨#[c]⟩ u) → NsObj oC m₂ → Fr h₀ L h m → News h₀ L h (own ++ ((C, oC) :: (D, lst ys) :: nx)) → (∀ p ∈ nx, p.1 ∉ [I] ∧ p.1 ≠ C ∧ p.1 ≠ D) → (∃ o, (I, o) ∈ own) → C ≠ D →
      wpAny (model prog w) A (testsOf ifs (compEnvC scope cl C env)) (fun ok s₃ =>
        if ok = true then wpAny (model prog w) A (eval elt (compEnvC scope cl C env)) (fun y s₄ => EltEnd h₀ L m own C D oC (lst ys) [I] (J news (i + 1) (ys ++ [y])) s s₄) E' s₃
        else EltEnd h₀ L m own C D oC (lst ys) [I] (J news (i + 1) ys) s s₃) E' { s with heap := h, toks := tk })
    (fin : ∀ g tk ys nx, J news tx.cps.size ys nx → Fin { s with heap := g, toks := tk } ys nx) :
    CompAt prog w A h₀ L m env (.Name x px) elt ifs scope cl E Fin (.str tx t) s := src_str (J news) hh F N hsz hkind hx hJ turn fin
end
section
variable {prog : Program} {w : World} {A : Around} {E : Value → Shared → Prop} {s : Shared} {env : Env} {h₀ : Heap} {x : Str} {body : List Stmt} {Q : Flow → Shared → Prop}
end
end
end Mine
namespace Mine
section
open PySem.Calls
section
variable {prog : Program} {w : World} {A : Around} {E : Value → Shared → Prop} {s : Shared} {h₀ : Heap} {L l : Addr} {m : Str → Option Value} {news : List (Addr × Obj)} {value slice : PySem.Expr} {vs : List Value} {vl vu : Value} {lo hi : Option Int} {Q : Value → Shared → Prop}
end
end
end Mine
namespace Mine
section
open PySem.Calls
abbrev cpl (x : Str) : List Nat := x.cps.toList
theorem cpl_app (x y : Str) : cpl (x ++ y) = cpl x ++ cpl y := by simp [cpl, Str.cps_append]
theorem cpl_len (x : Str) : (cpl x).length = x.length := by simp [cpl, Str.length]
theorem cpl_inj {x y : Str} (h : cpl x = cpl y) : x = y := by
  cases x; cases y; simp [cpl] at h; rw [h]
theorem cpl_sl : cpl sl = [47] := by decide
theorem sl_eq : sl = ⟨#[47]⟩ := by decide
theorem starts_sl (b : Str) : Txt.startswith b sl = ((cpl b).head? == some 47) := by
  obtain ⟨⟨l⟩⟩ := b
  rw [sl_eq]
  cases l with
  | nil => decide
  | cons c r =>
    simp [Txt.startswith, Str.length, Builtin.Str.subAt, cpl]
theorem last_ext {α : Type} [DecidableEq α] : ∀ (l : List α) (a : α), 1 ≤ l.length → ((l.drop (l.length - 1)).take 1 == [a]) = (l.getLast? == some a)
  | [], a, h => by simp at h
  | [x], a, h => by simp
  | x :: y :: r, a, h => by
    have := last_ext (y :: r) a (by simp)
    simpa using this
theorem ends_sl (b : Str) : Txt.endswith b sl = ((cpl b).getLast? == some 47) := by
  obtain ⟨⟨l⟩⟩ := b
  rw [sl_eq]
  by_cases h : 1 ≤ l.length
  · have := last_ext l 47 h
    have h1 : l.length - (l.length - 1) = 1 := by omega
    rw [← this]
    simp [Txt.endswith, Str.length, Builtin.Str.subAt, cpl, h, h1]
  · have : l = [] := List.eq_nil_of_length_eq_zero (by omega)
    subst this; decide
theorem cpl_jstep (p b : Str) : cpl (jstep p b) = jL 47 (cpl p) (cpl b) := by
  have e : (p.length == 0) = (cpl p).isEmpty := by rw [← cpl_len]; cases cpl p <;> rfl
  unfold jstep jL
  rw [starts_sl, ends_sl, e]
  split
  · rfl
  · split
    · exact cpl_app _ _
    · rw [cpl_app, cpl_app, cpl_sl]; rfl
theorem jL_map {α β : Type} [DecidableEq α] [DecidableEq β] (f : α → β) (sep : α) (p b : List α) (inj : ∀ a ∈ p ++ b, f a = f sep → a = sep) : (jL sep p b).map f = jL (f sep) (p.map f) (b.map f) := by
  have e1 : ((b.map f).head? == some (f sep)) = (b.head? == some sep) := by
    cases b with
    | nil => rfl
    | cons a r =>
      simp only [List.map_cons, List.head?_cons]
      rw [Bool.eq_iff_iff]; simp only [beq_iff_eq, Option.some.injEq]
      exact ⟨inj a (by simp), fun h => by rw [h]⟩
  have e2 : ((p.map f).getLast? == some (f sep)) = (p.getLast? == some sep) := by
    rw [List.getLast?_map]
    cases h : p.getLast? with
    | none => rfl
    | some a =>
      rw [Bool.eq_iff_iff]; simp only [Option.map_some, beq_iff_eq, Option.some.injEq]
      exact ⟨inj a (List.mem_append_left _ (List.mem_of_getLast? h)), fun h => by rw [h]⟩
  have e3 : (p.map f).isEmpty = p.isEmpty := by cases p <;> rfl
  unfold jL
  rw [e1, e2, e3]
  split
  · rfl
  · split
    · simp
    · simp
end
end Mine
namespace Mine
section
open PySem.Calls
open LCg
section
variable {prog : Program} {w : World} {A : Around} {E : Value → Shared → Prop} {s : Shared} {h₀ : Heap} {L : Addr} {m : Str → Option Value} {env : Env} {elt : Expr} {ifs : List Expr} {scope : Scope} {cl : List (Str × Addr)} {Fin : Shared → List Value → List (Addr × Obj) → Prop}
theorem range_small {n : Nat} (h : n ≤ sizeLine) : Builtin.Range.small 0 (n : Int) 1 = true := by
  rw [sizeLine_eq] at h
  exact small_one (by decide) (by decide) (by omega) (by omega)
theorem range_len {n : Nat} : Builtin.Range.rangeSize 0 (n : Int) 1 = ((n : Nat) : Int) := by
  rw [rangeSize_one]; split <;> omega
theorem add_any {l b : Addr} {vs ws : List Value} {news : List (Addr × Obj)} {Q : Value → Shared → Prop} (F : Fr h₀ L s.heap m) (N : News h₀ L s.heap news) (hl : s.heap.IsList l vs.toArray) (hb : s.heap.IsList b ws.toArray)
    (hsz : vs.length + ws.length ≤ sizeLine)
    (h : ∀ D h', Fr h₀ L h' m → News h₀ L h' ((D, listOf (vs ++ ws).toArray 0) :: news) → (∀ p ∈ news, p.1 < D) → Q (.ref D) { s with heap := h' }) :
    wpAny (model prog w) A (binaryOp .Add (.ref l) (.ref b)) Q E s :=
  add_lists (hsz := hsz) F N hl hb fun h' F' N' => h _ h' F' N' fun p hp => Heap.lt_size (N p hp).1
theorem item_last {value slice : Expr} {l : Addr} {vs : List Value} {u : Tok} {v : Value} {Q : Value → Shared → Prop} (hl : s.heap.IsList l vs.toArray) (hx : vs[vs.length - 1]? = some v) (hz : vs.length ≤ sizeLine) (h : Q v s)
    (hs : subscripted slice false (.ref l) (.int (-1) u) = operate [.ref l, .int (-1) u] (getItem (.ref l) (.int (-1) u)) := by with_unfolding_all rfl) :
    wpAny (model prog w) A (subscriptTail value slice (.ref l) (.int (-1) u)) Q E s := by
  have h1 : 0 < vs.length := by
    rcases Nat.eq_zero_or_pos vs.length with q | q
    · rw [List.eq_nil_of_length_eq_zero q] at hx; cases hx
    · exact q
  exact kde_neg hl (by decide) (by decide) (seqIndex?_neg_one h1) hx h hs
end
end
end Mine
namespace Mine
section
open PySem.Calls
theorem kms_lo_le (v : Option Int) (n : Nat) : kms_lo v n ≤ n := by unfold kms_lo; split; exact Nat.zero_le _; split <;> omega
theorem kms_hi_le (v : Option Int) (n : Nat) : kms_hi v n ≤ n := by unfold kms_hi; split; exact Nat.le_refl _; split <;> omega
theorem range_key {a b : Int} {lo hi : Nat} (e1 : a = (lo : Int)) (e2 : b = (hi : Int)) : sliceRange a b 1 = (List.range (hi - lo)).map (lo + ·) := by
  have h1 : (1 : Int) > 0 := by decide
  subst e1 e2
  unfold sliceRange
  simp only [h1, if_true]
  have e3 : (if (lo : Int) < (hi : Int) then ((hi : Int) - (lo : Int) + 1 - 1) / 1 else 0).toNat = hi - lo := by
    split <;> simp <;> omega
  rw [e3]
  exact List.map_congr_left fun k _ => by omega
theorem indices_eq (l u : Option Int) (n : Nat) : Builtin.Str.strSliceIndices l u 1 n = (List.range (kms_hi u n - kms_lo l n)).map (kms_lo l n + ·) := by
  have h1 : (1 : Int) > 0 := by decide
  refine range_key ?_ ?_
  · cases l with
    | none => rfl
    | some i => simp only [kms_lo, h1, if_true]; by_cases h : i < 0 <;> simp only [h, if_true, if_false] <;> omega
  · cases u with
    | none => rfl
    | some i => simp only [kms_hi, h1, if_true]; by_cases h : i < 0 <;> simp only [h, if_true, if_false] <;> omega
theorem fm_range {α : Type} (l : List α) (lo : Nat) : ∀ k, lo + k ≤ l.length → (List.range k).filterMap (fun j => l[lo + j]?) = (l.drop lo).take k
  | 0, _ => by simp
  | k + 1, h => by
    rw [List.range_succ, List.filterMap_append, fm_range l lo k (by omega), List.take_add_one]
    congr 1
    have : lo + k < l.length := by omega
    simp [List.getElem?_drop, List.getElem?_eq_getElem this]
theorem cpl_slice (x : Str) (l u : Option Int) : cpl (Txt.slice x l u) = ((cpl x).drop (kms_lo l x.length)).take (kms_hi u x.length - kms_lo l x.length) := by
  have a1 := kms_lo_le l x.length
  have a2 := kms_hi_le u x.length
  have hx : x.length = (cpl x).length := (cpl_len x).symm
  unfold Txt.slice
  rw [indices_eq]
  by_cases h : ((1 : Int) == 1 && ((List.range (kms_hi u x.length - kms_lo l x.length)).map (kms_lo l x.length + ·)).length == x.length) = true
  · rw [if_pos h]
    simp only [List.length_map, List.length_range, Bool.and_eq_true, beq_iff_eq] at h
    have h2 := h.2
    by_cases h3 : kms_lo l x.length = 0
    · rw [h2, h3, List.drop_zero, List.take_of_length_le (by omega)]
    · have : x.length = 0 := by omega
      omega
  · rw [if_neg h]
    show ((List.filterMap _ _).toArray).toList = _
    rw [List.toList_toArray, List.filterMap_map]
    have := fm_range (cpl x) (kms_lo l x.length) (kms_hi u x.length - kms_lo l x.length)
    by_cases h4 : kms_lo l x.length ≤ kms_hi u x.length
    · rw [← this (by omega)]
      exact congrArg (fun f => List.filterMap f _) (funext fun j => by simp [cpl])
    · rw [Nat.sub_eq_zero_of_le (by omega)]; rfl
theorem str_beq (x y : Str) : (x == y) = (cpl x == cpl y) := by
  rw [Bool.eq_iff_iff, beq_iff_eq, beq_iff_eq]
  exact ⟨fun h => by rw [h], cpl_inj⟩
end
end Mine
namespace Mine
section
open PySem.Calls
section
variable {prog : Program} {w : World} {A : Around} {E : Value → Shared → Prop} {s : Shared}
abbrev OctAt (b : Array UInt8) (i : Nat) (v : Value) : Prop := ∃ c u, b[i]? = some c ∧ v = .int (c.toNat : Int) u
end
def octs (x : Array UInt8) : List Int := x.toList.map fun b => (b.toNat : Int)
section
variable {prog : Program} {w : World} {A : Around} {E : Value → Shared → Prop} {s : Shared} {h₀ : Heap} {L : Addr} {m : MapS} {news : List (Addr × Obj)}
theorem append_led {a : Addr} {ys : List Value} {k : Nat} {v : Value} {Q : Value → Shared → Prop} (F : Fr h₀ L s.heap m) (N : News h₀ L s.heap news) (hm : (a, ({ cls := .type "list", data := .seq ys.toArray k } : Obj)) ∈ news) (hsz : ys.length ≤ sizeLine)
    (h : ∀ h' k', Fr h₀ L h' m → h'.get? a = some { cls := .type "list", data := .seq (ys ++ [v]).toArray k' } → (∀ b o, b ≠ a → s.heap.get? b = some o → h'.get? b = some o) → Q .none { s with heap := h' }) :
    wpAny (model prog w) A (call (.builtin "list.append") [.ref a, v]) Q E s := by
  refine append_at (hsz := by rw [List.size_toArray]; exact hsz) (N _ hm).1 fun h' hs hD => ?_
  exact h h' (k + 1) (F.change hs (N _ hm).2.1 (N _ hm).2.2) (by rw [hD, List.push_toArray]) fun b o hb e => hs.extBut b o hb e
end
end
end Mine
namespace Mine
section
open PySem.Calls
abbrev lobj (us : List Value) (c : Nat) : Obj := { cls := .type "list", data := .seq us.toArray c }
def Row (nx : List (Addr × Obj)) (v : Value) (d : List Int) : Prop := ∃ b c us, v = .ref b ∧ (b, lobj us c) ∈ nx ∧ IntsAre us d
abbrev Rows (nx : List (Addr × Obj)) (vs : List Value) (ds : List (List Int)) : Prop := Al (Row nx) vs ds
theorem Al.mono {α : Type} {R R' : Value → α → Prop} {vs : List Value} {xs : List α} (r : Al R vs xs) (h : ∀ v x, v ∈ vs → R v x → R' v x) : Al R' vs xs :=
  ⟨r.1, fun i v hv => by obtain ⟨a, ha, hr⟩ := r.2 i v hv; exact ⟨a, ha, h v a (List.mem_of_getElem? hv) hr⟩⟩
theorem alnil {α : Type} {R : Value → α → Prop} : Al R [] ([] : List α) := ⟨rfl, fun i v h => by simp at h⟩
theorem alsnoc {α : Type} {R : Value → α → Prop} {v : Value} {x : α} {vs : List Value} {xs : List α} (r : Al R vs xs) (h : R v x) : Al R (vs ++ [v]) (xs ++ [x]) :=
  ⟨by simp [r.1], fun i u hu => by
    by_cases hi : i < vs.length
    · rw [List.getElem?_append_left hi] at hu
      obtain ⟨a, ha, hr⟩ := r.2 i u hu
      exact ⟨a, by rw [List.getElem?_append_left (by rw [← r.1]; exact hi)]; exact ha, hr⟩
    · rw [List.getElem?_append_right (by omega)] at hu
      rw [List.getElem?_append_right (by rw [← r.1]; omega), ← r.1]
      cases hj : i - vs.length with
      | zero => rw [hj] at hu; cases hu; exact ⟨x, rfl, h⟩
      | succ j => rw [hj] at hu; cases hu⟩
def pstep (p : List (List Int) × List Int) (c : Int) : List (List Int) × List Int := if c = 47 then (p.1 ++ [p.2], []) else (p.1, p.2 ++ [c])
def pfold (l : List Int) : List (List Int) × List Int := l.foldl pstep ([], [])
def pieces (l : List Int) : List (List Int) := (pfold l).1 ++ [(pfold l).2]
def PLoop (P : Addr) (nx : List (Addr × Obj)) (st : List (List Int) × List Int) : Prop :=
  ∃ vs a c1 zs c2 rest, nx = (P, lobj (vs ++ [.ref a]) c1) :: (a, lobj zs c2) :: rest ∧ Rows rest vs st.1 ∧ IntsAre zs st.2 ∧ (∀ p ∈ rest, p.1 ≠ P ∧ p.1 ≠ a) ∧ P ≠ a
section
variable {h₀ h h' : Heap} {L P : Addr} {m : MapS} {own : List (Addr × Obj)}
end
end
end Mine
namespace Mine
section
open PySem.Calls
section
variable {prog : Program} {w : World} {A : Around} {E : Value → Shared → Prop} {s : Shared} {env : Env} {h₀ : Heap} {x : Str} {body : List Stmt} {Q : Flow → Shared → Prop}
theorem for_walkO {I : Addr} {fp wr : List Addr} {n : Nat} {P : Nat → Value → Prop} {St : Nat → Heap → Prop} {m₀ : Str → Option Value} {news : List (Addr × Obj)} (J : Nat → (Str → Option Value) → List (Addr × Obj) → Prop)
    (W : Walks prog w A I fp wr n P St) (hLf : env.locals ∉ fp) (hwr : ∀ b ∈ wr, h₀.get? b = none) (hnw : ∀ p ∈ news, p.1 ∉ wr) (hob : ∀ i h, St i h → ∀ b ∈ wr, ∃ o, h.get? b = some o)
    (hst : St 0 s.heap) (F : Fr h₀ env.locals s.heap m₀) (N : News h₀ env.locals s.heap news) (hj : J 0 m₀ news)
    (turn : ∀ i v m₁ nx h tk own, i < n → P i v → (∀ b ∈ wr, ∃ o, (b, o) ∈ own) → (∀ b ∈ fp, h₀.get? b = none → (∀ i h, St i h → ∃ o, h.get? b = some o) → ∃ o, (b, o) ∈ own) → (∀ p ∈ own, p.1 ∈ fp) → (∀ p ∈ nx, p.1 ∉ wr) → J i m₁ nx → Fr h₀ env.locals h (fun y => if y = x then some v else m₁ y) → News h₀ env.locals h (own ++ nx) →
      wpAny (model prog w) A (execs body env) (TurnEnd h₀ env.locals wr own (J (i + 1)) s Q) E { s with heap := h, toks := tk })
    (done : ∀ m₁ nx h tk, J n m₁ nx → Fr h₀ env.locals h m₁ → News h₀ env.locals h nx → Q .next { s with heap := h, toks := tk }) :
    LoopAtV prog w A h₀ env x body Q E (.ref I) s := by
  refine ⟨I, fp, wr, n, P, St, m₀, news, J, rfl, W, hLf, hwr, hnw, hst, F, N, hj, ?_, ?_⟩
  · rintro i v m₁ nx s₁ own ⟨h, tk, rfl⟩ hi hP hJ hoff hown hget hall hst' F₁ N₁
    refine wpAny_mono (turn i v m₁ nx h tk own hi hP (fun b hb => ?_) (fun b hb h0 hs => by obtain ⟨o, ho⟩ := hs _ _ hst'; exact ⟨o, hall b hb h0 o ho⟩) hown hoff hJ F₁ N₁) (fun f s₂ q => ?_) fun _ _ e => e
    · obtain ⟨o, ho⟩ := hob _ _ hst' b hb
      exact ⟨o, hall b (W.sub b hb) (hwr b hb) o ho⟩
    · cases f with
      | ret v => exact .ret q
      | brk => exact .brk q
      | next => obtain ⟨h', tk', m', nx', rfl, F', N', ho, hJ'⟩ := q; exact .next ⟨rfl, h', tk', m', nx', rfl, F', N', ho, hJ'⟩
      | cont => obtain ⟨h', tk', m', nx', rfl, F', N', ho, hJ'⟩ := q; exact .cont ⟨rfl, h', tk', m', nx', rfl, F', N', ho, hJ'⟩
  · rintro h' tk m' nx F' N' _ hJ
    exact done m' nx h' tk hJ F' N'
end
end
end Mine
namespace Mine
section
open PySem.Calls
def Cut (nx : List (Addr × Obj)) (v : Value) (d : List (List Int)) : Prop := ∃ P c vs, v = .ref P ∧ (P, lobj vs c) ∈ nx ∧ Rows nx vs d
section
variable {h₀ h h' : Heap} {L : Addr} {m : MapS} {news nw : List (Addr × Obj)}
theorem news_new (F : Fr h₀ L h m) (N : News h₀ L h news) (k : Kp h h') (new : ∀ p ∈ nw, h'.get? p.1 = some p.2 ∧ h.get? p.1 = none) : News h₀ L h' (nw ++ news) := fun p hp => by
  rcases List.mem_append.mp hp with hp | hp
  · obtain ⟨e1, e2⟩ := new p hp
    refine ⟨e1, fun q => ?_, ?_⟩
    · obtain ⟨o, _, _, e, _⟩ := F.ns
      rw [q, e] at e2; cases e2
    · cases q : h₀.get? p.1 with
      | none => rfl
      | some o => rw [F.keep _ _ q] at e2; cases e2
  · exact ⟨k _ _ (N p hp).1, (N p hp).2⟩
end
section
variable {prog : Program} {w : World} {A : Around} {E : Value → Shared → Prop} {s : Shared}
end
theorem turn_news' {h₀ h : Heap} {L I : Addr} {nw own nx : List (Addr × Obj)} (N : News h₀ L h (nw ++ (own ++ nx))) (hnx : ∀ r ∈ nx, r.1 ∉ [I]) (hnw : ∀ p ∈ nw, p.1 ≠ I) :
    News h₀ L h (own ++ (nw ++ nx)) ∧ ∀ r ∈ nw ++ nx, r.1 ∉ [I] :=
  ⟨news_sub N fun p hp => by
    rcases List.mem_append.mp hp with hp | hp
    · exact List.mem_append_right _ (List.mem_append_left _ hp)
    · rcases List.mem_append.mp hp with hp | hp
      · exact List.mem_append_left _ hp
      · exact List.mem_append_right _ (List.mem_append_right _ hp), fun r hr => by
    rcases List.mem_append.mp hr with hr | hr
    · exact fun q => hnw r hr (List.mem_singleton.mp q)
    · exact hnx r hr⟩
theorem ne_none {h : Heap} {a b : Addr} {o : Obj} (e1 : h.get? a = none) (e2 : h.get? b = some o) : a ≠ b := fun q => by rw [q, e2] at e1; cases e1
end
end Mine
namespace Mine
section
open PySem.Calls
open LCg
section
variable {prog : Program} {w : World} {A : Around} {E : Value → Shared → Prop} {s : Shared} {env : Env} {h₀ : Heap} {x : Str} {body : List Stmt} {Q : Flow → Shared → Prop}
theorem for_rangeO {r : Addr} {a b : Int} {t u v : Tok} {n : Nat} {m₀ : Str → Option Value} {news : List (Addr × Obj)} (J : List (Addr × Obj) → (Str → Option Value) → Nat → (Str → Option Value) → List (Addr × Obj) → Prop)
    (hh : A.handled = none) (F : Fr h₀ env.locals s.heap m₀) (N : News h₀ env.locals s.heap news) (hr : IsRange s.heap r a b 1 t u v) (hsm : Builtin.Range.small a b 1 = true) (hn : Builtin.Range.rangeSize a b 1 = ((n : Nat) : Int)) (hj : J news m₀ 0 m₀ news)
    (turn : ∀ I i tv m₁ nx h tk own, i < n → (∃ o, (I, o) ∈ own) → (∀ p ∈ own, p.1 = I) → (∀ p ∈ nx, p.1 ∉ [I]) → J news m₀ i m₁ nx → Fr h₀ env.locals h (fun y => if y = x then some (.int (a + (i : Int)) tv) else m₁ y) → News h₀ env.locals h (own ++ nx) →
      wpAny (model prog w) A (execs body env) (TurnEnd h₀ env.locals [I] own (J news m₀ (i + 1)) s Q) E { s with heap := h, toks := tk })
    (done : ∀ m₁ nx h tk, J news m₀ n m₁ nx → Fr h₀ env.locals h m₁ → News h₀ env.locals h nx → Q .next { s with heap := h, toks := tk }) :
    wpAny (model prog w) A (pyIter (.ref r)) (fun it s₂ => LoopAtV prog w A h₀ env x body Q E it s₂) E s := by
  refine wpAny_pyIter_range hr hsm ?_
  refine for_walkO (J news m₀) (range_walks (prog := prog) (w := w) (I := s.heap.objs.size) hh a n) ?_ ?_ ?_ (fun i h hi b hb => by rw [List.mem_singleton.mp hb]; exact ⟨_, hi⟩) (by show IsRangeIter _ _ _ _ _; rw [hn]; simpa using Heap.get?_push_size _ rfl) (F.push _) (fun p hp => ⟨Heap.get?_push_of_some _ (N p hp).1, (N p hp).2⟩) hj ?_ ?_
  · intro hm; exact absurd F.ns.lt ((List.mem_singleton.mp hm) ▸ Nat.lt_irrefl _)
  · intro b hb; rw [List.mem_singleton.mp hb]; exact next_is_new F
  · intro p hp hI; exact absurd (Heap.lt_size (N p hp).1) ((List.mem_singleton.mp hI) ▸ Nat.lt_irrefl _)
  · intro i v m₁ nx h tk own hi hP hI hfo hown ho hJ F₁ N₁
    obtain ⟨tv, rfl⟩ := hP
    exact turn _ i tv m₁ nx h tk own hi (hI _ (.head _)) (fun p hp => by simpa using hown p hp) ho hJ F₁ N₁
  · exact fun m₁ nx h tk hJ F₁ N₁ => done m₁ nx h tk hJ F₁ N₁
theorem for_range1 {n : Nat} {t : Tok} {m₀ : Str → Option Value} {news : List (Addr × Obj)} (J : List (Addr × Obj) → (Str → Option Value) → Nat → (Str → Option Value) → List (Addr × Obj) → Prop)
    (hh : A.handled = none) (F : Fr h₀ env.locals s.heap m₀) (N : News h₀ env.locals s.heap news) (hz : n ≤ sizeLine) (hj : J news m₀ 0 m₀ news)
    (turn : ∀ I i tv m₁ nx h tk own, i < n → (∃ o, (I, o) ∈ own) → (∀ p ∈ own, p.1 = I) → (∀ p ∈ nx, p.1 ∉ [I]) → J news m₀ i m₁ nx → Fr h₀ env.locals h (fun y => if y = x then some (.int (i : Int) tv) else m₁ y) → News h₀ env.locals h (own ++ nx) →
      wpAny (model prog w) A (execs body env) (TurnEnd h₀ env.locals [I] own (J news m₀ (i + 1)) s Q) E { s with heap := h, toks := tk })
    (done : ∀ m₁ nx h tk, J news m₀ n m₁ nx → Fr h₀ env.locals h m₁ → News h₀ env.locals h nx → Q .next { s with heap := h, toks := tk }) :
    wpAny (model prog w) A (call (.type "range") [.int (n : Int) t]) (fun xv s₁ => wpAny (model prog w) A (pyIter xv) (fun it s₂ => LoopAtV prog w A h₀ env x body Q E it s₂) E s₁) E s := by
  refine range1_rows F N fun h' tk t₁ u₁ v₁ R F' N' _ => ?_
  refine for_rangeO (s := { s with heap := h', toks := tk }) J hh F' N' R (range_small hz) range_len hj ?_ ?_
  · intro I i tv m₁ nx h tk own hi hI hown ho hJ F₁ N₁
    exact turn I i tv m₁ nx h tk own hi hI hown ho hJ (by rw [Int.zero_add] at F₁; exact F₁) N₁
  · exact done
end
end
end Mine
namespace Mine
section
open PySem.Calls
open LCg
section
variable {prog : Program} {w : World} {A : Around} {E : Value → Shared → Prop} {s : Shared} {env : Env} {h₀ : Heap}
theorem forLoop_T {R : Result → Shared → Prop} {E₀ : Value → Shared → Prop} {Qn : Flow → Shared → Prop} {target : Expr} {body : List Stmt} {I : Addr} {fp wr : List Addr} {n : Nat} {P : Nat → Value → Prop} {St : Nat → Heap → Prop} {m : Str → Option Value}
    {news : List (Addr × Obj)} (J : Nat → (Str → Option Value) → List (Addr × Obj) → Prop) (W : Walks prog w A I fp wr n P St)
    (hLf : env.locals ∉ fp) (hwr : ∀ b ∈ wr, h₀.get? b = none) (hnw : ∀ p ∈ news, p.1 ∉ wr)
    (hst : St 0 s.heap) (F : Fr h₀ env.locals s.heap m) (N : News h₀ env.locals s.heap news) (hJ₀ : J 0 m news)
    (hgo : ∀ i v (s' : Shared) (Q' : Unit → Shared → Prop) (E' : Value → Shared → Prop), P i v → St (i + 1) s'.heap → Q' () s' → wpAny (model prog w) A (letOwnedTupleGo target (.ref I) v) Q' E' s')
    (turn : ∀ i v m₁ nx h tk own, i < n → P i v → (∀ p ∈ own, p.1 ∈ fp) → (∀ b ∈ wr, ∀ o, h.get? b = some o → (b, o) ∈ own) → St (i + 1) h → (∀ p ∈ nx, p.1 ∉ wr) → J i m₁ nx → Fr h₀ env.locals h m₁ → News h₀ env.locals h (own ++ nx) →
      wpAny (model prog w) A (assign target env v) (fun _ s₂ => wpAny (model prog w) A (execs body env) (TurnEnd h₀ env.locals wr own (J (i + 1)) s Qn) E₀ s₂) E₀ { s with heap := h, toks := tk })
    (hE : ∀ e s', E₀ e s' → notedBy (model prog w) A env (fun e s' => R (.error e) s') e s')
    (hQ : ∀ f s', Qn f s' → R (.ok f) s')
    (done : ∀ m₁ nx h tk, J n m₁ nx → Fr h₀ env.locals h m₁ → News h₀ env.locals h nx → R (.ok .next) { s with heap := h, toks := tk }) :
    codeAny (model prog w) A (.forLoop target (.ref I) body [] env) R s := by
  have hLw : env.locals ∉ wr := fun h => hLf (W.sub _ h)
  have old : ∀ b o, h₀.get? b = some o → b ∉ wr := fun b o e hb => by rw [hwr b hb] at e; cases e
  refine codeAny_forLoop_any
    (fun k s' => ∃ h' tk m' nx i, s' = { s with heap := h', toks := tk } ∧ St i h' ∧ Fr h₀ env.locals h' m' ∧ News h₀ env.locals h' nx ∧ (∀ p ∈ nx, p.1 ∉ wr) ∧ J i m' nx ∧ i ≤ n ∧ k = n + 1 - i) ?_ (n + 1)
    ⟨s.heap, s.toks, m, news, 0, rfl, hst, F, N, hnw, hJ₀, Nat.zero_le _, rfl⟩
  rintro k s' ⟨h', tk, m', nx, i, rfl, hst', F', N', off', hJ, hi, rfl⟩
  have next : ∀ h₁ : Heap, (∀ b o, b ∉ wr → h'.get? b = some o → h₁.get? b = some o) → Fr h₀ env.locals h₁ m' ∧ News h₀ env.locals h₁ nx := fun h₁ hk₁ =>
    ⟨⟨F'.ns.at' fun o e => hk₁ _ o hLw e, fun b o e => hk₁ b o (old b o e) (F'.keep b o e), F'.above⟩, fun p hp => ⟨hk₁ _ _ (off' p hp) (N' p hp).1, (N' p hp).2⟩⟩
  by_cases hlt : i < n
  · refine W.item i _ _ _ hlt hst' fun v h₁ tk₁ hP hst₁ hk₁ => ?_
    obtain ⟨F₁, N₁⟩ := next h₁ hk₁
    have hown : ∀ p ∈ ownOf h₀ h₁ fp, p.1 ∈ fp := fun p hp => (ownOf_out hp).1
    have N₂ : News h₀ env.locals h₁ (ownOf h₀ h₁ fp ++ nx) := fun p hp => by
      rcases List.mem_append.mp hp with hp | hp
      · obtain ⟨a, b, c⟩ := ownOf_out hp
        exact ⟨c, fun q => hLf (q ▸ a), b⟩
      · exact N₁ p hp
    dsimp only
    refine hgo i v _ _ _ hP hst₁ ?_
    refine wpAny_mono (turn i v m' nx h₁ tk₁ (ownOf h₀ h₁ fp) hlt hP hown (fun b hb o e => ownOf_in (W.sub b hb) (hwr b hb) e) hst₁ off' hJ F₁ N₂) (fun _ s₂ h₂ => wpAny_mono h₂ (fun f s₃ h₃ => ?_) hE) hE
    have step : (∃ h' tk m' nx', s₃ = { s with heap := h', toks := tk } ∧ Fr h₀ env.locals h' m' ∧ News h₀ env.locals h' (ownOf h₀ h₁ fp ++ nx') ∧ (∀ p ∈ nx', p.1 ∉ wr) ∧ J (i + 1) m' nx') →
        ∃ m, m < n + 1 - i ∧ ∃ h' tk m' nx i, s₃ = { s with heap := h', toks := tk } ∧ St i h' ∧ Fr h₀ env.locals h' m' ∧ News h₀ env.locals h' nx ∧ (∀ p ∈ nx, p.1 ∉ wr) ∧ J i m' nx ∧ i ≤ n ∧ m = n + 1 - i := by
      rintro ⟨g₃, tk₃, m₃, nx₃, e₃, F₃, N₃, off₃, hJ₃⟩
      refine ⟨n + 1 - (i + 1), by omega, g₃, tk₃, m₃, nx₃, i + 1, e₃, ?_, F₃, fun p hp => N₃ p (List.mem_append_right _ hp), off₃, hJ₃, hlt, rfl⟩
      refine W.frame _ _ _ hst₁ fun b hb o e => ?_
      cases hn : h₀.get? b with
      | some o₀ =>
        have : o₀ = o := by have := F₁.keep b o₀ hn; rw [e] at this; exact (Option.some.inj this).symm
        exact this ▸ F₃.keep b o₀ hn
      | none => exact (N₃ _ (List.mem_append_left _ (ownOf_in hb hn e))).1
    cases f with
    | ret v => exact hQ _ _ h₃
    | brk => exact hQ _ _ h₃
    | cont => exact step h₃
    | next => exact step h₃
  · obtain rfl : i = n := Nat.le_antisymm hi (Nat.not_lt.mp hlt)
    refine W.done _ _ _ hst' fun h₁ tk₁ hk₁ => wpAny_execs_nil ?_
    obtain ⟨F₁, N₁⟩ := next h₁ hk₁
    exact done _ _ _ _ hJ F₁ N₁
def LoopT (prog : Program) (w : World) (A : Around) (env : Env) (target : Expr) (body : List Stmt) (Q : Flow → Shared → Prop) (E : Value → Shared → Prop) (xv : Value) (s₁ : Shared) : Prop :=
  wpAny (model prog w) A (pyIter xv) (fun it s₂ => codeAny (model prog w) A (.forLoop target it body [] env) (fun r s' => match r with | .ok f => Q f s' | .error e => cameBackBy (model prog w) A env E e s') s₂) E s₁
theorem For_T {target iter : Expr} {body : List Stmt} {pos : Pos} {Q : Flow → Shared → Prop} (h : wpAny (model prog w) A (eval iter env) (LoopT prog w A env target body Q E) E s)
    (hs : ∀ x, foldedSetIterable iter env x = pure x := by intro _; rfl) : wpAny (model prog w) A (exec (.For target iter body [] pos) env) Q E s := wpAny_For h hs
theorem TurnEnd.own2 {L I ax : Addr} {oI oax : Obj} {own : List (Addr × Obj)} {J : (Str → Option Value) → List (Addr × Obj) → Prop} {Q : Flow → Shared → Prop} {f : Flow} {s₂ : Shared} (hown : ∀ p ∈ own, p = (I, oI) ∨ p = (ax, oax)) (hax : ∀ m nx, J m nx → (ax, oax) ∈ nx)
    (h : TurnEnd h₀ L [I] [(I, oI)] J s Q f s₂) : TurnEnd h₀ L [I] own J s Q f s₂ := by
  have key : (∃ h' tk m' nx, s₂ = { s with heap := h', toks := tk } ∧ Fr h₀ L h' m' ∧ News h₀ L h' ([(I, oI)] ++ nx) ∧ (∀ p ∈ nx, p.1 ∉ [I]) ∧ J m' nx) →
      ∃ h' tk m' nx, s₂ = { s with heap := h', toks := tk } ∧ Fr h₀ L h' m' ∧ News h₀ L h' (own ++ nx) ∧ (∀ p ∈ nx, p.1 ∉ [I]) ∧ J m' nx := by
    rintro ⟨h', tk, m', nx, e, F, N, off, hJ⟩
    refine ⟨h', tk, m', nx, e, F, fun p hp => ?_, off, hJ⟩
    rcases List.mem_append.mp hp with hp | hp
    · rcases hown p hp with e | e
      · rw [e]; exact N _ (.head _)
      · rw [e]; exact N _ (.tail _ (hax _ _ hJ))
    · exact N _ (.tail _ hp)
  cases f with
  | ret v => exact h
  | brk => exact h
  | cont => exact key h
  | next => exact key h
theorem listU {elts : List Expr} {kk : Nat} {tp : Pos} {body : List Stmt} {Q : Flow → Shared → Prop} {ax : Addr} {oax : Obj} {vs : List Value} {m₀ : Str → Option Value} {news : List (Addr × Obj)} (J : List (Addr × Obj) → (Str → Option Value) → Nat → (Str → Option Value) → List (Addr × Obj) → Prop)
    (hh : A.handled = none) (F : Fr h₀ env.locals s.heap m₀) (N : News h₀ env.locals s.heap news) (hm : (ax, oax) ∈ news) (hD : s.heap.IsList ax vs.toArray) (hj : J news m₀ 0 m₀ news) (hax : ∀ i m nx, J news m₀ i m nx → (ax, oax) ∈ nx) (href : ∀ v ∈ vs, ∃ T, v = .ref T)
    (turn : ∀ I oI i v m₁ nx h tk, vs[i]? = some v → (∀ p ∈ nx, p.1 ≠ I) → J news m₀ i m₁ nx → Fr h₀ env.locals h m₁ → News h₀ env.locals h ((I, oI) :: nx) →
      wpAny (model prog w) A (assign (.Tuple elts kk tp) env v) (fun _ s₂ => wpAny (model prog w) A (execs body env) (TurnEnd h₀ env.locals [I] [(I, oI)] (J news m₀ (i + 1)) s Q) E s₂) E { s with heap := h, toks := tk })
    (done : ∀ m₁ nx h tk, J news m₀ vs.length m₁ nx → Fr h₀ env.locals h m₁ → News h₀ env.locals h nx → Q .next { s with heap := h, toks := tk })
    (hE : PassesOwn (model prog w) A env E := by passes_own) :
    LoopT prog w A env (.Tuple elts kk tp) body Q E (.ref ax) s := by
  have hL : ax ≠ env.locals := (N _ hm).2.1
  obtain ⟨oD, hoD, hr⟩ := id hD
  have hne : ax ≠ s.heap.objs.size := lt_ne_size hoD
  refine wpAny_pyIter_list hD ?_
  have W := Walks.list (prog := prog) (w := w) hh s.heap.objs.size ax hne vs.toArray
  have hlen : vs.toArray.size = vs.length := by simp
  rw [hlen] at W
  refine forLoop_T (E₀ := E) (Qn := Q) (J news m₀) W ?_ ?_ ?_ ⟨⟨_, Heap.get?_push_size _ rfl, rfl, rfl⟩, ⟨oD, Heap.get?_push_of_some _ hoD, hr⟩⟩ (F.push _) (fun p hp => ⟨Heap.get?_push_of_some _ (N p hp).1, (N p hp).2⟩) hj ?_ ?_ ?_ (fun f s' q => q) ?_
  · intro hm'
    rcases List.mem_cons.mp hm' with e | hm'
    · exact absurd F.ns.lt (e ▸ Nat.lt_irrefl _)
    · exact hL (List.mem_singleton.mp hm').symm
  · intro b hb; rw [List.mem_singleton.mp hb]; exact next_is_new F
  · intro p hp hI; exact absurd (Heap.lt_size (N p hp).1) ((List.mem_singleton.mp hI) ▸ Nat.lt_irrefl _)
  · intro i v s' Q' E' hP hst q
    have hv : vs[i]? = some v := by simpa using hP
    obtain ⟨T, rfl⟩ := href v (List.mem_of_getElem? hv)
    exact wpAny_letOwnedTupleGo_listiter hst.1 q
  · intro i v m₁ nx h tk own hi hP hown hwr hst off hJ F₁ N₁
    obtain ⟨⟨oI, hoI, _⟩, _⟩ := hst
    have hIm := hwr _ (.head _) _ hoI
    refine wpAny_mono (turn _ oI i v m₁ nx h tk (by simpa using hP) (fun p hp q => off p hp (List.mem_singleton.mpr q)) hJ F₁ fun p hp => ?_) (fun _ s₂ h₂ => wpAny_mono h₂ (fun f s₃ h₃ => TurnEnd.own2 (oax := oax) (fun p hp => ?_) (hax _) h₃) fun _ _ e => e) fun _ _ e => e
    · rcases List.mem_cons.mp hp with rfl | hp
      · exact N₁ _ (List.mem_append_left _ hIm)
      · exact N₁ _ (List.mem_append_right _ hp)
    · have e1 := (N₁ _ (List.mem_append_left _ hp)).1
      obtain ⟨a, o⟩ := p
      dsimp only at e1
      rcases List.mem_cons.mp (hown _ hp) with e | e
      · dsimp only at e; subst e
        rw [hoI] at e1
        have e3 : oI = o := Option.some.inj e1
        rw [e3]; exact .inl rfl
      · have e := List.mem_singleton.mp e
        dsimp only at e; subst e
        rw [(N₁ _ (List.mem_append_right _ (hax _ _ _ hJ))).1] at e1
        have e3 : oax = o := Option.some.inj e1
        rw [e3]; exact .inr rfl
  · exact hE
  · exact fun m₁ nx h tk hJ F₁ N₁ => done m₁ nx h tk hJ F₁ N₁
end
end
end Mine
namespace Mine
section
open PySem.Calls
def lix {α : Type} [DecidableEq α] (c : α) (l : List α) : Nat := (l.reverse.dropWhile (fun a => decide (a ≠ c))).length
section
variable {α : Type} [DecidableEq α]
theorem lix_snoc (c a : α) (l : List α) : lix c (l ++ [a]) = if a = c then l.length + 1 else lix c l := by
  unfold lix
  rw [List.reverse_append, List.reverse_singleton, List.singleton_append, List.dropWhile_cons]
  by_cases h : a = c <;> simp [h]
omit [DecidableEq α] in
theorem snoc_ind {P : List α → Prop} (h0 : P []) (h1 : ∀ l a, P l → P (l ++ [a])) (l : List α) : P l := by
  have : ∀ m : List α, P m.reverse := fun m => by
    induction m with
    | nil => exact h0
    | cons a m ih => rw [List.reverse_cons]; exact h1 _ _ ih
  have := this l.reverse
  rwa [List.reverse_reverse] at this
theorem lix_le (c : α) (l : List α) : lix c l ≤ l.length := by
  induction l using snoc_ind with
  | h0 => exact Nat.le_refl _
  | h1 l a ih => rw [lix_snoc, List.length_append, List.length_singleton]; split <;> omega
theorem lix_spec (c : α) (l : List α) : (lix c l = 0 ∧ c ∉ l) ∨ ∃ i, lix c l = i + 1 ∧ l[i]? = some c ∧ ∀ k, i < k → l[k]? ≠ some c := by
  induction l using snoc_ind with
  | h0 => exact .inl ⟨rfl, by simp⟩
  | h1 l a ih =>
    rw [lix_snoc]
    by_cases h : a = c
    · rw [if_pos h]
      refine .inr ⟨l.length, rfl, by simp [h], fun k hk => ?_⟩
      rw [List.getElem?_eq_none (by simp; omega)]; simp
    · rw [if_neg h]
      rcases ih with ⟨h1, h2⟩ | ⟨i, h1, h2, h3⟩
      · exact .inl ⟨h1, by simp [h2, Ne.symm h]⟩
      · have hi := (List.getElem?_eq_some_iff.mp h2).1
        refine .inr ⟨i, h1, by rw [List.getElem?_append_left hi]; exact h2, fun k hk => ?_⟩
        by_cases hk2 : k < l.length
        · rw [List.getElem?_append_left hk2]; exact h3 k hk
        · rw [List.getElem?_append_right (by omega)]
          cases hj : k - l.length with
          | zero => simpa using h
          | succ j => simp
theorem lix_uniq {c : α} {l : List α} {n : Nat} (h : (n = 0 ∧ c ∉ l) ∨ ∃ i, n = i + 1 ∧ l[i]? = some c ∧ ∀ k, i < k → l[k]? ≠ some c) : n = lix c l := by
  rcases lix_spec c l with ⟨h1, h2⟩ | ⟨i, h1, h2, h3⟩
  · rcases h with ⟨g1, g2⟩ | ⟨j, g1, g2, g3⟩
    · omega
    · exact absurd (List.mem_of_getElem? g2) h2
  · rcases h with ⟨g1, g2⟩ | ⟨j, g1, g2, g3⟩
    · exact absurd (List.mem_of_getElem? h2) g2
    · rcases Nat.lt_trichotomy i j with q | q | q
      · exact absurd g2 (h3 j q)
      · omega
      · exact absurd h2 (g3 i q)
def rstripL (c : α) (l : List α) : List α := (l.reverse.dropWhile (fun a => decide (a = c))).reverse
theorem rstrip_snoc (c a : α) (l : List α) : rstripL c (l ++ [a]) = if a = c then rstripL c l else l ++ [a] := by
  unfold rstripL
  rw [List.reverse_append, List.reverse_singleton, List.singleton_append, List.dropWhile_cons]
  by_cases h : a = c <;> simp [h]
theorem rstrip_spec (c : α) (l : List α) : ∃ m, l = rstripL c l ++ List.replicate m c ∧ (rstripL c l).getLast? ≠ some c := by
  induction l using snoc_ind with
  | h0 => exact ⟨0, rfl, by simp [rstripL]⟩
  | h1 l a ih =>
    rw [rstrip_snoc]
    by_cases h : a = c
    · rw [if_pos h]
      obtain ⟨m, h1, h2⟩ := ih
      refine ⟨m + 1, ?_, h2⟩
      rw [List.replicate_succ', ← List.append_assoc, ← h1, h]
    · rw [if_neg h]
      exact ⟨0, by simp, by simpa using h⟩
def spl (c : α) : List α → List (List α)
  | [] => [[]]
  | a :: l => if a = c then [] :: spl c l else match spl c l with
    | [] => [[a]]
    | p :: r => (a :: p) :: r
theorem spl_ne (c : α) (l : List α) : spl c l ≠ [] := by
  cases l with
  | nil => simp [spl]
  | cons a l =>
    unfold spl
    split
    · simp
    · split <;> simp
def ijoin (c : α) : List (List α) → List α
  | [] => []
  | [p] => p
  | p :: q :: r => p ++ c :: ijoin c (q :: r)
theorem spl_app (c : α) (p l : List α) (h : c ∉ p) : spl c (p ++ c :: l) = p :: spl c l := by
  induction p with
  | nil => simp [spl]
  | cons a p ih =>
    have ha : a ≠ c := fun q => h (q ▸ .head _)
    rw [List.cons_append, spl, if_neg ha, ih fun q => h (.tail _ q)]
theorem spl_free (c : α) (p : List α) (h : c ∉ p) : spl c p = [p] := by
  induction p with
  | nil => rfl
  | cons a p ih =>
    have ha : a ≠ c := fun q => h (q ▸ .head _)
    rw [spl, if_neg ha, ih fun q => h (.tail _ q)]
theorem spl_ijoin (c : α) : ∀ ps : List (List α), ps ≠ [] → (∀ p ∈ ps, c ∉ p) → spl c (ijoin c ps) = ps
  | [], h, _ => absurd rfl h
  | [p], _, h => spl_free c p (h p (.head _))
  | p :: q :: r, _, h => by
    rw [ijoin, spl_app c p _ (h p (.head _)), spl_ijoin c (q :: r) (by simp) fun x hx => h x (.tail _ hx)]
theorem spl_split (c : α) (u v : List α) : spl c (u ++ c :: v) = spl c u ++ spl c v := by
  induction u with
  | nil => simp [spl]
  | cons a u ih =>
    rw [List.cons_append, spl, spl, ih]
    by_cases ha : a = c
    · simp [ha]
    · rw [if_neg ha, if_neg ha]
      cases hu : spl c u with
      | nil => exact absurd hu (spl_ne c u)
      | cons p r => rfl
end
abbrev ch (c : Nat) : Str := ⟨#[c]⟩
theorem sub_ch (x : Str) (c i : Nat) : PySem.Builtin.Str.subAt x (ch c) i = ((cpl x)[i]? == some c) := by
  obtain ⟨⟨l⟩⟩ := x
  simp only [PySem.Builtin.Str.subAt, Str.length, cpl]
  have e : (#[c] : Array Nat).size = 1 := rfl
  rw [Bool.eq_iff_iff, beq_iff_eq, beq_iff_eq]
  simp only [List.extract_toArray, List.size_toArray, List.length_singleton]
  constructor
  · intro h
    have h := congrArg Array.toList h
    have h := congrArg List.head? h
    rw [List.extract] at h
    simp only [Nat.add_sub_cancel_left, List.head?_take, List.head?_drop] at h
    simpa using h
  · intro h
    simp [List.extract]
    have hi := (List.getElem?_eq_some_iff.mp h)
    obtain ⟨h1, h2⟩ := hi
    rw [List.drop_eq_getElem_cons h1, h2]; simp
theorem at_ch (x : Str) (c i : Nat) : StrLaws.At x (ch c) x.length i ↔ (cpl x)[i]? = some c := by
  unfold StrLaws.At
  rw [sub_ch, beq_iff_eq]
  constructor
  · exact fun h => h.2
  · intro h
    have := (List.getElem?_eq_some_iff.mp h).1
    rw [cpl_len] at this
    exact ⟨by show i + 1 ≤ _; omega, h⟩
theorem rfind_ch (x : Str) (c : Nat) : Txt.rfind x (ch c) = (lix c (cpl x) : Int) - 1 := by
  rcases rfind_whole x (ch c) with ⟨h, hn⟩ | ⟨i, h, hi, hn⟩
  · have : 0 = lix c (cpl x) := lix_uniq (.inl ⟨rfl, fun hm => by
      obtain ⟨i, hi⟩ := List.getElem?_of_mem hm
      exact hn i ((at_ch x c i).mpr hi)⟩)
    rw [h, ← this]; rfl
  · have : i + 1 = lix c (cpl x) := lix_uniq (.inr ⟨i, rfl, (at_ch x c i).mp hi, fun k hk e => hn k hk ((at_ch x c k).mpr e)⟩)
    rw [h, ← this]; omega
theorem cpl_take (x : Str) (n : Nat) : cpl (Txt.slice x none (some (n : Int))) = (cpl x).take n := by
  rw [cpl_slice]
  simp only [kms_lo, kms_hi, List.drop_zero, Nat.sub_zero, show ¬ ((n : Int) < 0) by omega, if_false]
  rw [← cpl_len, List.take_eq_take_iff]
  simp
theorem cpl_drop (x : Str) (n : Nat) : cpl (Txt.slice x (some (n : Int)) none) = (cpl x).drop n := by
  rw [cpl_slice]
  simp only [kms_lo, kms_hi, show ¬ ((n : Int) < 0) by omega, if_false]
  rw [← cpl_len, List.take_of_length_le (by simp)]
  by_cases h : n ≤ (cpl x).length
  · rw [Int.toNat_natCast, Nat.min_eq_left h]
  · rw [Int.toNat_natCast, Nat.min_eq_right (by omega), List.drop_of_length_le (Nat.le_refl _), List.drop_of_length_le (by omega)]
theorem foldl_rep (c : Nat) : ∀ (n : Nat) (acc : Array Nat), ((List.replicate n (#[c] : Array Nat)).foldl (· ++ ·) acc).toList = acc.toList ++ List.replicate n c
  | 0, acc => by simp
  | n + 1, acc => by
    rw [List.replicate_succ, List.foldl_cons, foldl_rep c n]; simp [List.replicate_succ]
theorem cpl_mul (c n : Nat) : cpl (Txt.mul (ch c) (n : Int)) = List.replicate n c := by
  unfold Txt.mul
  cases n with
  | zero => rfl
  | succ n =>
    rw [if_neg (by omega)]
    cases n with
    | zero => rfl
    | succ n =>
      rw [if_neg (by
        have : ((ch c).length == 0) = false := rfl
        rw [this, Bool.or_false, beq_iff_eq]; omega)]
      refine (foldl_rep c _ _).trans ?_
      rw [Int.toNat_natCast]; simp
theorem drop_rev_take {α : Type} (l : List α) (p : α → Bool) : l.take (l.length - (l.reverse.takeWhile p).length) = (l.reverse.dropWhile p).reverse := by
  have h := List.takeWhile_append_dropWhile (p := p) (l := l.reverse)
  have h2 := congrArg List.reverse h
  rw [List.reverse_append, List.reverse_reverse] at h2
  have h4 : (l.reverse.takeWhile p).length = (l.reverse.takeWhile p).reverse.length := (List.length_reverse).symm
  rw [h4]
  generalize (l.reverse.dropWhile p).reverse = a at *
  generalize (l.reverse.takeWhile p).reverse = b at *
  rw [← h2, List.length_append, Nat.add_sub_cancel, List.take_left']
  rfl
theorem drop_tw {α : Type} (l : List α) (p : α → Bool) : l.drop (l.takeWhile p).length = l.dropWhile p := by
  have h := List.takeWhile_append_dropWhile (p := p) (l := l)
  generalize l.takeWhile p = a at *
  generalize l.dropWhile p = b at *
  rw [← h, List.drop_left' rfl]
theorem strip_contains (c : Nat) : (fun a => (#[c] : Array Nat).contains a) = fun a => decide (a = c) := by
  funext a
  rw [Bool.eq_iff_iff]
  simp
theorem cpl_rstrip (x : Str) (c : Nat) : cpl (Txt.rstripChars x (ch c)) = rstripL c (cpl x) := by
  have e : cpl (PySem.stripped (ch c).cps.contains false true x) = rstripL c (cpl x) := by
    obtain ⟨⟨l⟩⟩ := x
    have h0 := strip_contains c
    simp only [PySem.stripped, PySem.stripLo, PySem.stripHi, PySem.Builtin.Str.strSub, Str.length, cpl, rstripL]
    simp only [Bool.false_eq_true, if_false, if_true, List.drop_zero]
    have h0 : (#[c] : Array Nat).contains = fun a => decide (a = c) := h0
    rw [h0]
    simp only [List.extract_toArray, List.size_toArray]
    rw [← drop_rev_take]
    simp [List.extract]
  unfold Txt.rstripChars Txt.stripBy
  split
  · rename_i h
    rw [← e]
    unfold PySem.stripSame at h
    simp only [Bool.and_eq_true, beq_iff_eq] at h
    unfold PySem.stripped
    rw [h.2, h.1]
    simp [PySem.Builtin.Str.strSub, Str.length, cpl]
  · exact e
theorem cpl_lstrip (x : Str) (c : Nat) : cpl (Txt.lstripChars x (ch c)) = (cpl x).dropWhile (fun a => decide (a = c)) := by
  have e : cpl (PySem.stripped (ch c).cps.contains true false x) = (cpl x).dropWhile (fun a => decide (a = c)) := by
    obtain ⟨⟨l⟩⟩ := x
    have h0 := strip_contains c
    simp only [PySem.stripped, PySem.stripLo, PySem.stripHi, PySem.Builtin.Str.strSub, Str.length, cpl]
    simp only [Bool.false_eq_true, if_false, if_true]
    have h0 : (#[c] : Array Nat).contains = fun a => decide (a = c) := h0
    rw [h0]
    rw [← drop_tw]
    simp only [List.extract_toArray, List.size_toArray, List.extract]
    rw [List.take_of_length_le (by simp)]
  unfold Txt.lstripChars Txt.stripBy
  split
  · rename_i h
    rw [← e]
    unfold PySem.stripSame at h
    simp only [Bool.and_eq_true, beq_iff_eq] at h
    unfold PySem.stripped
    rw [h.2, h.1]
    simp [PySem.Builtin.Str.strSub, Str.length, cpl]
  · exact e
theorem cpl_join (c : Nat) : ∀ ps : List Str, cpl (Str.join (ch c) ps) = ijoin c (ps.map cpl)
  | [] => rfl
  | [p] => rfl
  | p :: q :: r => by
    show cpl (p ++ ch c ++ Str.join (ch c) (q :: r)) = cpl p ++ c :: ijoin c (cpl q :: r.map cpl)
    rw [cpl_app, cpl_app, cpl_join c (q :: r), List.append_assoc]
    rfl
theorem cpl_split (x : Str) (c : Nat) : (Txt.split x (ch c)).map cpl = spl c (cpl x) := by
  have h1 := StrLaws.join_split x (ch c)
  have h2 := StrLaws.split_free x c
  have h3 : (Txt.split x (ch c)).map cpl ≠ [] := by
    intro q
    have : Txt.split x (ch c) = [] := by simpa using q
    unfold Txt.split at this
    split at this
    · cases this
    · split at this
      · cases this
      · rw [StrLaws.partsBetween_eq] at this
        obtain ⟨p, r, e⟩ := StrLaws.partsFrom_ne x (ch c).length 0 (PySem.Builtin.Str.occurrences x (ch c) 0 x.length (x.length + 1))
        rw [e] at this; cases this
  rw [← spl_ijoin c _ h3 (fun p hp => ?_), ← cpl_join, h1]
  obtain ⟨q, hq, rfl⟩ := List.mem_map.mp hp
  exact h2 q hq
theorem spl_len {α : Type} [DecidableEq α] (c : α) : ∀ l : List α, (spl c l).length ≤ l.length + 1
  | [] => Nat.le_refl _
  | a :: l => by
    have ih := spl_len c l
    unfold spl
    split
    · simp only [List.length_cons]; omega
    · cases hs : spl c l with
      | nil => simp
      | cons p r => rw [hs] at ih; simp only [List.length_cons] at ih ⊢; omega
theorem dw_len {α : Type} (p : α → Bool) : ∀ l : List α, (l.dropWhile p).length ≤ l.length
  | [] => Nat.le_refl _
  | a :: l => by
    rw [List.dropWhile_cons]
    split
    · have := dw_len p l; simp only [List.length_cons]; omega
    · exact Nat.le_refl _
end
end Mine
namespace Mine
section
open PySem.Calls
def headF (l : List Nat) : List Nat := if l.take (lix 47 l) ≠ [] ∧ l.take (lix 47 l) ≠ List.replicate (l.take (lix 47 l)).length 47 then rstripL 47 (l.take (lix 47 l)) else l.take (lix 47 l)
def tailF (l : List Nat) : List Nat := l.drop (lix 47 l)
def stepF (st : List Nat × List (List Nat)) : List Nat × List (List Nat) := if headF st.1 ≠ st.1 then (headF st.1, tailF st.1 :: st.2) else st
def itF (st : List Nat × List (List Nat)) : Nat → List Nat × List (List Nat)
  | 0 => st
  | n + 1 => stepF (itF st n)
theorem itF_in (st : List Nat × List (List Nat)) (n : Nat) : itF st (n + 1) = itF (stepF st) n := by
  induction n with
  | zero => rfl
  | succ n ih => rw [itF, ih]; rfl
def frontF (l : List Nat) : List Nat := l.takeWhile (fun a => decide (a = 47))
def namF (l : List Nat) : List (List Nat) := (spl 47 l).filter fun p => decide (p ≠ [])
def namesF (l : List Nat) : List (List Nat) := if namF l ≠ [] ∧ l.getLast? = some 47 then namF l ++ [[]] else namF l
theorem nam_split (u v : List Nat) : namF (u ++ 47 :: v) = namF u ++ namF v := by
  unfold namF; rw [spl_split, List.filter_append]
theorem nam_nil : namF [] = [] := by simp [namF, spl]
theorem nam_slashes (m : Nat) (v : List Nat) : namF (List.replicate m 47 ++ v) = namF v := by
  induction m with
  | zero => rfl
  | succ m ih =>
    have e := nam_split [] (List.replicate m 47 ++ v)
    rw [nam_nil, List.nil_append, List.nil_append, ih] at e
    exact e
theorem nam_after (u v : List Nat) (m : Nat) : namF (u ++ List.replicate (m + 1) 47 ++ v) = namF u ++ namF v := by
  rw [List.replicate_succ, List.append_assoc, List.cons_append, nam_split, nam_slashes]
theorem nam_free {v : List Nat} (h : 47 ∉ v) (h2 : v ≠ []) : namF v = [v] := by
  unfold namF; rw [spl_free 47 v h]; simp [h2]
theorem nam_rep (m : Nat) : namF (List.replicate m 47) = [] := by
  have := nam_slashes m []
  rw [List.append_nil, nam_nil] at this; exact this
theorem lix_app {u v : List Nat} (h : 47 ∉ v) : lix 47 (u ++ 47 :: v) = u.length + 1 := by
  refine (lix_uniq (.inr ⟨u.length, rfl, by simp, fun k hk => ?_⟩)).symm
  rw [List.getElem?_append_right (by omega)]
  obtain ⟨j, hj⟩ : ∃ j, k - u.length = j + 1 := ⟨k - u.length - 1, by omega⟩
  rw [hj, List.getElem?_cons_succ]
  exact fun q => h (List.mem_of_getElem? q)
theorem lix_zero {α : Type} [DecidableEq α] {c : α} {v : List α} (h : c ∉ v) : lix c v = 0 := (lix_uniq (.inl ⟨rfl, h⟩)).symm
theorem slash_cases (l : List Nat) : 47 ∉ l ∨ ∃ u v, l = u ++ 47 :: v ∧ 47 ∉ v := by
  induction l using snoc_ind with
  | h0 => exact .inl (by simp)
  | h1 l a ih =>
    by_cases h : a = 47
    · exact .inr ⟨l, [], by rw [h], by simp⟩
    · rcases ih with ih | ⟨u, v, rfl, hv⟩
      · exact .inl (by simp [ih, Ne.symm h])
      · exact .inr ⟨u, v ++ [a], by simp, by simp [hv, Ne.symm h]⟩
theorem front_rep {m : Nat} {v : List Nat} (h : v.head? ≠ some 47) : frontF (List.replicate m 47 ++ v) = List.replicate m 47 := by
  induction m with
  | zero =>
    cases v with
    | nil => rfl
    | cons a r => simp at h; simp [frontF, h]
  | succ m ih => 
    unfold frontF at ih ⊢
    rw [List.replicate_succ, List.cons_append, List.takeWhile_cons, if_pos (by simp), ih]
theorem head_free {v : List Nat} (h : 47 ∉ v) : v.head? ≠ some 47 := fun q => h (List.mem_of_mem_head? q)
theorem front_app {u v : List Nat} (h : frontF u ≠ u) : frontF (u ++ v) = frontF u := by
  induction u with
  | nil => simp [frontF] at h
  | cons a r ih =>
    unfold frontF at ih h ⊢
    rw [List.cons_append, List.takeWhile_cons, List.takeWhile_cons] at *
    by_cases ha : a = 47
    · rw [if_pos (by simp [ha])] at h
      rw [if_pos (by simp [ha]), if_pos (by simp [ha]), ih fun q => h (by rw [q])]
    · rw [if_neg (by simp [ha]), if_neg (by simp [ha])]
theorem mem_tw : ∀ (u : List Nat) {b : Nat}, b ∈ frontF u → b = 47
  | [], b, h => by simp [frontF] at h
  | a :: r, b, h => by
    unfold frontF at h
    rw [List.takeWhile_cons] at h
    by_cases ha : a = 47
    · rw [if_pos (by simp [ha])] at h
      rcases List.mem_cons.mp h with h | h
      · rw [h, ha]
      · exact mem_tw r h
    · rw [if_neg (by simp [ha])] at h; cases h
theorem front_all {u : List Nat} (h : frontF u = u) : u = List.replicate u.length 47 := by
  refine List.eq_replicate_iff.mpr ⟨rfl, fun b hb => ?_⟩
  rw [← h] at hb
  exact mem_tw u hb
theorem all_front (m : Nat) : frontF (List.replicate m 47) = List.replicate m 47 := by
  have := front_rep (m := m) (v := []) (by simp)
  simpa using this
theorem names_free {v : List Nat} (h : 47 ∉ v) (h2 : v ≠ []) : namesF v = [v] := by
  unfold namesF
  rw [if_neg, nam_free h h2]
  rintro ⟨_, q⟩
  exact h (List.mem_of_getLast? q)
theorem nam_some {u : List Nat} (h : frontF u ≠ u) : namF u ≠ [] := by
  induction u with
  | nil => simp [frontF] at h
  | cons a r ih =>
    by_cases ha : a = 47
    · subst ha
      have e := nam_split [] r
      rw [List.nil_append, nam_nil, List.nil_append] at e
      rw [e]
      refine ih fun q => h ?_
      unfold frontF at q ⊢
      rw [List.takeWhile_cons, if_pos (by simp), q]
    · unfold namF spl
      rw [if_neg ha]
      cases hs : spl 47 r with
      | nil => exact absurd hs (spl_ne 47 r)
      | cons p q => simp
theorem step_spec (h : List Nat) : (headF h = h ∧ frontF h = h ∧ namesF h = []) ∨ (headF h ≠ h ∧ (headF h).length < h.length ∧ frontF (headF h) = frontF h ∧ namesF h = namesF (headF h) ++ [tailF h]) := by
  rcases slash_cases h with hn | ⟨u, v, rfl, hv⟩
  · have e1 : headF h = [] := by unfold headF; rw [lix_zero hn]; simp
    have e2 : tailF h = h := by unfold tailF; rw [lix_zero hn]; rfl
    cases h with
    | nil => exact .inl ⟨e1, rfl, by simp [namesF, nam_nil]⟩
    | cons a r =>
      refine .inr ⟨by rw [e1]; simp, by rw [e1]; simp, ?_, ?_⟩
      · rw [e1]
        have ha : a ≠ 47 := fun q => hn (q ▸ .head _)
        simp [frontF, ha]
      · rw [e1, e2, names_free hn (by simp)]; simp [namesF, nam_nil]
  · have el : (u ++ 47 :: v).take (lix 47 (u ++ 47 :: v)) = u ++ [47] := by
      rw [lix_app hv, show u ++ 47 :: v = (u ++ [47]) ++ v by simp, List.take_left' (by simp)]
    have e2 : tailF (u ++ 47 :: v) = v := by
      unfold tailF
      rw [lix_app hv, show u ++ 47 :: v = (u ++ [47]) ++ v by simp, List.drop_left' (by simp)]
    by_cases hall : u ++ [47] = List.replicate (u ++ [47]).length 47
    · have e1 : headF (u ++ 47 :: v) = u ++ [47] := by
        unfold headF; rw [el, if_neg]; exact fun q => q.2 hall
      obtain ⟨m, hm⟩ : ∃ m, u ++ [47] = List.replicate m 47 := ⟨_, hall⟩
      have eh : u ++ 47 :: v = List.replicate m 47 ++ v := by rw [← hm]; simp
      have ef : frontF (List.replicate m 47 ++ v) = List.replicate m 47 := front_rep (head_free hv)
      rw [e1, e2, eh, hm]
      cases v with
      | nil =>
        rw [List.append_nil]
        exact .inl ⟨rfl, all_front m, by unfold namesF; rw [nam_rep]; simp⟩
      | cons a r =>
        refine .inr ⟨fun q => by have := congrArg List.length q; simp at this, by simp, by rw [ef, all_front], ?_⟩
        unfold namesF
        rw [nam_slashes, nam_free hv (by simp), nam_rep, if_neg, if_neg (by simp)]
        · rfl
        · rintro ⟨_, q⟩
          rw [List.getLast?_append] at q
          have : (a :: r).getLast? = some 47 := by
            cases hg : (a :: r).getLast? with
            | none => simp at hg
            | some b => rw [hg] at q; simpa using q
          exact hv (List.mem_of_getLast? this)
    · have e1 : headF (u ++ 47 :: v) = rstripL 47 (u ++ [47]) := by
        unfold headF; rw [el, if_pos ⟨by simp, hall⟩]
      obtain ⟨m, hm, hg⟩ := rstrip_spec 47 (u ++ [47])
      rw [e1, e2]
      generalize hge : rstripL 47 (u ++ [47]) = g at *
      obtain ⟨m, rfl⟩ : ∃ k, m = k + 1 := by
        cases m with
        | zero =>
          exfalso
          rw [List.replicate_zero, List.append_nil] at hm
          rw [← hm] at hg; simp at hg
        | succ k => exact ⟨k, rfl⟩
      have hgf : frontF g ≠ g := fun q => by
        have hq := front_all q
        apply hall
        have : u ++ [47] = List.replicate (g.length + (m + 1)) 47 := by
          have e9 : List.replicate g.length 47 ++ List.replicate (m + 1) 47 = List.replicate (g.length + (m + 1)) 47 := List.replicate_append_replicate
          rw [hm, ← e9, ← hq]
        rw [this, List.length_replicate]
      have eh : u ++ 47 :: v = g ++ List.replicate (m + 1) 47 ++ v := by
        rw [← hm]; simp
      rw [eh]
      have elen : g.length < (g ++ List.replicate (m + 1) 47 ++ v).length := by simp; omega
      refine .inr ⟨fun q => by rw [← q] at elen; exact Nat.lt_irrefl _ elen, elen, ?_, ?_⟩
      · rw [List.append_assoc, front_app hgf]
      · have n1 : namesF g = namF g := by unfold namesF; rw [if_neg fun q => hg q.2]
        rw [n1]
        cases v with
        | nil =>
          unfold namesF
          rw [List.append_nil, if_pos, ← List.append_nil (g ++ List.replicate (m + 1) 47), nam_after, nam_nil, List.append_nil]
          refine ⟨?_, by rw [List.replicate_succ', ← List.append_assoc]; simp⟩
          rw [← List.append_nil (g ++ List.replicate (m + 1) 47), nam_after, nam_nil, List.append_nil]
          exact nam_some hgf
        | cons a r =>
          unfold namesF
          rw [if_neg, nam_after, nam_free hv (by simp)]
          rintro ⟨_, q⟩
          rw [List.getLast?_append] at q
          have : (a :: r).getLast? = some 47 := by
            cases hg : (a :: r).getLast? with
            | none => simp at hg
            | some b => rw [hg] at q; simpa using q
          exact hv (List.mem_of_getLast? this)
theorem it_stop (h : List Nat) (told : List (List Nat)) (hs : headF h = h) (n : Nat) : itF (h, told) n = (h, told) := by
  induction n with
  | zero => rfl
  | succ n ih => rw [itF, ih]; unfold stepF; rw [if_neg]; exact fun q => q hs
theorem it_all (n : Nat) : ∀ (h : List Nat) (told : List (List Nat)), h.length ≤ n → itF (h, told) n = (frontF h, namesF h ++ told) := by
  induction n with
  | zero =>
    intro h told hn
    have : h = [] := List.eq_nil_of_length_eq_zero (by omega)
    subst this
    simp [itF, frontF, namesF, nam_nil]
  | succ n ih =>
    intro h told hn
    rw [itF_in]
    rcases step_spec h with ⟨h1, h2, h3⟩ | ⟨h1, h2, h3, h4⟩
    · have : stepF (h, told) = (h, told) := by unfold stepF; rw [if_neg]; exact fun q => q h1
      rw [this, it_stop h told h1, h2, h3]; rfl
    · have : stepF (h, told) = (headF h, tailF h :: told) := by unfold stepF; rw [if_pos h1]
      rw [this, ih _ _ (by omega), h3, h4]; simp
end
end Mine
namespace Mine
section
open PySem.Calls
def sxt (l : List Nat) : Nat := if ((l.take (lix 46 l - 1)).drop (lix 47 l)).any (fun a => decide (a ≠ 46)) then lix 46 l - 1 else l.length
def lwords (name : List Nat) : List (List Nat) := spl 46 (name.dropWhile fun a => decide (a = 46))
def cutI (name : List Nat) : Int := if (lwords name).length = 1 then (name.length : Int) else (name.length : Int) - ((((lwords name).getLast?).getD []).length : Int) - 1
theorem spl_len1 {α : Type} [DecidableEq α] (c : α) (u v : List α) : (spl c (u ++ c :: v)).length ≠ 1 := by
  rw [spl_split, List.length_append]
  have h1 : (spl c u).length ≠ 0 := fun q => spl_ne c u (List.eq_nil_of_length_eq_zero q)
  have h2 : (spl c v).length ≠ 0 := fun q => spl_ne c v (List.eq_nil_of_length_eq_zero q)
  omega
theorem dot_cases (c : Nat) (l : List Nat) : c ∉ l ∨ ∃ u v, l = u ++ c :: v ∧ c ∉ v := by
  induction l using snoc_ind with
  | h0 => exact .inl (by simp)
  | h1 l a ih =>
    by_cases h : a = c
    · exact .inr ⟨l, [], by rw [h], by simp⟩
    · rcases ih with ih | ⟨u, v, rfl, hv⟩
      · exact .inl (by simp [ih, Ne.symm h])
      · exact .inr ⟨u, v ++ [a], by simp, by simp [hv, Ne.symm h]⟩
theorem lix_at {c : Nat} {u v : List Nat} (h : c ∉ v) : lix c (u ++ c :: v) = u.length + 1 := by
  refine (lix_uniq (.inr ⟨u.length, rfl, by simp, fun k hk => ?_⟩)).symm
  rw [List.getElem?_append_right (by omega)]
  obtain ⟨j, hj⟩ : ∃ j, k - u.length = j + 1 := ⟨k - u.length - 1, by omega⟩
  rw [hj, List.getElem?_cons_succ]
  exact fun q => h (List.mem_of_getElem? q)
theorem dots_front (l : List Nat) : ∃ k m, l = List.replicate k 46 ++ m ∧ m = l.dropWhile (fun a => decide (a = 46)) ∧ m.head? ≠ some 46 := by
  induction l with
  | nil => exact ⟨0, [], rfl, rfl, by simp⟩
  | cons a r ih =>
    by_cases ha : a = 46
    · obtain ⟨k, m, h1, h2, h3⟩ := ih
      refine ⟨k + 1, m, ?_, ?_, h3⟩
      · rw [List.replicate_succ, List.cons_append, ← h1, ha]
      · rw [List.dropWhile_cons, if_pos (by simp [ha])]; exact h2
    · exact ⟨0, a :: r, rfl, by rw [List.dropWhile_cons, if_neg (by simp [ha])], by simp [ha]⟩
theorem cut_sxt {l : List Nat} (h : 47 ∉ l) : cutI l = (sxt l : Int) ∧ (l ≠ [] → 0 < sxt l) ∧ sxt l ≤ l.length := by
  obtain ⟨k, m, e, hm, hh⟩ := dots_front l
  have h0 : lix 47 l = 0 := lix_zero h
  unfold sxt cutI lwords
  rw [h0, List.drop_zero, ← hm]
  rcases dot_cases 46 m with hn | ⟨u, v, rfl, hv⟩
  · have hl : lix 46 l - 1 ≤ k := by
      have : lix 46 l ≤ k := by
        rcases lix_spec 46 l with ⟨q, _⟩ | ⟨i, q1, q2, _⟩
        · omega
        · rw [q1]
          by_cases hik : i < k
          · omega
          · rw [e, List.getElem?_append_right (by rw [List.length_replicate]; omega)] at q2
            exact absurd (List.mem_of_getElem? q2) hn
      omega
    have hany : (l.take (lix 46 l - 1)).any (fun a => decide (a ≠ 46)) = false := by
      rw [List.any_eq_false]
      intro a ha
      generalize lix 46 l - 1 = d at hl ha
      rw [e, List.take_append_of_le_length (by rw [List.length_replicate]; exact hl)] at ha
      have := List.eq_of_mem_replicate (List.mem_of_mem_take ha)
      simp [this]
    rw [hany, spl_free 46 m hn]
    refine ⟨by simp, fun hne => ?_, by simp⟩
    simp only [Bool.false_eq_true, if_false]
    exact List.length_pos_iff.mpr hne
  · have hul : u ≠ [] := fun q => by rw [q] at hh; simp at hh
    have e2 : l = (List.replicate k 46 ++ u) ++ 46 :: v := by rw [e, List.append_assoc]
    have hlx : lix 46 l = (List.replicate k 46 ++ u).length + 1 := by rw [e2]; exact lix_at hv
    have hany : (l.take (lix 46 l - 1)).any (fun a => decide (a ≠ 46)) = true := by
      rw [hlx, Nat.add_sub_cancel, e2, List.take_left' rfl, List.any_append]
      cases u with
      | nil => exact absurd rfl hul
      | cons a r =>
        have : a ≠ 46 := by simpa using hh
        simp [this]
    rw [hany, if_neg (spl_len1 46 u v), spl_split, spl_free 46 v hv]
    simp only [if_true]
    have hlen : l.length = (List.replicate k 46 ++ u).length + 1 + v.length := by rw [e2]; simp; omega
    have hup := List.length_pos_iff.mpr hul
    refine ⟨?_, fun _ => ?_, ?_⟩
    · rw [hlx, hlen]; simp
    · rw [hlx]; simp; omega
    · rw [hlx, hlen]; omega
theorem ij_snoc (c : Nat) : ∀ (rs : List (List Nat)) (r : List Nat), rs ≠ [] → ijoin c (rs ++ [r]) = ijoin c rs ++ c :: r
  | [], _, h => absurd rfl h
  | [p], r, _ => rfl
  | p :: q :: rs, r, _ => by
    show p ++ c :: ijoin c ((q :: rs) ++ [r]) = (p ++ c :: ijoin c (q :: rs)) ++ c :: r
    rw [ij_snoc c (q :: rs) r (by simp)]; simp
theorem ij_last (c : Nat) (rs : List (List Nat)) (z : List Nat) (hz : z ≠ []) : (ijoin c (rs ++ [z])).getLast? = z.getLast? := by
  cases rs with
  | nil => rfl
  | cons p r =>
    rw [ij_snoc c (p :: r) z (by simp), List.getLast?_append]
    cases hg : z.getLast? with
    | none => exact absurd (List.getLast?_eq_none_iff.mp hg) hz
    | some b =>
      have : (c :: z).getLast? = some b := by
        rw [show c :: z = [c] ++ z from rfl, List.getLast?_append, hg]; rfl
      rw [this]; rfl
theorem jL_name {p b : List Nat} (hb : 47 ∉ b) : jL 47 p b = if p = [] then b else if p.getLast? = some 47 then p ++ b else p ++ 47 :: b := by
  unfold jL
  have h1 : (b.head? == some 47) = false := by simpa using head_free hb
  rw [h1, Bool.false_or]
  by_cases hp : p = []
  · rw [if_pos (by simp [hp]), if_pos hp]
  · rw [if_neg (by simpa using hp), if_neg hp]
    by_cases hl : p.getLast? = some 47
    · rw [if_pos (by simp [hl]), if_pos hl]
    · rw [if_neg (by simpa using hl), if_neg hl]
theorem join_ij (m : Nat) (rs : List (List Nat)) : (∀ r ∈ rs, 47 ∉ r) → (∀ r ∈ rs.dropLast, r ≠ []) → rs.foldl (jL 47) (List.replicate m 47) = List.replicate m 47 ++ ijoin 47 rs := by
  induction rs using snoc_ind with
  | h0 => intro _ _; simp [ijoin]
  | h1 rs r ih =>
    intro h1 h2
    rw [List.dropLast_concat] at h2
    rw [List.foldl_append, ih (fun x hx => h1 x (List.mem_append_left _ hx)) (fun x hx => h2 x (List.dropLast_subset _ hx))]
    show jL 47 _ r = _
    rw [jL_name (h1 r (by simp))]
    rcases List.eq_nil_or_concat rs with rfl | ⟨rs', z, rfl⟩
    · simp only [ijoin, List.append_nil, List.nil_append]
      cases m with
      | zero => rfl
      | succ m =>
        rw [if_neg (by simp), if_pos (by rw [List.replicate_succ']; simp)]
    · rw [List.concat_eq_append] at *
      have hz : z ≠ [] := h2 z (by simp)
      have hz47 : 47 ∉ z := h1 z (by simp)
      have hl := ij_last 47 rs' z hz
      have hne : ijoin 47 (rs' ++ [z]) ≠ [] := fun q => by
        rw [q] at hl
        exact hz (List.getLast?_eq_none_iff.mp hl.symm)
      rw [if_neg (by simp [hne]), if_neg, ij_snoc 47 (rs' ++ [z]) r (by simp)]
      · simp
      · rw [List.getLast?_append, hl]
        cases hg : z.getLast? with
        | none => exact absurd (List.getLast?_eq_none_iff.mp hg) hz
        | some b =>
          intro q
          have : b = 47 := by simpa using q
          exact hz47 (this ▸ List.mem_of_getLast? hg)
theorem spl_mem {c : Nat} : ∀ {l p : List Nat}, p ∈ spl c l → c ∉ p
  | [], p, h => by rw [show p = [] by simpa [spl] using h]; simp
  | a :: l, p, h => by
    unfold spl at h
    by_cases ha : a = c
    · rw [if_pos ha] at h
      rcases List.mem_cons.mp h with rfl | h
      · simp
      · exact spl_mem h
    · rw [if_neg ha] at h
      cases hs : spl c l with
      | nil => exact absurd hs (spl_ne c l)
      | cons q r =>
        rw [hs] at h
        rcases List.mem_cons.mp h with rfl | h
        · have : q ∈ spl c l := by rw [hs]; exact .head _
          simp [spl_mem this, Ne.symm ha]
        · exact spl_mem (by rw [hs]; exact .tail _ h)
theorem names_free47 {l p : List Nat} (h : p ∈ namesF l) : 47 ∉ p := by
  unfold namesF at h
  have key : ∀ q ∈ namF l, 47 ∉ q := fun q hq => spl_mem (List.mem_filter.mp hq).1
  split at h
  · rcases List.mem_append.mp h with h | h
    · exact key p h
    · rw [List.mem_singleton.mp h]; simp
  · exact key p h
theorem names_ne {l p : List Nat} (h : p ∈ (namesF l).dropLast) : p ≠ [] := by
  have key : ∀ q ∈ namF l, q ≠ [] := fun q hq => by simpa using (List.mem_filter.mp hq).2
  unfold namesF at h
  split at h
  · rw [List.dropLast_concat] at h; exact key p h
  · exact key p (List.dropLast_subset _ h)
theorem front_rep' (l : List Nat) : frontF l = List.replicate (frontF l).length 47 :=
  List.eq_replicate_iff.mpr ⟨rfl, fun b hb => mem_tw l hb⟩
theorem law4_whole (l : List Nat) : (namesF l).foldl (jL 47) (frontF l) = frontF l ++ ijoin 47 (namesF l) := by
  rw [front_rep' l]; exact join_ij _ _ (fun r hr => names_free47 hr) fun r hr => names_ne hr
theorem dropLast_map {α β : Type} (f : α → β) (l : List α) : (l.map f).dropLast = l.dropLast.map f := by
  rcases List.eq_nil_or_concat l with rfl | ⟨r, a, rfl⟩
  · rfl
  · simp
theorem law4_bare (l : List Nat) : ((namesF l).map fun p => p.take (sxt p)).foldl (jL 47) (frontF l) = frontF l ++ ijoin 47 ((namesF l).map fun p => p.take (sxt p)) := by
  rw [front_rep' l]
  refine join_ij _ _ (fun r hr => ?_) fun r hr => ?_
  · obtain ⟨p, hp, rfl⟩ := List.mem_map.mp hr
    exact fun q => names_free47 hp (List.mem_of_mem_take q)
  · rw [dropLast_map] at hr
    obtain ⟨p, hp, rfl⟩ := List.mem_map.mp hr
    have h1 := names_ne hp
    have h2 := (cut_sxt (names_free47 (List.dropLast_subset _ hp))).2.1 h1
    intro q
    have := congrArg List.length q
    rw [List.length_take, List.length_nil] at this
    have := List.length_pos_iff.mpr h1
    omega
end
end Mine
namespace Mine
section
open PySem.Calls
theorem sl_rfind : Slot "bytes" "rfind" "bytes.rfind" :=
  .of (owner := "bytes") (n := "rfind") (by rw [typeLookup_type, builtinLookup_eq_fast]; kernel_rfl) (by decide +kernel) (by decide +kernel) (by decide +kernel)
    (by first | exact .inl (by decide +kernel) | exact .inr (by decide +kernel)) (by rw [isSubtype_type]; kernel_rfl)
theorem ty_rfind : typeOf (.builtin "bytes.rfind") = pure (.type "method_descriptor") := by show builtinType _ = _; rw [builtinType_eq_fast]; kernel_rfl
theorem en_rfind : entryFor table "bytes.rfind" = some Builtin.«bytes.rfind» := entryFor_of_tree (by kernel_rfl)
theorem ar_rfind (a b : Value) : argsOk "bytes.rfind" ⟨[a, b], []⟩ := by
  unfold argsOk; rw [signature?_of (id := "bytes.rfind") (n := ['d', 'n', 'i', 'f', 'r']) (o := ['s', 'e', 't', 'y', 'b']) (by kernel_rfl) FB.owner_bytes]; kernel_rfl
theorem sl_rstrip : Slot "bytes" "rstrip" "bytes.rstrip" :=
  .of (owner := "bytes") (n := "rstrip") (by rw [typeLookup_type, builtinLookup_eq_fast]; kernel_rfl) (by decide +kernel) (by decide +kernel) (by decide +kernel)
    (by first | exact .inl (by decide +kernel) | exact .inr (by decide +kernel)) (by rw [isSubtype_type]; kernel_rfl)
theorem ty_rstrip : typeOf (.builtin "bytes.rstrip") = pure (.type "method_descriptor") := by show builtinType _ = _; rw [builtinType_eq_fast]; kernel_rfl
theorem en_rstrip : entryFor table "bytes.rstrip" = some Builtin.«bytes.rstrip» := entryFor_of_tree (by kernel_rfl)
theorem ar_rstrip (a b : Value) : argsOk "bytes.rstrip" ⟨[a, b], []⟩ := by
  unfold argsOk; rw [signature?_of (id := "bytes.rstrip") (n := ['p', 'i', 'r', 't', 's', 'r']) (o := ['s', 'e', 't', 'y', 'b']) (by kernel_rfl) FB.owner_bytes]; kernel_rfl
theorem find_last (c : UInt8) (l : List UInt8) : ((((List.range l.length).map (· + 0)).reverse.find? fun i => l.toArray.extract i (i + 1) == #[c]) = none ∧ lix c l = 0) ∨ ∃ i, (((List.range l.length).map (· + 0)).reverse.find? fun i => l.toArray.extract i (i + 1) == #[c]) = some i ∧ lix c l = i + 1 := by
  have key : ∀ i, (l.toArray.extract i (i + 1) == #[c]) = (l[i]? == some c) := fun i => by
    rw [Bool.eq_iff_iff, beq_iff_eq, beq_iff_eq]
    simp only [List.extract_toArray]
    constructor
    · intro h
      have h := congrArg Array.toList h
      have h := congrArg List.head? h
      rw [List.extract] at h
      simp only [Nat.add_sub_cancel_left, List.head?_take, List.head?_drop] at h
      simpa using h
    · intro h
      obtain ⟨h1, h2⟩ := List.getElem?_eq_some_iff.mp h
      simp [List.extract]
      rw [List.drop_eq_getElem_cons h1, h2]; simp
  simp only [key, Nat.add_zero, List.map_id']
  cases hf : (List.range l.length).reverse.find? fun i => l[i]? == some c with
  | none =>
    refine .inl ⟨rfl, (lix_uniq (.inl ⟨rfl, fun hm => ?_⟩)).symm⟩
    obtain ⟨i, hi⟩ := List.getElem?_of_mem hm
    have := List.find?_eq_none.mp hf i (by simp; exact (List.getElem?_eq_some_iff.mp hi).1)
    rw [hi] at this; simp at this
  | some i =>
    refine .inr ⟨i, rfl, (lix_uniq (.inr ⟨i, rfl, by simpa using List.find?_some hf, fun k hk e => ?_⟩)).symm⟩
    have hkl := (List.getElem?_eq_some_iff.mp e).1
    rw [List.find?_eq_some_iff_append] at hf
    obtain ⟨_, as, bs, hab, hno⟩ := hf
    have hrev := congrArg List.reverse hab
    rw [List.reverse_reverse, List.reverse_append, List.reverse_cons] at hrev
    have hkm : k ∈ as := by
      have hk2 : k ∈ List.range l.length := by simpa using hkl
      have hpw : (List.range l.length).Pairwise (· < ·) := List.pairwise_lt_range
      rw [hrev] at hk2 hpw
      rw [List.append_assoc] at hk2 hpw
      rcases List.mem_append.mp hk2 with q | q
      · have := (List.pairwise_append.mp hpw).2.2 k q i (by simp)
        omega
      · rcases List.mem_append.mp q with q | q
        · rw [List.mem_singleton.mp q] at hk; omega
        · simpa using q
    have := hno k hkm
    rw [e] at this; simp at this
section
open Builtin
theorem meets_brfind {b : Array UInt8} {c : UInt8} {t u : Tok} : Meets (Builtin.«bytes.rfind» ⟨[.bytes b t, .bytes #[c] u], []⟩) (fun _ R s => ∀ t' k, R (.ok (.ret (.int ((lix c b.toList : Int) - 1) t'))) { s with toks := k }) := by
  intro prog w A R s hs
  have hT : s.TypeIs (.bytes #[c] u) "bytes" := rfl
  have f2 : ∀ id x y, Bytes.buffer? id (.bytes x y) = pure (some x) := fun id x y => KBy.buffer_eq
  unfold Builtin.«bytes.rfind» Bytes.searchM Bytes.searchArgs
  repeat (any_goals (first | assumption | (simp only [List.headD_cons, f2]) | wp_step))
  have hw : Bytes.window b.size none none = (0, (b.size : Int)) := by
    unfold Bytes.window
    simp only [Option.getD_none]
    rw [if_neg (by omega), if_neg (by omega)]
    simp
  have hX : (((if (Bytes.window b.size none none).snd - (Bytes.window b.size none none).fst < (#[c] : Array UInt8).size then none
          else some ((Bytes.window b.size none none).fst.toNat, (Bytes.window b.size none none).snd.toNat)).bind
        fun x => if True then Bytes.rfind? b #[c] x.fst x.snd else Bytes.find? b #[c] x.fst x.snd) = none ∧ lix c b.toList = 0) ∨ ∃ i, ((if (Bytes.window b.size none none).snd - (Bytes.window b.size none none).fst < (#[c] : Array UInt8).size then none
          else some ((Bytes.window b.size none none).fst.toNat, (Bytes.window b.size none none).snd.toNat)).bind
        fun x => if True then Bytes.rfind? b #[c] x.fst x.snd else Bytes.find? b #[c] x.fst x.snd) = some i ∧ lix c b.toList = i + 1 := by
    rw [hw]
    obtain ⟨l⟩ := b
    by_cases hl : l = []
    · subst hl; exact .inl ⟨rfl, rfl⟩
    · have h1 : 1 ≤ l.length := List.length_pos_iff.mpr hl
      rw [if_neg (by simp; omega)]
      simp only [Option.bind_some, if_true, Bytes.rfind?]
      have := find_last c l
      simpa using this
  rcases hX with ⟨h1, h2⟩ | ⟨i, h1, h2⟩
  · rw [h1]
    have hs' := fun t' k => hs t' k
    rw [h2] at hs'
    repeat (any_goals (first | exact hs' _ _ | wp_step))
  · rw [h1]
    have hs' := fun t' k => hs t' k
    rw [h2] at hs'
    have e : ((i + 1 : Nat) : Int) - 1 = (i : Int) := by omega
    rw [e] at hs'
    repeat (any_goals (first | exact hs' _ _ | wp_step))
theorem meets_brstrip {b : Array UInt8} {c : UInt8} {t u : Tok} : Meets (Builtin.«bytes.rstrip» ⟨[.bytes b t, .bytes #[c] u], []⟩) (fun _ R s => b.size ≤ 16777216 ∧ ∀ t' k, R (.ok (.ret (.bytes (rstripL c b.toList).toArray t'))) { s with toks := k }) := by
  intro prog w A R s ⟨hz, hs⟩
  have hT : s.TypeIs (.bytes #[c] u) "bytes" := rfl
  have hTb : s.TypeIs (.bytes b t) "bytes" := rfl
  have f2 : ∀ id x y, Bytes.buffer? id (.bytes x y) = pure (some x) := fun id x y => KBy.buffer_eq
  unfold Builtin.«bytes.rstrip» Bytes.stripM
  repeat (any_goals (first | assumption | (simp only [List.headD_cons, f2]) | wp_step))
  have hc : (#[c] : Array UInt8).contains = fun a => decide (a = c) := by
    funext a; rw [Bool.eq_iff_iff]; simp
  simp only [Bool.false_eq_true, if_false, if_true, hc]
  rw [show (List.dropWhile (fun a => decide (a = c)) b.toList.reverse).reverse = rstripL c b.toList from rfl]
  by_cases hl : ((rstripL c b.toList).length == b.size) = true
  · rw [if_pos hl]
    have e : (rstripL c b.toList).toArray = b := by
      obtain ⟨m, hm, _⟩ := rstrip_spec c b.toList
      have h1 := congrArg List.length hm
      rw [List.length_append, List.length_replicate, Array.length_toList] at h1
      have h2 : (rstripL c b.toList).length = b.size := by simpa using hl
      have hm0 : m = 0 := by omega
      subst hm0
      rw [List.replicate_zero, List.append_nil] at hm
      rw [← hm, Array.toArray_toList]
    rw [e] at hs
    unfold Bytes.Kind.same
    repeat (any_goals (first | exact hs _ _ | assumption | wp_step))
  · rw [if_neg hl]
    unfold Bytes.Kind.new
    have hz2 : (rstripL c b.toList).toArray.size ≤ sizeLine := by
      obtain ⟨m, hm, _⟩ := rstrip_spec c b.toList
      have h1 := congrArg List.length hm
      rw [List.length_append, List.length_replicate, Array.length_toList] at h1
      rw [List.size_toArray, sizeLine_eq]; omega
    refine wpAny_bind (wpAny_mkBytes ?_ hz2)
    repeat (any_goals (first | exact hs _ _ | assumption | wp_step))
end
section
variable {prog : Program} {w : World} {A : Around} {E : Value → Shared → Prop} {s : Shared} {t u : Tok} {b : Array UInt8} {c : UInt8} {Q : Value → Shared → Prop}
theorem by_rfind (h : ∀ t' k, Q (.int ((lix c b.toList : Int) - 1) t') { s with toks := k }) : wpAny (model prog w) A (call (.builtin "bytes.rfind") [.bytes b t, .bytes #[c] u]) Q E s :=
  call_meets sl_rfind (typeIs_bytes _ _ _) en_rfind (ar_rfind _ _) meets_brfind h
theorem by_rstrip (hz : b.size ≤ 16777216) (h : ∀ t' k, (rstripL c b.toList).toArray.size ≤ b.size → Q (.bytes (rstripL c b.toList).toArray t') { s with toks := k }) : wpAny (model prog w) A (call (.builtin "bytes.rstrip") [.bytes b t, .bytes #[c] u]) Q E s :=
  call_meets sl_rstrip (typeIs_bytes _ _ _) en_rstrip (ar_rstrip _ _) meets_brstrip ⟨hz, fun t' k => h t' k (by
    obtain ⟨m, hm, _⟩ := rstrip_spec c b.toList
    have h1 := congrArg List.length hm
    rw [List.length_append, List.length_replicate, Array.length_toList] at h1
    rw [List.size_toArray]; omega)⟩
theorem by_rfind_m {M : Model} {pl : Sem Bool} {Q : Value × List Value → Shared → Prop} (h : Q (.builtin "bytes.rfind", [.bytes b t]) s) : wpAny M A (getMethod (.bytes b t) "rfind" pl) Q E s := by
  with_reducible exact KBd.method_of (.bytes b t) (typeIs_bytes _ _ _) sl_rfind ty_rfind KBd.noRef h
theorem by_rstrip_m {M : Model} {pl : Sem Bool} {Q : Value × List Value → Shared → Prop} (h : Q (.builtin "bytes.rstrip", [.bytes b t]) s) : wpAny M A (getMethod (.bytes b t) "rstrip" pl) Q E s := by
  with_reducible exact KBd.method_of (.bytes b t) (typeIs_bytes _ _ _) sl_rstrip ty_rstrip KBd.noRef h
end
def nats (P : Array UInt8) : List Nat := P.toList.map UInt8.toNat
theorem nats_len (P : Array UInt8) : (nats P).length = P.size := by simp [nats]
theorem map_lix {α β : Type} [DecidableEq α] [DecidableEq β] (f : α → β) (hf : ∀ a b, f a = f b → a = b) (c : α) (l : List α) : lix (f c) (l.map f) = lix c l := by
  induction l using snoc_ind with
  | h0 => rfl
  | h1 l a ih =>
    rw [List.map_append, List.map_singleton, lix_snoc, lix_snoc, ih, List.length_map]
    by_cases h : a = c
    · rw [if_pos h, if_pos (by rw [h])]
    · rw [if_neg h, if_neg fun q => h (hf _ _ q)]
theorem map_rstrip {α β : Type} [DecidableEq α] [DecidableEq β] (f : α → β) (hf : ∀ a b, f a = f b → a = b) (c : α) (l : List α) : rstripL (f c) (l.map f) = (rstripL c l).map f := by
  induction l using snoc_ind with
  | h0 => rfl
  | h1 l a ih =>
    rw [List.map_append, List.map_singleton, rstrip_snoc, rstrip_snoc, ih]
    by_cases h : a = c
    · rw [if_pos h, if_pos (by rw [h])]
    · rw [if_neg h, if_neg fun q => h (hf _ _ q)]; simp
theorem nat_inj (a b : UInt8) (h : a.toNat = b.toNat) : a = b := UInt8.toNat_inj.mp h
theorem nats_lix (c : UInt8) (P : Array UInt8) : lix c P.toList = lix c.toNat (nats P) := (map_lix UInt8.toNat nat_inj c P.toList).symm
theorem nats_rstrip (c : UInt8) (P : Array UInt8) : nats (rstripL c P.toList).toArray = rstripL c.toNat (nats P) := by
  unfold nats; rw [map_rstrip UInt8.toNat nat_inj c P.toList]
theorem nats_inj {P R : Array UInt8} (h : nats P = nats R) : P = R := by
  unfold nats at h
  have : P.toList = R.toList := by
    have hm : Function.Injective UInt8.toNat := fun a b e => nat_inj a b e
    exact (List.map_inj_right fun x y e => nat_inj x y e).mp h
  rw [← Array.toArray_toList (xs := P), ← Array.toArray_toList (xs := R), this]
theorem nats_take (P : Array UInt8) (n : Nat) : nats (KBy.picked P none (some (n : Int))) = (nats P).take n := by
  rw [KBc.picked_eq]
  unfold nats
  simp only [Option.elim_none, Option.elim_some, List.drop_zero, Nat.sub_zero]
  rw [List.map_take, clipAt_nat, List.take_eq_take_iff]
  simp
theorem nats_drop (P : Array UInt8) (n : Nat) : nats (KBy.picked P (some (n : Int)) none) = (nats P).drop n := by
  rw [KBc.picked_eq]
  unfold nats
  simp only [Option.elim_none, Option.elim_some]
  rw [List.map_take, List.map_drop, clipAt_nat, List.take_of_length_le (by simp)]
  by_cases h : n ≤ P.size
  · rw [Nat.min_eq_left h]
  · rw [Nat.min_eq_right (by omega), List.drop_of_length_le (by simp), List.drop_of_length_le (by simp; omega)]
section
variable {prog : Program} {w : World} {A : Around} {E : Value → Shared → Prop} {s : Shared} {value slice : PySem.Expr} {b : Array UInt8} {t : Tok} {h₀ : Heap} {L : Addr} {m : Str → Option Value} {news : List (Addr × Obj)} {l u : Value} {lo hi : Option Int} {Q : Value → Shared → Prop}
theorem slice_by (F : Fr h₀ L s.heap m) (N : News h₀ L s.heap news) (pl : IsPart l lo) (pu : IsPart u hi) (hz : b.size ≤ 16777216)
    (h : ∀ h' t' k, Fr h₀ L h' m → News h₀ L h' news → (KBy.picked b lo hi).size ≤ b.size → Q (.bytes (KBy.picked b lo hi) t') { s with heap := h', toks := k })
    (hs : subscripted slice false (.bytes b t) (.ref s.heap.objs.size) = operate [.ref s.heap.objs.size, .bytes b t] (getItem (.bytes b t) (.ref s.heap.objs.size)))
    (ht : ∀ r, letTemporaryGo value (.bytes b t) r = pure ()) :
    wpAny (model prog w) A (subscriptTail value slice (.bytes b t) (.ref s.heap.objs.size)) Q E { s with heap := s.heap.push { cls := .type "slice", data := .fields #[l, u, .none] } } :=
  KBc.slice_K F N rfl pl pu (by rw [KBw.ints_length]; exact hz) (fun h' t' k F N _ => h h' t' k F N (KBc.size_picked_le _ _ _)) hs ht
end
end
end Mine
namespace Mine
section
open PySem.Calls
theorem sxt_all {l : List Nat} (h : ∀ j, lix 47 l ≤ j → j + 1 < lix 46 l → l[j]? = some 46) : sxt l = l.length := by
  unfold sxt
  rw [if_neg]
  simp only [Bool.not_eq_true, List.any_eq_false]
  intro a ha
  obtain ⟨i, hi⟩ := List.getElem?_of_mem ha
  have hlt := (List.getElem?_eq_some_iff.mp hi).1
  rw [List.length_drop, List.length_take] at hlt
  rw [List.getElem?_drop, List.getElem?_take, if_pos (by omega)] at hi
  rw [h _ (by omega) (by omega)] at hi
  cases hi; simp
theorem sxt_hit {l : List Nat} {j : Nat} (h1 : lix 47 l ≤ j) (h2 : j + 1 < lix 46 l) (h3 : l[j]? ≠ some 46) : sxt l = lix 46 l - 1 := by
  unfold sxt
  rw [if_pos]
  have hle := lix_le 46 l
  have hj : j < l.length := by omega
  rw [List.any_eq_true]
  refine ⟨l[j], ?_, ?_⟩
  · refine List.mem_iff_getElem?.mpr ⟨j - lix 47 l, ?_⟩
    rw [List.getElem?_drop, List.getElem?_take, if_pos (by omega), show lix 47 l + (j - lix 47 l) = j by omega, List.getElem?_eq_getElem hj]
  · rw [List.getElem?_eq_getElem hj] at h3
    simpa using h3
theorem take1 {α : Type} (l : List α) (n : Nat) : (l.drop n).take 1 = match l[n]? with | some a => [a] | none => [] := by
  by_cases h : n < l.length
  · rw [List.getElem?_eq_getElem h, List.drop_eq_getElem_cons h]; rfl
  · rw [List.getElem?_eq_none (by omega), List.drop_of_length_le (by omega)]; rfl
theorem cpl_one (x : Str) (n : Nat) : cpl (Txt.slice x (some (n : Int)) (some ((n : Int) + 1))) = ((cpl x).drop n).take 1 := by
  rw [cpl_slice]
  simp only [kms_lo, kms_hi, show ¬ ((n : Int) < 0) by omega, show ¬ ((n : Int) + 1 < 0) by omega, if_false]
  rw [show ((n : Int) + 1).toNat = n + 1 by omega, Int.toNat_natCast, ← cpl_len]
  by_cases h : n < (cpl x).length
  · rw [Nat.min_eq_left (by omega), Nat.min_eq_left (by omega), Nat.add_sub_cancel_left]
  · rw [Nat.min_eq_right (by omega), Nat.min_eq_right (by omega), List.drop_of_length_le (Nat.le_refl _), List.drop_of_length_le (by omega)]; simp
theorem one_ne (x : Str) (n c : Nat) : (Txt.slice x (some (n : Int)) (some ((n : Int) + 1)) != ch c) = decide ((cpl x)[n]? ≠ some c) := by
  rw [bne, str_beq, cpl_one, take1, Bool.eq_iff_iff]
  cases h : (cpl x)[n]? with
  | none => simp [cpl]
  | some a => simp [cpl]
end
end Mine
namespace Mine
section
open PySem.Calls
open PySem.SeqAt
def VC : Bool → Value → List Nat → Prop
  | false, v, l => ∃ x t, v = .str x t ∧ cpl x = l
  | true, v, l => ∃ P t, v = .bytes P t ∧ nats P = l
theorem eqat_bytes {A : Around} {s : Shared} {b : Array UInt8} {t u : Tok} : EqAt A s (.bytes b t) (.bytes b u) true := fun prog w E Q h => by
  unfold eqBool
  refine wpAny_holding ?_
  refine wpAny_ite_split (fun _ => wpAny_bind (wpAny_rule (wpAny_pure h))) (fun _ => ?_)
  have z : wpAny (model prog w) A (richCompare .Eq (.bytes b t) (.bytes b u)) (fun v s' => wpAny (model prog w) A (truthOfDropped v) Q E s') E s :=
    PySem.W.eq_bytes (by rw [beq_self_eq_true]; exact wpAny_truthy_bool h)
  exact wpAny_bind z
theorem eqat_VC {A : Around} {s : Shared} {oct : Bool} {v v' : Value} {l : List Nat} (h : VC oct v l) (h' : VC oct v' l) : EqAt A s v v' true := by
  cases oct with
  | false =>
    obtain ⟨x, t, rfl, e⟩ := h
    obtain ⟨y, u, rfl, e'⟩ := h'
    have : x = y := cpl_inj (e.trans e'.symm)
    subst this
    have z := EqAt.str_str (A := A) (s := s) x t x u
    simpa using z
  | true =>
    obtain ⟨x, t, rfl, e⟩ := h
    obtain ⟨y, u, rfl, e'⟩ := h'
    have : x = y := nats_inj (e.trans e'.symm)
    subst this
    exact eqat_bytes
def T2 (nx : List (Addr × Obj)) (oct : Bool) (v : Value) (l : List Nat) : Prop := ∃ D a b, v = .ref D ∧ (D, ({ cls := .type "tuple", data := .seq #[a, b] } : Obj)) ∈ nx ∧ VC oct a (l.take (sxt l)) ∧ VC oct b (l.drop (sxt l))
theorem T2.sub {nx nx' : List (Addr × Obj)} {oct : Bool} {v : Value} {l : List Nat} (x : T2 nx oct v l) (h : ∀ p ∈ nx, p ∈ nx') : T2 nx' oct v l :=
  let ⟨D, a, b, e, hm, r⟩ := x; ⟨D, a, b, e, h _ hm, r⟩
section
variable {prog : Program} {w : World} {A : Around} {E : Value → Shared → Prop} {s : Shared} {h₀ : Heap} {L a b : Addr} {news : List (Addr × Obj)} {xs ys : List Value} {ka kb : Nat} {ds : List (List Nat)} {Q : Value → Shared → Prop} {oct : Bool}
theorem eqat_T2 {v v' : Value} {l : List Nat} (N : News h₀ L s.heap news) (h : T2 news oct v l) (h' : T2 news oct v' l) (hu : A.units < cLine) : EqAt A s v v' true := by
  obtain ⟨D, x, y, rfl, hm, hx, hy⟩ := h
  obtain ⟨D', x', y', rfl, hm', hx', hy'⟩ := h'
  by_cases hD : D = D'
  · subst hD; exact EqAt.same _
  · refine EqAt.of_refs hD ?_
    have z := RcAt.tuples (A := A) (s := s) (e := fun _ => true) (items := #[x, y]) (items2 := #[x', y']) ⟨_, (N _ hm).1, rfl, _, rfl⟩ ⟨_, (N _ hm').1, rfl, _, rfl⟩ hu fun j h1 h2 => by
      match j, h1, h2 with
      | 0, _, _ => exact eqat_VC hx hx'
      | 1, _, _ => exact eqat_VC hy hy'
      | j + 2, h1, _ => exact absurd h1 (by simp)
    exact z
theorem ne_told (N : News h₀ L s.heap news) (ma : (a, lobj xs ka) ∈ news) (ra : Al (T2 news oct) xs ds) (mb : (b, lobj ys kb) ∈ news) (rb : Al (T2 news oct) ys ds) (hu : A.units + 64 < cLine) (h : Q (.bool false) s) :
    wpAny (model prog w) A (compareOp .NotEq (.ref a) (.ref b)) Q E s := by
  have hsz : xs.toArray.size = ys.toArray.size := by rw [List.size_toArray, List.size_toArray, ra.1, rb.1]
  have z := RcNeAt.lists (A := A) (s := s) (e := fun _ => true) (items := xs.toArray) (items2 := ys.toArray) ⟨_, (N _ ma).1, rfl, ka, rfl⟩ ⟨_, (N _ mb).1, rfl, kb, rfl⟩ hsz (by omega) fun j h1 h2 => by
    have g1 : j < xs.length := by simpa using h1
    have g2 : j < ys.length := by simpa using h2
    obtain ⟨d, hd, hv⟩ := ra.2 j xs[j] (List.getElem?_eq_getElem g1)
    obtain ⟨d', hd', hv'⟩ := rb.2 j ys[j] (List.getElem?_eq_getElem g2)
    rw [hd] at hd'; cases hd'
    have := eqat_T2 (A := A.in1) N hv hv' (by simp only [units_in1]; omega)
    simpa using this
  have hall : (List.range xs.toArray.size).all (fun _ => true) = true := by simp
  rw [hall] at z
  exact z prog w E Q h
end
section
variable {prog : Program} {w : World} {A : Around} {E : Value → Shared → Prop} {s : Shared} {h₀ : Heap} {L a b : Addr} {news : List (Addr × Obj)} {xs : List Value} {ka kb : Nat} {Q : Value → Shared → Prop}
theorem ne_nil_list (N : News h₀ L s.heap news) (ma : (a, lobj xs ka) ∈ news) (mb : (b, lobj [] kb) ∈ news) (hu : A.units < cLine) (h : Q (.bool (!xs.isEmpty)) s) :
    wpAny (model prog w) A (compareOp .NotEq (.ref a) (.ref b)) Q E s := by
  have la : s.heap.IsList a xs.toArray := ⟨_, (N _ ma).1, rfl, ka, rfl⟩
  have lb : s.heap.IsList b ([] : List Value).toArray := ⟨_, (N _ mb).1, rfl, kb, rfl⟩
  cases xs with
  | nil =>
    have z := RcNeAt.lists (A := A) (e := fun _ => true) la lb rfl hu fun j h1 _ => absurd h1 (by simp)
    exact z prog w E Q h
  | cons x r =>
    have z := RcNeAt.lists_lengths (A := A) la lb (by simp) hu
    exact z prog w E Q h
end
end
end Mine
namespace Mine
section
open PySem.Calls
theorem headF_len (l : List Nat) : (headF l).length ≤ l.length := by
  rcases step_spec l with ⟨h, _⟩ | ⟨_, h, _⟩
  · rw [h]; exact Nat.le_refl _
  · omega
theorem tailF_len (l : List Nat) : (tailF l).length ≤ l.length := by unfold tailF; rw [List.length_drop]; omega
theorem itF_len (st : List Nat × List (List Nat)) (n : Nat) : (itF st n).1.length ≤ st.1.length ∧ (itF st n).2.length ≤ st.2.length + n := by
  induction n with
  | zero => exact ⟨Nat.le_refl _, Nat.le_refl _⟩
  | succ n ih =>
    rw [itF]; unfold stepF
    split
    · have := headF_len (itF st n).1
      simp only [List.length_cons]; omega
    · omega
theorem stepF_yes {st : List Nat × List (List Nat)} (h : headF st.1 ≠ st.1) : stepF st = (headF st.1, tailF st.1 :: st.2) := by unfold stepF; rw [if_pos h]
theorem stepF_no {st : List Nat × List (List Nat)} (h : headF st.1 = st.1) : stepF st = st := by unfold stepF; rw [if_neg fun q => q h]
section
variable {prog : Program} {w : World} {A : Around} {E : Value → Shared → Prop} {s : Shared} {oct : Bool} {v v' : Value} {l l' : List Nat} {Q : Value → Shared → Prop}
theorem ne_VC (h : VC oct v l) (h' : VC oct v' l') (hq : Q (.bool (decide (l ≠ l'))) s) : wpAny (model prog w) A (compareOp .NotEq v v') Q E s := by
  cases oct with
  | false =>
    obtain ⟨x, t, rfl, rfl⟩ := h
    obtain ⟨y, u, rfl, rfl⟩ := h'
    refine ne_str ?_
    have : (x != y) = decide (cpl x ≠ cpl y) := by
      rw [bne, str_beq, Bool.eq_iff_iff]; simp
    first | (rw [this]; exact hq) | (simpa [this] using hq)
  | true =>
    obtain ⟨x, t, rfl, rfl⟩ := h
    obtain ⟨y, u, rfl, rfl⟩ := h'
    refine PySem.W.ne_bytes ?_
    have e : x.toList = y.toList ↔ nats x = nats y := ⟨fun h => by unfold nats; rw [h], fun h => by rw [nats_inj h]⟩
    have : (x.toList != y.toList) = decide (nats x ≠ nats y) := by
      rw [Bool.eq_iff_iff, bne_iff_ne, decide_eq_true_iff, ne_eq, ne_eq, e]
    rw [this]; exact hq
theorem eq_VC (h : VC oct v l) (h' : VC oct v' l') (hq : Q (.bool (decide (l = l'))) s) : wpAny (model prog w) A (compareOp .Eq v v') Q E s := by
  cases oct with
  | false =>
    obtain ⟨x, t, rfl, rfl⟩ := h
    obtain ⟨y, u, rfl, rfl⟩ := h'
    refine PyProof.Rows.eq_str ?_
    have : (x == y) = decide (cpl x = cpl y) := by
      rw [str_beq, Bool.eq_iff_iff]; simp
    rw [this]; exact hq
  | true =>
    obtain ⟨x, t, rfl, rfl⟩ := h
    obtain ⟨y, u, rfl, rfl⟩ := h'
    refine PySem.W.eq_bytes ?_
    have e : x.toList = y.toList ↔ nats x = nats y := ⟨fun h => by unfold nats; rw [h], fun h => by rw [nats_inj h]⟩
    have : (x.toList == y.toList) = decide (nats x = nats y) := by
      rw [Bool.eq_iff_iff, beq_iff_eq, decide_eq_true_iff, e]
    rw [this]; exact hq
theorem add_VC (h : VC oct v l) (h' : VC oct v' l') (hz : l.length + l'.length ≤ 1000000) (hq : ∀ r k, VC oct r (l ++ l') → Q r { s with toks := k }) : wpAny (model prog w) A (binaryOp .Add v v') Q E s := by
  cases oct with
  | false =>
    obtain ⟨x, t, rfl, rfl⟩ := h
    obtain ⟨y, u, rfl, rfl⟩ := h'
    rw [cpl_len, cpl_len] at hz
    exact SBL.add (fun t' k _ => hq _ k ⟨x ++ y, t', rfl, cpl_app x y⟩) (by rw [sizeLine_eq]; omega)
  | true =>
    obtain ⟨x, t, rfl, rfl⟩ := h
    obtain ⟨y, u, rfl, rfl⟩ := h'
    rw [nats_len, nats_len] at hz
    refine KBy.add_bytes (by omega) fun t' k => hq _ k ⟨x ++ y, t', rfl, ?_⟩
    unfold nats; simp
end
theorem spl_plen {c : Nat} : ∀ {l p : List Nat}, p ∈ spl c l → p.length ≤ l.length
  | [], p, h => by rw [show p = [] by simpa [spl] using h]; exact Nat.le_refl _
  | a :: l, p, h => by
    unfold spl at h
    by_cases ha : a = c
    · rw [if_pos ha] at h
      rcases List.mem_cons.mp h with rfl | h
      · simp
      · have := spl_plen h; simp only [List.length_cons]; omega
    · rw [if_neg ha] at h
      cases hs : spl c l with
      | nil => exact absurd hs (spl_ne c l)
      | cons q r =>
        rw [hs] at h
        rcases List.mem_cons.mp h with rfl | h
        · have := spl_plen (show q ∈ spl c l by rw [hs]; exact .head _)
          simp only [List.length_cons]; omega
        · have := spl_plen (show p ∈ spl c l by rw [hs]; exact .tail _ h)
          simp only [List.length_cons]; omega
theorem names_plen {l p : List Nat} (h : p ∈ namesF l) : p.length ≤ l.length := by
  unfold namesF at h
  have key : ∀ q ∈ namF l, q.length ≤ l.length := fun q hq => spl_plen (List.mem_filter.mp hq).1
  split at h
  · rcases List.mem_append.mp h with h | h
    · exact key p h
    · rw [List.mem_singleton.mp h]; simp
  · exact key p h
theorem lensL_bound {B : Nat} : ∀ {xs : List (List Nat)}, (∀ x ∈ xs, x.length ≤ B) → lensL xs ≤ xs.length * (B + 1)
  | [], _ => by simp [lensL]
  | x :: xs, h => by
    have ih := lensL_bound fun y hy => h y (.tail _ hy)
    have h1 := h x (.head _)
    have h3 : lensL (x :: xs) = (x.length + 1) + lensL xs := by simp [lensL]
    rw [h3, List.length_cons, Nat.succ_mul]; omega
def rootsF (l : List Nat) : List (List Nat) := (namesF l).map fun p => p.take (sxt p)
theorem front_len (l : List Nat) : (frontF l).length ≤ l.length := by
  unfold frontF
  have := congrArg List.length (List.takeWhile_append_dropWhile (p := fun a : Nat => decide (a = 47)) (l := l))
  rw [List.length_append] at this; omega
theorem fold_len {l : List Nat} {rs : List (List Nat)} (i : Nat) (hl : l.length ≤ 126) (hr : ∀ r ∈ rs, r.length ≤ 126) (hn : rs.length ≤ 126) : ((rs.take i).foldl (jL 47) (frontF l)).length ≤ 20000 := by
  have h1 := joinL_len 47 (frontF l) (rs.take i)
  have h2 := front_len l
  have h3 := lensL_bound (B := 126) (xs := rs.take i) fun x hx => hr x (List.mem_of_mem_take hx)
  have h4 : (rs.take i).length ≤ 126 := by rw [List.length_take]; omega
  have h5 : (rs.take i).length * (126 + 1) ≤ 126 * 127 := Nat.mul_le_mul_right 127 h4
  unfold joinL at h1
  omega
theorem fold_snoc {rs : List (List Nat)} {f r : List Nat} {i : Nat} (h : rs[i]? = some r) : (rs.take (i + 1)).foldl (jL 47) f = jL 47 ((rs.take i).foldl (jL 47) f) r := by
  rw [take_snoc h, List.foldl_append]; rfl
theorem names_step {l : List Nat} {ws : List Str} {i : Nat} {w : Str} (hs : (spl 47 l)[i]? = some (cpl w)) (h : ws.map cpl = ((spl 47 l).take i).filter fun p => decide (p ≠ [])) (hne : cpl w ≠ []) : (ws ++ [w]).map cpl = ((spl 47 l).take (i + 1)).filter fun p => decide (p ≠ []) := by
  rw [take_snoc hs, List.filter_append, List.map_append, h]; simp [hne]
theorem names_skip {l : List Nat} {ws : List Str} {i : Nat} {w : Str} (hs : (spl 47 l)[i]? = some (cpl w)) (h : ws.map cpl = ((spl 47 l).take i).filter fun p => decide (p ≠ [])) (hne : cpl w = []) : ws.map cpl = ((spl 47 l).take (i + 1)).filter fun p => decide (p ≠ []) := by
  rw [take_snoc hs, List.filter_append, h]; simp [hne]
theorem cpl_empty : cpl (Str.ofString "") = [] := by decide
theorem ne_empty (w : Str) : (w != Str.ofString "") = decide (cpl w ≠ []) := by
  rw [bne, str_beq, cpl_empty, Bool.eq_iff_iff]; simp
theorem tw_take {α : Type} (l : List α) (p : α → Bool) : l.take (l.length - (l.dropWhile p).length) = l.takeWhile p := by
  have h := List.takeWhile_append_dropWhile (p := p) (l := l)
  generalize l.takeWhile p = a at *
  generalize l.dropWhile p = b at *
  rw [← h, List.length_append, Nat.add_sub_cancel, List.take_left' rfl]
theorem front_txt (x : Str) : cpl (Txt.slice x none (some ((x.length : Int) - ((Txt.lstripChars x (Str.ofString "/")).length : Int)))) = frontF (cpl x) := by
  have e1 : (Txt.lstripChars x (Str.ofString "/")).length = ((cpl x).dropWhile fun a => decide (a = 47)).length := by
    rw [show Str.ofString "/" = ch 47 from by decide, ← cpl_len, cpl_lstrip]
  have e2 := dw_len (fun a : Nat => decide (a = 47)) (cpl x)
  rw [e1, ← cpl_len x, show ((cpl x).length : Int) - ((((cpl x).dropWhile fun a => decide (a = 47)).length : Nat) : Int) = (((cpl x).length - ((cpl x).dropWhile fun a => decide (a = 47)).length : Nat) : Int) by omega, cpl_take, tw_take]
  rfl
theorem last_slash {x : Str} (h : 1 ≤ x.length) : (Txt.item x (-1) == Str.ofString "/") = decide ((cpl x).getLast? = some 47) := by
  have e := PyProof.Rows.item_closes_neg (x := x) (i := -1) (j := -1 + (x.length : Int)) (by omega) (by omega) rfl
  rw [str_beq, beq_iff_eq] at e
  rw [str_beq, e, List.getLast?_eq_getElem?, cpl_len, show (-1 + (x.length : Int)).toNat = x.length - 1 by omega]
  have hl : x.length - 1 < x.cps.size := by show x.length - 1 < x.length; omega
  have h2 : (cpl x)[x.length - 1]? = some (x.cps.getD (x.length - 1) 0) := by
    show x.cps.toList[x.length - 1]? = _
    rw [Array.getElem?_toList, Array.getD_eq_getD_getElem?, Array.getElem?_eq_getElem hl]; rfl
  rw [h2]
  show ([x.cps.getD (x.length - 1) 0] == [47]) = _
  rw [Bool.eq_iff_iff]; simp
theorem names_end {l : List Nat} {ws : List Str} (h : ws.map cpl = namF l) (h2 : namF l ≠ []) (h3 : l.getLast? = some 47) : (ws ++ [Str.ofString ""]).map cpl = namesF l := by
  rw [namesF, if_pos ⟨h2, h3⟩, List.map_append, h]; rfl
theorem names_same {l : List Nat} {ws : List Str} (h : ws.map cpl = namF l) (h2 : ¬ (namF l ≠ [] ∧ l.getLast? = some 47)) : ws.map cpl = namesF l := by
  rw [namesF, if_neg h2, h]
theorem nam_empty {l : List Nat} {ws : List Str} {ys : List Value} (h : ws.map cpl = namF l) (hs : StrsAre ys ws) : ys.isEmpty = decide (namF l = []) := by
  have e := hs.length
  rw [← h]
  cases ys with
  | nil =>
    have e2 : ws = [] := List.length_eq_zero_iff.mp (by simpa using e.symm)
    rw [e2]; rfl
  | cons a r =>
    cases ws with
    | nil => simp at e
    | cons b q => simp
theorem spl_sub {c a : Nat} : ∀ {l p : List Nat}, p ∈ spl c l → a ∈ p → a ∈ l
  | [], p, h, k => by rw [show p = [] by simpa [spl] using h] at k; exact k
  | b :: l, p, h, k => by
    unfold spl at h
    by_cases ha : b = c
    · rw [if_pos ha] at h
      rcases List.mem_cons.mp h with rfl | h
      · cases k
      · exact .tail _ (spl_sub h k)
    · rw [if_neg ha] at h
      cases hs : spl c l with
      | nil => exact absurd hs (spl_ne c l)
      | cons q r =>
        rw [hs] at h
        rcases List.mem_cons.mp h with rfl | h
        · rcases List.mem_cons.mp k with rfl | k
          · exact .head _
          · exact .tail _ (spl_sub (show q ∈ spl c l by rw [hs]; exact .head _) k)
        · exact .tail _ (spl_sub (show p ∈ spl c l by rw [hs]; exact .tail _ h) k)
theorem names_sub {l p : List Nat} {a : Nat} (h : p ∈ namesF l) (k : a ∈ p) : a ∈ l := by
  unfold namesF at h
  split at h
  · rcases List.mem_append.mp h with h | h
    · exact spl_sub (List.mem_filter.mp h).1 k
    · rw [List.mem_singleton.mp h] at k; cases k
  · exact spl_sub (List.mem_filter.mp h).1 k
theorem front_sub {l : List Nat} {a : Nat} (k : a ∈ frontF l) : a ∈ l := (List.takeWhile_sublist _).subset k
theorem ij_sub {c a : Nat} : ∀ {rs : List (List Nat)}, a ∈ ijoin c rs → a = c ∨ ∃ r ∈ rs, a ∈ r
  | [], h => by cases h
  | [p], h => .inr ⟨p, .head _, h⟩
  | p :: q :: r, h => by
    rcases List.mem_append.mp (show a ∈ p ++ c :: ijoin c (q :: r) from h) with h | h
    · exact .inr ⟨p, .head _, h⟩
    rcases List.mem_cons.mp h with h | h
    · exact .inl h
    rcases ij_sub h with h | ⟨z, hz, h⟩
    · exact .inl h
    · exact .inr ⟨z, .tail _ hz, h⟩
theorem ij_len {c B : Nat} : ∀ {rs : List (List Nat)}, (∀ r ∈ rs, r.length ≤ B) → (ijoin c rs).length ≤ rs.length * (B + 1)
  | [], _ => by simp [ijoin]
  | [p], h => by have := h p (.head _); simp [ijoin]; omega
  | p :: q :: r, h => by
    have h1 := h p (.head _)
    have h2 := ij_len (c := c) (rs := q :: r) fun z hz => h z (.tail _ hz)
    rw [show ijoin c (p :: q :: r) = p ++ c :: ijoin c (q :: r) from rfl, List.length_append, List.length_cons, List.length_cons, Nat.succ_mul]
    omega
theorem cut_int {w : Str} {l : List Nat} (h : cpl w ∈ namesF l) : cutI (cpl w) = (sxt (cpl w) : Int) := (cut_sxt (names_free47 h)).1
theorem cut_head {w : Str} {l : List Nat} (h : cpl w ∈ namesF l) : cpl (Txt.slice w none (some (cutI (cpl w)))) = (cpl w).take (sxt (cpl w)) := by
  rw [cut_int h, cpl_take]
theorem cut_tail {w : Str} {l : List Nat} (h : cpl w ∈ namesF l) : cpl (Txt.slice w (some (cutI (cpl w))) none) = (cpl w).drop (sxt (cpl w)) := by
  rw [cut_int h, cpl_drop]
theorem roots_step {l : List Nat} {ws rs : List Str} {i : Nat} {w r : Str} (hw : ws.map cpl = namesF l) (hi : ws[i]? = some w) (h : rs.map cpl = (rootsF l).take i) (hr : cpl r = (cpl w).take (sxt (cpl w))) : (rs ++ [r]).map cpl = (rootsF l).take (i + 1) := by
  have h2 : (rootsF l)[i]? = some (cpl r) := by
    unfold rootsF
    rw [← hw, List.getElem?_map, List.getElem?_map, hi, hr]; rfl
  rw [take_snoc h2, List.map_append, h]; rfl
end
end Mine
namespace Mine
set_option maxHeartbeats 8000000 in
open_top hd for PySem.Challenge.rw_ko0128_04
end Mine
namespace Mine
open PySem.Calls
local macro_rules | `(tactic| walk_at $s:str) => `(tactic| k_extra $s)
local macro_rules | `(tactic| k_room) => `(tactic| ((try simp only [depth_under_make, depth_under_kw, depth_in1, depth_deeper]); (try unfold recursionLimit); omega))
section
theorem fill_C1 (w : World) (h : Heap) : PySem.Challenge.rw_ko0128_04.Holds → (Mine.hd.heap_39 w.params).In h → True := by
  w_top off
  k_with_none
  (k_with "MY top" => first | assumption | exact Top.keeps (by assumption) (Fr.keep (by assumption)))
  (k_with "MY enter" => (refine wpAny_call ?_; (refine' enterK ?kzk1z ?kzk2z ?kzk3z ?kzk4z ?kzk5z ?kzk6z ?kzk7z ?_ ?kzk8z ?kzk9z ?kzk10z ?kzk11z; (case kzk1z => assumption); (case kzk2z => assumption); (case kzk3z => k_room); (case kzk4z => k_is); (case kzk5z => k_is); (case kzk6z => first | exact BindsTo.of_eq rfl | exact binds_K (by k_in) rfl (by k_is) rfl rfl rfl); (case kzk7z => exact locs rfl); (case kzk8z => decide); (case kzk9z => exact rfl); (case kzk10z => exact rfl); (case kzk11z => exact rfl); k_whole; intro LZq hZq FZq NZq; (try dsimp only); (try k_fold))))
  (k_with "call type:type" => (k_here; (with_reducible show wpAny _ _ (call (Value.type "type") [Value.bytes _ _]) _ _ _); refine call_type_of (Tx := "bytes") rfl (by decide) ?_))
  (k_with "call builtin:issubclass" => (k_here; refine call_isub (by first | exact .inl rfl | exact .inr rfl) (News.get (by k_asm) (by k_mem)) ?_))
  (k_with "MY same" => (intro y hy; (try dsimp only); repeat (first | exact rfl | (refine (if_neg ?kzhz).trans ?_; (case kzhz => first | (intro e; subst e; exact absurd hy (by decide)) | (intro e; rw [hy] at e; cases e))))))
  (k_with "assign Tuple" => (k_here; (with_reducible show wpAny _ _ (assign (Expr.Tuple _ _ _) _ (Value.ref _)) _ _ _); k_dflt (refine' kun_list ?kzk1z ?kzk2z ?kzk3z ?kzk4z ?kzk5z ?kzk6z ?_; (case kzk1z => k_asm); (case kzk2z => k_asm); (case kzk3z => kun_lst); (case kzk4z => first | exact rfl | assumption); (case kzk5z => exact rfl); (case kzk6z => exact rfl); k_whole); intro hZq FZq NZq; (try k_sweep)))
  (k_with "assign Tuple" => (k_here; (with_reducible show wpAny _ _ (assign (Expr.Tuple _ _ _) _ (Value.ref _)) _ _ _); k_dflt (refine' unpackN_ ?kzk1z ?kzk2z ?kzk3z ?kzk4z ?kzk5z ?kzk6z ?_; (case kzk1z => k_asm); (case kzk2z => k_asm); (case kzk3z => kun_tup); (case kzk4z => first | exact rfl | assumption); (case kzk5z => exact rfl); (case kzk6z => exact rfl); k_whole); intro hZq FZq NZq; (try k_sweep)))
  (k_with "MY hideT" => (refine hide_post (m := execs _ _) ?_; intro kTE kTEh))
  (k_with "MY hideW" => (intro kWT kWZ kWTh kWZh))
  (k_with "MY showT" => (rename Hid (TurnEnd _ _ _ _ _ _ _) _ => kTEh; refine kTEh _ _ ?_))
  (k_with "MY showW" => (rename Hid (WTurn _ _ _ _ _ _) _ => kWTh; refine kWTh _ _ ?_))
  (k_with "MY showZ" => (rename (∀ s : Shared, _ → _) => kWZh; refine kWZh _ ?_))
  k_fill
  intros; trivial
set_option maxHeartbeats 8000000
section
variable {w : World} {A : Around} {mg mb : Str → Option Value} {mean : ExcName → Option Value} {loose : List Str} {s : Shared} {Q : Value → Shared → Prop} {E : Value → Shared → Prop}
theorem fspath_str {x : Str} {t : Tok} (X : (Mine.hd.heap_39 w.params).In s.heap) (T : Top Mine.hd.view_39 loose mean mg mb s.heap) (hd : A.depth ≤ 560)
    (h : ∀ h' tk, Kp s.heap h' → Q (.str x t) { s with heap := h', toks := tk }) : wpAny (model PySem.Challenge.rw_ko0128_04.row.prog w) A (call (.ref 101) [.str x t]) Q E s := by
  walk_at "MY enter"
  k_steps
  exact h _ _ (Fr.keep (by k_asm))
theorem fspath_bytes {x : Array UInt8} {t : Tok} (X : (Mine.hd.heap_39 w.params).In s.heap) (T : Top Mine.hd.view_39 loose mean mg mb s.heap) (hd : A.depth ≤ 560)
    (h : ∀ h' tk, Kp s.heap h' → Q (.bytes x t) { s with heap := h', toks := tk }) : wpAny (model PySem.Challenge.rw_ko0128_04.row.prog w) A (call (.ref 101) [.bytes x t]) Q E s := by
  walk_at "MY enter"
  k_steps
  exact h _ _ (Fr.keep (by k_asm))
theorem getsep_str {x : Str} {t : Tok} (X : (Mine.hd.heap_39 w.params).In s.heap) (T : Top Mine.hd.view_39 loose mean mg mb s.heap) (hd : A.depth ≤ 560)
    (h : ∀ h' tk u, Kp s.heap h' → Q (.str (Str.ofString "/") u) { s with heap := h', toks := tk }) : wpAny (model PySem.Challenge.rw_ko0128_04.row.prog w) A (call (.ref 122) [.str x t]) Q E s := by
  walk_at "MY enter"
  k_steps
  exact h _ _ _ (Fr.keep (by k_asm))
theorem getsep_bytes {x : Array UInt8} {t : Tok} (X : (Mine.hd.heap_39 w.params).In s.heap) (T : Top Mine.hd.view_39 loose mean mg mb s.heap) (hd : A.depth ≤ 560)
    (h : ∀ h' tk u, Kp s.heap h' → Q (.bytes #[47] u) { s with heap := h', toks := tk }) : wpAny (model PySem.Challenge.rw_ko0128_04.row.prog w) A (call (.ref 122) [.bytes x t]) Q E s := by
  walk_at "MY enter"
  k_steps
  exact h _ _ _ (Fr.keep (by k_asm))
end
end
section
theorem fill_C2 (w : World) (h : Heap) : PySem.Challenge.rw_ko0128_04.Holds → (Mine.hd.heap_39 w.params).In h → True := by
  w_top off
  k_with_none
  (k_with "MY top" => first | assumption | exact Top.keeps (by assumption) (Fr.keep (by assumption)))
  (k_with "MY enter" => (refine wpAny_call ?_; (refine' enterK ?kzk1z ?kzk2z ?kzk3z ?kzk4z ?kzk5z ?kzk6z ?kzk7z ?_ ?kzk8z ?kzk9z ?kzk10z ?kzk11z; (case kzk1z => assumption); (case kzk2z => assumption); (case kzk3z => k_room); (case kzk4z => k_is); (case kzk5z => k_is); (case kzk6z => first | exact BindsTo.of_eq rfl | exact binds_K (by k_in) rfl (by k_is) rfl rfl rfl); (case kzk7z => exact locs rfl); (case kzk8z => decide); (case kzk9z => exact rfl); (case kzk10z => exact rfl); (case kzk11z => exact rfl); k_whole; intro LZq hZq FZq NZq; (try dsimp only); (try k_fold))))
  (k_with "call type:type" => (k_here; (with_reducible show wpAny _ _ (call (Value.type "type") [Value.bytes _ _]) _ _ _); refine call_type_of (Tx := "bytes") rfl (by decide) ?_))
  (k_with "call builtin:issubclass" => (k_here; refine call_isub (by first | exact .inl rfl | exact .inr rfl) (News.get (by k_asm) (by k_mem)) ?_))
  (k_with "MY same" => (intro y hy; (try dsimp only); repeat (first | exact rfl | (refine (if_neg ?kzhz).trans ?_; (case kzhz => first | (intro e; subst e; exact absurd hy (by decide)) | (intro e; rw [hy] at e; cases e))))))
  (k_with "assign Tuple" => (k_here; (with_reducible show wpAny _ _ (assign (Expr.Tuple _ _ _) _ (Value.ref _)) _ _ _); k_dflt (refine' kun_list ?kzk1z ?kzk2z ?kzk3z ?kzk4z ?kzk5z ?kzk6z ?_; (case kzk1z => k_asm); (case kzk2z => k_asm); (case kzk3z => kun_lst); (case kzk4z => first | exact rfl | assumption); (case kzk5z => exact rfl); (case kzk6z => exact rfl); k_whole); intro hZq FZq NZq; (try k_sweep)))
  (k_with "assign Tuple" => (k_here; (with_reducible show wpAny _ _ (assign (Expr.Tuple _ _ _) _ (Value.ref _)) _ _ _); k_dflt (refine' unpackN_ ?kzk1z ?kzk2z ?kzk3z ?kzk4z ?kzk5z ?kzk6z ?_; (case kzk1z => k_asm); (case kzk2z => k_asm); (case kzk3z => kun_tup); (case kzk4z => first | exact rfl | assumption); (case kzk5z => exact rfl); (case kzk6z => exact rfl); k_whole); intro hZq FZq NZq; (try k_sweep)))
  (k_with "MY hideT" => (refine hide_post (m := execs _ _) ?_; intro kTE kTEh))
  (k_with "MY hideW" => (intro kWT kWZ kWTh kWZh))
  (k_with "MY showT" => (rename Hid (TurnEnd _ _ _ _ _ _ _) _ => kTEh; refine kTEh _ _ ?_))
  (k_with "MY showW" => (rename Hid (WTurn _ _ _ _ _ _) _ => kWTh; refine kWTh _ _ ?_))
  (k_with "MY showZ" => (rename (∀ s : Shared, _ → _) => kWZh; refine kWZh _ ?_))
  (k_with "MY back" => (rename Fr _ _ _ _ => kFZq; rename News _ _ _ _ => kNZq; rename Kp _ _ => hkZq; replace kFZq := Fr.grownK kFZq hkZq; replace kNZq := News.grown kNZq hkZq; clear hkZq))
  (k_with "MY prem" => ((case kzXz => k_in); (case kzTz => walk_at "MY top"); (case kzdz => k_room); k_whole))
  (k_with "call ref" => (k_here; (with_reducible show wpAny _ _ (call (Value.ref 101) [Value.str _ _]) _ _ _); refine' fspath_str ?kzXz ?kzTz ?kzdz ?_; walk_at "MY prem"; intro hZq tkZq hkZq; walk_at "MY back"))
  (k_with "call ref" => (k_here; (with_reducible show wpAny _ _ (call (Value.ref 101) [Value.bytes _ _]) _ _ _); refine' fspath_bytes ?kzXz ?kzTz ?kzdz ?_; walk_at "MY prem"; intro hZq tkZq hkZq; walk_at "MY back"))
  (k_with "call ref" => (k_here; (with_reducible show wpAny _ _ (call (Value.ref 122) [Value.str _ _]) _ _ _); refine' getsep_str ?kzXz ?kzTz ?kzdz ?_; walk_at "MY prem"; intro hZq tkZq uZq hkZq; walk_at "MY back"))
  (k_with "call ref" => (k_here; (with_reducible show wpAny _ _ (call (Value.ref 122) [Value.bytes _ _]) _ _ _); refine' getsep_bytes ?kzXz ?kzTz ?kzdz ?_; walk_at "MY prem"; intro hZq tkZq uZq hkZq; walk_at "MY back"))
  k_fill
  intros; trivial
set_option maxHeartbeats 8000000
section
variable {w : World} {A : Around} {mg mb : Str → Option Value} {mean : ExcName → Option Value} {loose : List Str} {s : Shared} {Q : Value → Shared → Prop} {E : Value → Shared → Prop}
theorem join_str {x : Str} {t : Tok} {vs : List Value} {xs : List Str} (X : (Mine.hd.heap_39 w.params).In s.heap) (T : Top Mine.hd.view_39 loose mean mg mb s.heap) (hd : A.depth ≤ 550) (hh : A.handled = none)
    (hv : Al RStr vs xs) (hz : x.length + lens xs ≤ 1000000) 
    (h : ∀ h' tk u, Kp s.heap h' → Q (.str (joinS x xs) u) { s with heap := h', toks := tk }) : wpAny (model PySem.Challenge.rw_ko0128_04.row.prog w) A (call (.ref 129) (.str x t :: vs)) Q E s := by
  have hlen : vs.length ≤ sizeLine := by have := lens_ge xs; rw [hv.1, sizeLine_eq]; omega
  refine wpAny_call ?_
  (refine' enterR (vs := vs) ?k1 ?k2 ?k3 ?k4 ?k5 ?k6 hlen ?k7 ?_ ?k8 ?k9 ?k10 ?k11; (case k1 => assumption); (case k2 => assumption); (case k3 => k_room); (case k4 => k_is); (case k5 => k_is); (case k6 => exact bind_rest1); (case k7 => intro D; exact locs rfl); (case k8 => decide); (case k9 => exact rfl); (case k10 => exact rfl); (case k11 => exact rfl); k_whole; intro D L' h' hDL F' N'; (try dsimp only); (try k_fold))
  k_steps
  rename Fr _ _ _ _ => F1
  rename News _ _ _ _ => N1
  refine for_tupS (J := fun m0 i m nx => nx = [(D, { cls := .type "tuple", data := .seq vs.toArray })] ∧ ∃ p tp, m "path" = some (.str p tp) ∧ Same ["path", "b"] m m0 ∧ p = joinS x (xs.take i)) hh F1 N1 ⟨_, (N1 _ (.head _)).1, rfl, _, rfl⟩ (N1 _ (.head _)).2.1 ⟨rfl, x, t, rfl, Same.refl, rfl⟩ ?_ ?_
  · rintro I i v m1 nx h1 tk1 own hi hI hnx ⟨rfl, p, tp, g1, g2, hp⟩ F2 N2
    obtain ⟨a, ha, ta, rfl⟩ := hv.2 i v hi
    rw [map1 g1 g2] at F2
    dsimp only at F2
    clear F1 N1
    have e1 := take_snoc ha
    have e2 : p.length + (a.length + 1) ≤ 1000000 := by
      have q1 := joinS_len x (xs.take i)
      have q2 := lens_take xs (i + 1)
      rw [e1, lens_snoc] at q2
      rw [hp]; omega
    have e3 : p.length ≤ 1000000 := by omega
    have e4 : a.length ≤ 1000000 := by omega
    walk_at "MY hideT"
    k_steps
    all_goals (
      walk_at "MY showT"
      refine' ⟨_, _, _, _, rfl, by k_asm, by k_asm, hnx, rfl, _, _, rfl, ?_, ?_⟩
      · walk_at "MY same"
      · rw [e1, joinS_snoc, ← hp]; unfold jstep sl; simp_all)
  · rintro m1 nx h1 tk1 ⟨rfl, p, tp, g1, g2, hp⟩ F2 N2
    rw [map1 g1 g2] at F2
    dsimp only at F2
    clear F1 N1
    k_steps
    have e1 : xs.take vs.length = xs := by rw [hv.1, List.take_length]
    rw [e1] at hp
    subst hp
    exact h _ _ _ F2.keep
end
end
section
theorem fill_C3 (w : World) (h : Heap) : PySem.Challenge.rw_ko0128_04.Holds → (Mine.hd.heap_39 w.params).In h → True := by
  w_top off
  k_with_none
  (k_with "MY top" => first | assumption | exact Top.keeps (by assumption) (Fr.keep (by assumption)))
  (k_with "MY enter" => (refine wpAny_call ?_; (refine' enterK ?kzk1z ?kzk2z ?kzk3z ?kzk4z ?kzk5z ?kzk6z ?kzk7z ?_ ?kzk8z ?kzk9z ?kzk10z ?kzk11z; (case kzk1z => assumption); (case kzk2z => assumption); (case kzk3z => k_room); (case kzk4z => k_is); (case kzk5z => k_is); (case kzk6z => first | exact BindsTo.of_eq rfl | exact binds_K (by k_in) rfl (by k_is) rfl rfl rfl); (case kzk7z => exact locs rfl); (case kzk8z => decide); (case kzk9z => exact rfl); (case kzk10z => exact rfl); (case kzk11z => exact rfl); k_whole; intro LZq hZq FZq NZq; (try dsimp only); (try k_fold))))
  (k_with "call type:type" => (k_here; (with_reducible show wpAny _ _ (call (Value.type "type") [Value.bytes _ _]) _ _ _); refine call_type_of (Tx := "bytes") rfl (by decide) ?_))
  (k_with "call builtin:issubclass" => (k_here; refine call_isub (by first | exact .inl rfl | exact .inr rfl) (News.get (by k_asm) (by k_mem)) ?_))
  (k_with "MY same" => (intro y hy; (try dsimp only); repeat (first | exact rfl | (refine (if_neg ?kzhz).trans ?_; (case kzhz => first | (intro e; subst e; exact absurd hy (by decide)) | (intro e; rw [hy] at e; cases e))))))
  (k_with "assign Tuple" => (k_here; (with_reducible show wpAny _ _ (assign (Expr.Tuple _ _ _) _ (Value.ref _)) _ _ _); k_dflt (refine' kun_list ?kzk1z ?kzk2z ?kzk3z ?kzk4z ?kzk5z ?kzk6z ?_; (case kzk1z => k_asm); (case kzk2z => k_asm); (case kzk3z => kun_lst); (case kzk4z => first | exact rfl | assumption); (case kzk5z => exact rfl); (case kzk6z => exact rfl); k_whole); intro hZq FZq NZq; (try k_sweep)))
  (k_with "assign Tuple" => (k_here; (with_reducible show wpAny _ _ (assign (Expr.Tuple _ _ _) _ (Value.ref _)) _ _ _); k_dflt (refine' unpackN_ ?kzk1z ?kzk2z ?kzk3z ?kzk4z ?kzk5z ?kzk6z ?_; (case kzk1z => k_asm); (case kzk2z => k_asm); (case kzk3z => kun_tup); (case kzk4z => first | exact rfl | assumption); (case kzk5z => exact rfl); (case kzk6z => exact rfl); k_whole); intro hZq FZq NZq; (try k_sweep)))
  (k_with "MY hideT" => (refine hide_post (m := execs _ _) ?_; intro kTE kTEh))
  (k_with "MY hideW" => (intro kWT kWZ kWTh kWZh))
  (k_with "MY showT" => (rename Hid (TurnEnd _ _ _ _ _ _ _) _ => kTEh; refine kTEh _ _ ?_))
  (k_with "MY showW" => (rename Hid (WTurn _ _ _ _ _ _) _ => kWTh; refine kWTh _ _ ?_))
  (k_with "MY showZ" => (rename (∀ s : Shared, _ → _) => kWZh; refine kWZh _ ?_))
  (k_with "MY back" => (rename Fr _ _ _ _ => kFZq; rename News _ _ _ _ => kNZq; rename Kp _ _ => hkZq; replace kFZq := Fr.grownK kFZq hkZq; replace kNZq := News.grown kNZq hkZq; clear hkZq))
  (k_with "MY prem" => ((case kzXz => k_in); (case kzTz => walk_at "MY top"); (case kzdz => k_room); k_whole))
  (k_with "call ref" => (k_here; (with_reducible show wpAny _ _ (call (Value.ref 101) [Value.str _ _]) _ _ _); refine' fspath_str ?kzXz ?kzTz ?kzdz ?_; walk_at "MY prem"; intro hZq tkZq hkZq; walk_at "MY back"))
  (k_with "call ref" => (k_here; (with_reducible show wpAny _ _ (call (Value.ref 101) [Value.bytes _ _]) _ _ _); refine' fspath_bytes ?kzXz ?kzTz ?kzdz ?_; walk_at "MY prem"; intro hZq tkZq hkZq; walk_at "MY back"))
  (k_with "call ref" => (k_here; (with_reducible show wpAny _ _ (call (Value.ref 122) [Value.str _ _]) _ _ _); refine' getsep_str ?kzXz ?kzTz ?kzdz ?_; walk_at "MY prem"; intro hZq tkZq uZq hkZq; walk_at "MY back"))
  (k_with "call ref" => (k_here; (with_reducible show wpAny _ _ (call (Value.ref 122) [Value.bytes _ _]) _ _ _); refine' getsep_bytes ?kzXz ?kzTz ?kzdz ?_; walk_at "MY prem"; intro hZq tkZq uZq hkZq; walk_at "MY back"))
  (k_with "getMethod bytes" => (k_here; first | with_reducible refine by_starts_m ?_ | with_reducible refine by_ends_m ?_))
  (k_with "call builtin:bytes.startswith" => (k_here; refine by_starts ?_))
  (k_with "call builtin:bytes.endswith" => (k_here; refine by_ends ?_))
  (k_with "truthy bytes" => (k_here; refine truthy_b (by first | omega | (simp only [List.size_toArray]; omega)) ?_))
  (k_with "binaryOp Add bytes bytes" => (k_here; refine KBy.add_bytes (by (try simp only [Array.size_append]); (try rw [show (#[47] : Array UInt8).size = 1 from rfl]); omega) ?_; intro tZq kZq))
  (k_with "inplaceOp Add bytes bytes" => (k_here; refine iadd_bytes (by (try simp only [Array.size_append]); (try rw [show (#[47] : Array UInt8).size = 1 from rfl]); omega) ?_; intro tZq kZq))
  k_fill
  intros; trivial
set_option maxHeartbeats 8000000
section
variable {w : World} {A : Around} {mg mb : Str → Option Value} {mean : ExcName → Option Value} {loose : List Str} {s : Shared} {Q : Value → Shared → Prop} {E : Value → Shared → Prop}
theorem join_bytes {x : Array UInt8} {t : Tok} {vs : List Value} {xs : List (Array UInt8)} (X : (Mine.hd.heap_39 w.params).In s.heap) (T : Top Mine.hd.view_39 loose mean mg mb s.heap) (hd : A.depth ≤ 550) (hh : A.handled = none)
    (hv : Al RByt vs xs) (hz : x.size + lensL (xs.map Array.toList) ≤ 1000000) 
    (h : ∀ h' tk u P, Kp s.heap h' → P.toList = joinL 47 x.toList (xs.map Array.toList) → Q (.bytes P u) { s with heap := h', toks := tk }) : wpAny (model PySem.Challenge.rw_ko0128_04.row.prog w) A (call (.ref 129) (.bytes x t :: vs)) Q E s := by
  have hlen : vs.length ≤ sizeLine := by have := lensL_ge (xs.map Array.toList); rw [List.length_map] at this; rw [hv.1, sizeLine_eq]; omega
  refine wpAny_call ?_
  (refine' enterR (vs := vs) ?k1 ?k2 ?k3 ?k4 ?k5 ?k6 hlen ?k7 ?_ ?k8 ?k9 ?k10 ?k11; (case k1 => assumption); (case k2 => assumption); (case k3 => k_room); (case k4 => k_is); (case k5 => k_is); (case k6 => exact bind_rest1); (case k7 => intro D; exact locs rfl); (case k8 => decide); (case k9 => exact rfl); (case k10 => exact rfl); (case k11 => exact rfl); k_whole; intro D L' h' hDL F' N'; (try dsimp only); (try k_fold))
  k_steps
  rename Fr _ _ _ _ => F1
  rename News _ _ _ _ => N1
  refine for_tupS (J := fun m0 i m nx => nx = [(D, { cls := .type "tuple", data := .seq vs.toArray })] ∧ ∃ p tp, m "path" = some (.bytes p tp) ∧ Same ["path", "b"] m m0 ∧ p.toList = joinL 47 x.toList ((xs.map Array.toList).take i)) hh F1 N1 ⟨_, (N1 _ (.head _)).1, rfl, _, rfl⟩ (N1 _ (.head _)).2.1 ⟨rfl, x, t, rfl, Same.refl, rfl⟩ ?_ ?_
  · rintro I i v m1 nx h1 tk1 own hi hI hnx ⟨rfl, p, tp, g1, g2, hp⟩ F2 N2
    obtain ⟨a, ha, ta, rfl⟩ := hv.2 i v hi
    rw [map1 g1 g2] at F2
    dsimp only at F2
    clear F1 N1
    have ha' : (xs.map Array.toList)[i]? = some a.toList := by rw [List.getElem?_map, ha]; rfl
    have e1 := take_snoc ha'
    have e2 : p.size + (a.size + 1) ≤ 1000000 := by
      have q1 := joinL_len 47 x.toList ((xs.map Array.toList).take i)
      have q2 := lensL_take (xs.map Array.toList) (i + 1)
      rw [e1, lensL_snoc] at q2
      rw [← hp] at q1
      simp only [Array.length_toList] at q1 q2
      omega
    have e3 : p.size ≤ 1000000 := by omega
    have e4 : a.size ≤ 1000000 := by omega
    walk_at "MY hideT"
    k_steps
    all_goals (
      walk_at "MY showT"
      refine' ⟨_, _, _, _, rfl, by k_asm, by k_asm, hnx, rfl, _, _, rfl, ?_, ?_⟩
      · walk_at "MY same"
      · rw [e1, joinL_snoc, ← hp]; unfold jL; simp_all)
  · rintro m1 nx h1 tk1 ⟨rfl, p, tp, g1, g2, hp⟩ F2 N2
    rw [map1 g1 g2] at F2
    dsimp only at F2
    clear F1 N1
    k_steps
    have e1 : (xs.map Array.toList).take vs.length = xs.map Array.toList := by rw [hv.1, ← List.length_map (f := Array.toList), List.take_length]
    rw [e1] at hp
    exact h _ _ _ _ F2.keep hp
end
end
section
theorem fill_C4 (w : World) (h : Heap) : PySem.Challenge.rw_ko0128_04.Holds → (Mine.hd.heap_39 w.params).In h → True := by
  w_top off
  k_with_none
  (k_with "MY top" => first | assumption | exact Top.keeps (by assumption) (Fr.keep (by assumption)))
  (k_with "MY enter" => (refine wpAny_call ?_; (refine' enterK ?kzk1z ?kzk2z ?kzk3z ?kzk4z ?kzk5z ?kzk6z ?kzk7z ?_ ?kzk8z ?kzk9z ?kzk10z ?kzk11z; (case kzk1z => assumption); (case kzk2z => assumption); (case kzk3z => k_room); (case kzk4z => k_is); (case kzk5z => k_is); (case kzk6z => first | exact BindsTo.of_eq rfl | exact binds_K (by k_in) rfl (by k_is) rfl rfl rfl); (case kzk7z => exact locs rfl); (case kzk8z => decide); (case kzk9z => exact rfl); (case kzk10z => exact rfl); (case kzk11z => exact rfl); k_whole; intro LZq hZq FZq NZq; (try dsimp only); (try k_fold))))
  (k_with "call type:type" => (k_here; (with_reducible show wpAny _ _ (call (Value.type "type") [Value.bytes _ _]) _ _ _); refine call_type_of (Tx := "bytes") rfl (by decide) ?_))
  (k_with "call builtin:issubclass" => (k_here; refine call_isub (by first | exact .inl rfl | exact .inr rfl) (News.get (by k_asm) (by k_mem)) ?_))
  (k_with "MY same" => (intro y hy; (try dsimp only); repeat (first | exact rfl | (refine (if_neg ?kzhz).trans ?_; (case kzhz => first | (intro e; subst e; exact absurd hy (by decide)) | (intro e; rw [hy] at e; cases e))))))
  (k_with "assign Tuple" => (k_here; (with_reducible show wpAny _ _ (assign (Expr.Tuple _ _ _) _ (Value.ref _)) _ _ _); k_dflt (refine' kun_list ?kzk1z ?kzk2z ?kzk3z ?kzk4z ?kzk5z ?kzk6z ?_; (case kzk1z => k_asm); (case kzk2z => k_asm); (case kzk3z => kun_lst); (case kzk4z => first | exact rfl | assumption); (case kzk5z => exact rfl); (case kzk6z => exact rfl); k_whole); intro hZq FZq NZq; (try k_sweep)))
  (k_with "assign Tuple" => (k_here; (with_reducible show wpAny _ _ (assign (Expr.Tuple _ _ _) _ (Value.ref _)) _ _ _); k_dflt (refine' unpackN_ ?kzk1z ?kzk2z ?kzk3z ?kzk4z ?kzk5z ?kzk6z ?_; (case kzk1z => k_asm); (case kzk2z => k_asm); (case kzk3z => kun_tup); (case kzk4z => first | exact rfl | assumption); (case kzk5z => exact rfl); (case kzk6z => exact rfl); k_whole); intro hZq FZq NZq; (try k_sweep)))
  (k_with "MY hideT" => (refine hide_post (m := execs _ _) ?_; intro kTE kTEh))
  (k_with "MY hideW" => (intro kWT kWZ kWTh kWZh))
  (k_with "MY showT" => (rename Hid (TurnEnd _ _ _ _ _ _ _) _ => kTEh; refine kTEh _ _ ?_))
  (k_with "MY showW" => (rename Hid (WTurn _ _ _ _ _ _) _ => kWTh; refine kWTh _ _ ?_))
  (k_with "MY showZ" => (rename (∀ s : Shared, _ → _) => kWZh; refine kWZh _ ?_))
  (k_with "MY back" => (rename Fr _ _ _ _ => kFZq; rename News _ _ _ _ => kNZq; rename Kp _ _ => hkZq; replace kFZq := Fr.grownK kFZq hkZq; replace kNZq := News.grown kNZq hkZq; clear hkZq))
  (k_with "MY prem" => ((case kzXz => k_in); (case kzTz => walk_at "MY top"); (case kzdz => k_room); k_whole))
  (k_with "call ref" => (k_here; (with_reducible show wpAny _ _ (call (Value.ref 101) [Value.str _ _]) _ _ _); refine' fspath_str ?kzXz ?kzTz ?kzdz ?_; walk_at "MY prem"; intro hZq tkZq hkZq; walk_at "MY back"))
  (k_with "call ref" => (k_here; (with_reducible show wpAny _ _ (call (Value.ref 101) [Value.bytes _ _]) _ _ _); refine' fspath_bytes ?kzXz ?kzTz ?kzdz ?_; walk_at "MY prem"; intro hZq tkZq hkZq; walk_at "MY back"))
  (k_with "call ref" => (k_here; (with_reducible show wpAny _ _ (call (Value.ref 122) [Value.str _ _]) _ _ _); refine' getsep_str ?kzXz ?kzTz ?kzdz ?_; walk_at "MY prem"; intro hZq tkZq uZq hkZq; walk_at "MY back"))
  (k_with "call ref" => (k_here; (with_reducible show wpAny _ _ (call (Value.ref 122) [Value.bytes _ _]) _ _ _); refine' getsep_bytes ?kzXz ?kzTz ?kzdz ?_; walk_at "MY prem"; intro hZq tkZq uZq hkZq; walk_at "MY back"))
  (k_with "exec While BoolOp cons nil" => (k_here; refine Halt.mk ?_))
  (k_with "exec While Compare cons nil" => (k_here; refine Halt.mk ?_))
  (k_with "MY go" => show wpAny _ _ _ _ _ _)
  (k_with "unpackItems ref" => (k_here; k_dflt (refine' unpackItemsN_ ?kzk1z ?kzk2z ?kzk3z ?kzk4z ?kzk5z ?_; (case kzk1z => k_asm); (case kzk2z => k_asm); (case kzk3z => kun_tup); (case kzk4z => first | exact rfl | assumption); (case kzk5z => exact rfl); k_whole); intro hZq FZq NZq; (try k_sweep)))
  k_fill
  intros; trivial
set_option maxHeartbeats 8000000
theorem ch47 : Str.ofString "/" = ch 47 := by decide
theorem ch46 : Str.ofString "." = ch 46 := by decide
theorem rf_sl (x : Str) : Txt.rfind x (Str.ofString "/") + 1 = (lix 47 (cpl x) : Int) := by rw [ch47, rfind_ch]; omega
theorem sp_tail (x : Str) : cpl (Txt.slice x (some (Txt.rfind x (Str.ofString "/") + 1)) none) = tailF (cpl x) := by rw [rf_sl, cpl_drop]; rfl
theorem sp_head (x : Str) : cpl (Txt.slice x none (some (Txt.rfind x (Str.ofString "/") + 1))) = (cpl x).take (lix 47 (cpl x)) := by rw [rf_sl, cpl_take]
theorem len_int {x : Str} : (x.length : Int) = 0 ↔ cpl x = [] := by
  rw [← cpl_len]; constructor
  · intro h; exact List.eq_nil_of_length_eq_zero (by omega)
  · intro h; rw [h]; rfl
theorem mul_ne (y : Str) : (y != Txt.mul (Str.ofString "/") (y.length : Int)) = decide (cpl y ≠ List.replicate (cpl y).length 47) := by
  rw [bne, str_beq, ch47, cpl_mul, cpl_len, Bool.eq_iff_iff]
  simp
theorem sp_end1 {x : Str} (h : ((Txt.slice x none (some (Txt.rfind x (Str.ofString "/") + 1))).length : Int) = 0) : cpl (Txt.slice x none (some (Txt.rfind x (Str.ofString "/") + 1))) = headF (cpl x) := by
  rw [len_int, sp_head] at h
  rw [sp_head]; unfold headF; rw [if_neg]; exact fun q => q.1 h
theorem sp_end2 {x : Str} (h : (Txt.slice x none (some (Txt.rfind x (Str.ofString "/") + 1)) != Txt.mul (Str.ofString "/") ((Txt.slice x none (some (Txt.rfind x (Str.ofString "/") + 1))).length : Int)) = false) :
    cpl (Txt.slice x none (some (Txt.rfind x (Str.ofString "/") + 1))) = headF (cpl x) := by
  rw [mul_ne, sp_head, decide_eq_false_iff_not] at h
  rw [sp_head]; unfold headF; rw [if_neg]; exact fun q => h q.2
theorem sp_end3 {x : Str} (h0 : ((Txt.slice x none (some (Txt.rfind x (Str.ofString "/") + 1))).length : Int) ≠ 0) (h : (Txt.slice x none (some (Txt.rfind x (Str.ofString "/") + 1)) != Txt.mul (Str.ofString "/") ((Txt.slice x none (some (Txt.rfind x (Str.ofString "/") + 1))).length : Int)) = true) :
    cpl (Txt.rstripChars (Txt.slice x none (some (Txt.rfind x (Str.ofString "/") + 1))) (Str.ofString "/")) = headF (cpl x) := by
  rw [mul_ne, sp_head, decide_eq_true_iff] at h
  rw [Ne, len_int, sp_head] at h0
  rw [ch47, cpl_rstrip, ← ch47, sp_head]; unfold headF; rw [if_pos ⟨h0, h⟩]
section
variable {w : World} {A : Around} {mg mb : Str → Option Value} {mean : ExcName → Option Value} {loose : List Str} {s : Shared} {Q : Value → Shared → Prop} {E : Value → Shared → Prop}
theorem split_s {x : Str} {t : Tok} (X : (Mine.hd.heap_39 w.params).In s.heap) (T : Top Mine.hd.view_39 loose mean mg mb s.heap) (hd : A.depth ≤ 550) (hh : A.handled = none) (hx : x.length ≤ 1000000)
    (h : ∀ h' tk D a b ta tb, Kp s.heap h' → h'.get? D = some { cls := .type "tuple", data := .seq #[.str a ta, .str b tb] } → s.heap.get? D = none → cpl a = headF (cpl x) → cpl b = tailF (cpl x) → Q (.ref D) { s with heap := h', toks := tk }) :
    wpAny (model PySem.Challenge.rw_ko0128_04.row.prog w) A (call (.ref 136) [.str x t]) Q E s := by
  walk_at "MY enter"
  k_steps
  · rename News _ _ _ _ => N1
    exact h _ _ _ _ _ _ _ (Fr.keep (by k_asm)) (N1 _ (.head _)).1 (N1 _ (.head _)).2.2 (sp_end3 (by assumption) (by assumption)) (sp_tail x)
  · rename News _ _ _ _ => N1
    exact h _ _ _ _ _ _ _ (Fr.keep (by k_asm)) (N1 _ (.head _)).1 (N1 _ (.head _)).2.2 (sp_end2 (by assumption)) (sp_tail x)
  · rename News _ _ _ _ => N1
    exact h _ _ _ _ _ _ _ (Fr.keep (by k_asm)) (N1 _ (.head _)).1 (N1 _ (.head _)).2.2 (sp_end1 (by assumption)) (sp_tail x)
end
end
section
theorem fill_C5 (w : World) (h : Heap) : PySem.Challenge.rw_ko0128_04.Holds → (Mine.hd.heap_39 w.params).In h → True := by
  w_top off
  k_with_none
  (k_with "MY top" => first | assumption | exact Top.keeps (by assumption) (Fr.keep (by assumption)))
  (k_with "MY enter" => (refine wpAny_call ?_; (refine' enterK ?kzk1z ?kzk2z ?kzk3z ?kzk4z ?kzk5z ?kzk6z ?kzk7z ?_ ?kzk8z ?kzk9z ?kzk10z ?kzk11z; (case kzk1z => assumption); (case kzk2z => assumption); (case kzk3z => k_room); (case kzk4z => k_is); (case kzk5z => k_is); (case kzk6z => first | exact BindsTo.of_eq rfl | exact binds_K (by k_in) rfl (by k_is) rfl rfl rfl); (case kzk7z => exact locs rfl); (case kzk8z => decide); (case kzk9z => exact rfl); (case kzk10z => exact rfl); (case kzk11z => exact rfl); k_whole; intro LZq hZq FZq NZq; (try dsimp only); (try k_fold))))
  (k_with "call type:type" => (k_here; (with_reducible show wpAny _ _ (call (Value.type "type") [Value.bytes _ _]) _ _ _); refine call_type_of (Tx := "bytes") rfl (by decide) ?_))
  (k_with "call builtin:issubclass" => (k_here; refine call_isub (by first | exact .inl rfl | exact .inr rfl) (News.get (by k_asm) (by k_mem)) ?_))
  (k_with "MY same" => (intro y hy; (try dsimp only); repeat (first | exact rfl | (refine (if_neg ?kzhz).trans ?_; (case kzhz => first | (intro e; subst e; exact absurd hy (by decide)) | (intro e; rw [hy] at e; cases e))))))
  (k_with "assign Tuple" => (k_here; (with_reducible show wpAny _ _ (assign (Expr.Tuple _ _ _) _ (Value.ref _)) _ _ _); k_dflt (refine' kun_list ?kzk1z ?kzk2z ?kzk3z ?kzk4z ?kzk5z ?kzk6z ?_; (case kzk1z => k_asm); (case kzk2z => k_asm); (case kzk3z => kun_lst); (case kzk4z => first | exact rfl | assumption); (case kzk5z => exact rfl); (case kzk6z => exact rfl); k_whole); intro hZq FZq NZq; (try k_sweep)))
  (k_with "assign Tuple" => (k_here; (with_reducible show wpAny _ _ (assign (Expr.Tuple _ _ _) _ (Value.ref _)) _ _ _); k_dflt (refine' unpackN_ ?kzk1z ?kzk2z ?kzk3z ?kzk4z ?kzk5z ?kzk6z ?_; (case kzk1z => k_asm); (case kzk2z => k_asm); (case kzk3z => kun_tup); (case kzk4z => first | exact rfl | assumption); (case kzk5z => exact rfl); (case kzk6z => exact rfl); k_whole); intro hZq FZq NZq; (try k_sweep)))
  (k_with "MY hideT" => (refine hide_post (m := execs _ _) ?_; intro kTE kTEh))
  (k_with "MY hideW" => (intro kWT kWZ kWTh kWZh))
  (k_with "MY showT" => (rename Hid (TurnEnd _ _ _ _ _ _ _) _ => kTEh; refine kTEh _ _ ?_))
  (k_with "MY showW" => (rename Hid (WTurn _ _ _ _ _ _) _ => kWTh; refine kWTh _ _ ?_))
  (k_with "MY showZ" => (rename (∀ s : Shared, _ → _) => kWZh; refine kWZh _ ?_))
  (k_with "MY back" => (rename Fr _ _ _ _ => kFZq; rename News _ _ _ _ => kNZq; rename Kp _ _ => hkZq; replace kFZq := Fr.grownK kFZq hkZq; replace kNZq := News.grown kNZq hkZq; clear hkZq))
  (k_with "MY prem" => ((case kzXz => k_in); (case kzTz => walk_at "MY top"); (case kzdz => k_room); k_whole))
  (k_with "call ref" => (k_here; (with_reducible show wpAny _ _ (call (Value.ref 101) [Value.str _ _]) _ _ _); refine' fspath_str ?kzXz ?kzTz ?kzdz ?_; walk_at "MY prem"; intro hZq tkZq hkZq; walk_at "MY back"))
  (k_with "call ref" => (k_here; (with_reducible show wpAny _ _ (call (Value.ref 101) [Value.bytes _ _]) _ _ _); refine' fspath_bytes ?kzXz ?kzTz ?kzdz ?_; walk_at "MY prem"; intro hZq tkZq hkZq; walk_at "MY back"))
  (k_with "call ref" => (k_here; (with_reducible show wpAny _ _ (call (Value.ref 122) [Value.str _ _]) _ _ _); refine' getsep_str ?kzXz ?kzTz ?kzdz ?_; walk_at "MY prem"; intro hZq tkZq uZq hkZq; walk_at "MY back"))
  (k_with "call ref" => (k_here; (with_reducible show wpAny _ _ (call (Value.ref 122) [Value.bytes _ _]) _ _ _); refine' getsep_bytes ?kzXz ?kzTz ?kzdz ?_; walk_at "MY prem"; intro hZq tkZq uZq hkZq; walk_at "MY back"))
  (k_with "exec While BoolOp cons nil" => (k_here; refine Halt.mk ?_))
  (k_with "exec While Compare cons nil" => (k_here; refine Halt.mk ?_))
  (k_with "MY go" => show wpAny _ _ _ _ _ _)
  (k_with "unpackItems ref" => (k_here; k_dflt (refine' unpackItemsN_ ?kzk1z ?kzk2z ?kzk3z ?kzk4z ?kzk5z ?_; (case kzk1z => k_asm); (case kzk2z => k_asm); (case kzk3z => kun_tup); (case kzk4z => first | exact rfl | assumption); (case kzk5z => exact rfl); k_whole); intro hZq FZq NZq; (try k_sweep)))
  (k_with "getMethod bytes" => (k_here; first | with_reducible refine by_starts_m ?_ | with_reducible refine by_ends_m ?_))
  (k_with "call builtin:bytes.startswith" => (k_here; refine by_starts ?_))
  (k_with "call builtin:bytes.endswith" => (k_here; refine by_ends ?_))
  (k_with "truthy bytes" => (k_here; refine truthy_b (by first | omega | (simp only [List.size_toArray]; omega)) ?_))
  (k_with "binaryOp Add bytes bytes" => (k_here; refine KBy.add_bytes (by (try simp only [Array.size_append]); (try rw [show (#[47] : Array UInt8).size = 1 from rfl]); omega) ?_; intro tZq kZq))
  (k_with "inplaceOp Add bytes bytes" => (k_here; refine iadd_bytes (by (try simp only [Array.size_append]); (try rw [show (#[47] : Array UInt8).size = 1 from rfl]); omega) ?_; intro tZq kZq))
  (k_with "getMethod bytes" => (k_here; first | with_reducible refine by_rfind_m ?_ | with_reducible refine by_rstrip_m ?_))
  (k_with "call builtin:bytes.rfind" => (k_here; refine by_rfind ?_; intro tZq kZq))
  (k_with "call builtin:bytes.rstrip" => (k_here; refine by_rstrip (by first | assumption | omega) ?_; intro tZq kZq bzZq))
  (k_with "subscriptTail Name Slice bytes ref" => (k_here; k_dflt (refine' slice_by ?kzFz ?kzNz ?kzpz ?kzqz ?kzzz ?_ ?kzsz ?kztz; (case kzFz => k_asm); (case kzNz => k_asm); (case kzpz => kmk_part); (case kzqz => kmk_part); (case kzzz => first | assumption | omega); (case kzsz => with_unfolding_all rfl); (case kztz => kmk_pure)); intro hZq tZq kZq FZq NZq bzZq))
  k_fill
  intros; trivial
set_option maxHeartbeats 8000000
theorem rfb (x : Array UInt8) : ((lix 47 x.toList : Nat) : Int) - 1 + 1 = ((lix 47 (nats x) : Nat) : Int) := by
  rw [nats_lix]; show ((lix (47 : UInt8).toNat (nats x) : Nat) : Int) - 1 + 1 = _
  rw [show (47 : UInt8).toNat = 47 from rfl]; omega
theorem bp_tail (x : Array UInt8) : nats (KBy.picked x (some (((lix 47 x.toList : Nat) : Int) - 1 + 1)) none) = tailF (nats x) := by rw [rfb, nats_drop]; rfl
theorem bp_head (x : Array UInt8) : nats (KBy.picked x none (some (((lix 47 x.toList : Nat) : Int) - 1 + 1))) = (nats x).take (lix 47 (nats x)) := by rw [rfb, nats_take]
theorem nats_nil {P : Array UInt8} : P.toList.isEmpty = true ↔ nats P = [] := by unfold nats; simp
theorem rep_nats (n : Nat) (c : UInt8) : nats ((List.replicate n [c]).flatten.toArray) = List.replicate n c.toNat := by
  unfold nats
  induction n with
  | zero => rfl
  | succ n ih => rw [List.replicate_succ, List.flatten_cons, List.replicate_succ, ← ih]; rfl
theorem bmul_ne (y : Array UInt8) : (y.toList != ((List.replicate ((y.size : Nat) : Int).toNat [(47 : UInt8)]).flatten.toArray).toList) = decide (nats y ≠ List.replicate (nats y).length 47) := by
  rw [Int.toNat_natCast, Bool.eq_iff_iff]
  have e := rep_nats y.size 47
  simp only [bne_iff_ne, decide_eq_true_eq, ne_eq]
  rw [nats_len]
  have hiff : y.toList = ((List.replicate y.size [(47 : UInt8)]).flatten.toArray).toList ↔ nats y = List.replicate y.size 47 := by
    constructor
    · intro h
      unfold nats; rw [h]; exact e
    · intro h
      have := nats_inj (h.trans e.symm)
      exact congrArg Array.toList this
  exact not_congr hiff
theorem bp_end1 {x : Array UInt8} (h : (KBy.picked x none (some (((lix 47 x.toList : Nat) : Int) - 1 + 1))).toList.isEmpty = true) : nats (KBy.picked x none (some (((lix 47 x.toList : Nat) : Int) - 1 + 1))) = headF (nats x) := by
  rw [nats_nil, bp_head] at h
  rw [bp_head]; unfold headF; rw [if_neg]; exact fun q => q.1 h
theorem bp_end2 {x : Array UInt8} (h : ((KBy.picked x none (some (((lix 47 x.toList : Nat) : Int) - 1 + 1))).toList != ((List.replicate (((KBy.picked x none (some (((lix 47 x.toList : Nat) : Int) - 1 + 1))).size : Nat) : Int).toNat [(47 : UInt8)]).flatten.toArray).toList) = false) :
    nats (KBy.picked x none (some (((lix 47 x.toList : Nat) : Int) - 1 + 1))) = headF (nats x) := by
  rw [bmul_ne, bp_head, decide_eq_false_iff_not] at h
  rw [bp_head]; unfold headF; rw [if_neg]; exact fun q => h q.2
theorem bp_end3 {x : Array UInt8} (h0 : (KBy.picked x none (some (((lix 47 x.toList : Nat) : Int) - 1 + 1))).toList.isEmpty = false) (h : ((KBy.picked x none (some (((lix 47 x.toList : Nat) : Int) - 1 + 1))).toList != ((List.replicate (((KBy.picked x none (some (((lix 47 x.toList : Nat) : Int) - 1 + 1))).size : Nat) : Int).toNat [(47 : UInt8)]).flatten.toArray).toList) = true) :
    nats (rstripL 47 (KBy.picked x none (some (((lix 47 x.toList : Nat) : Int) - 1 + 1))).toList).toArray = headF (nats x) := by
  rw [bmul_ne, bp_head, decide_eq_true_iff] at h
  have h0 : ¬ (nats (KBy.picked x none (some (((lix 47 x.toList : Nat) : Int) - 1 + 1))) = []) := fun q => by rw [nats_nil.mpr q] at h0; cases h0
  rw [bp_head] at h0
  rw [nats_rstrip, bp_head]; unfold headF; rw [if_pos ⟨h0, h⟩]; rfl
section
variable {w : World} {A : Around} {mg mb : Str → Option Value} {mean : ExcName → Option Value} {loose : List Str} {s : Shared} {Q : Value → Shared → Prop} {E : Value → Shared → Prop}
theorem split_b {x : Array UInt8} {t : Tok} (X : (Mine.hd.heap_39 w.params).In s.heap) (T : Top Mine.hd.view_39 loose mean mg mb s.heap) (hd : A.depth ≤ 550) (hh : A.handled = none) (hx : x.size ≤ 1000000)
    (h : ∀ h' tk D a b ta tb, Kp s.heap h' → h'.get? D = some { cls := .type "tuple", data := .seq #[.bytes a ta, .bytes b tb] } → s.heap.get? D = none → nats a = headF (nats x) → nats b = tailF (nats x) → Q (.ref D) { s with heap := h', toks := tk }) :
    wpAny (model PySem.Challenge.rw_ko0128_04.row.prog w) A (call (.ref 136) [.bytes x t]) Q E s := by
  walk_at "MY enter"
  k_steps
  · rename News _ _ _ _ => N1
    exact h _ _ _ _ _ _ _ (Fr.keep (by k_asm)) (N1 _ (.head _)).1 (N1 _ (.head _)).2.2 (bp_end1 (by assumption)) (bp_tail x)
  · rename News _ _ _ _ => N1
    exact h _ _ _ _ _ _ _ (Fr.keep (by k_asm)) (N1 _ (.head _)).1 (N1 _ (.head _)).2.2 (bp_end3 (by assumption) (by assumption)) (bp_tail x)
  · rename News _ _ _ _ => N1
    exact h _ _ _ _ _ _ _ (Fr.keep (by k_asm)) (N1 _ (.head _)).1 (N1 _ (.head _)).2.2 (bp_end2 (by assumption)) (bp_tail x)
end
end
section
theorem fill_C6 (w : World) (h : Heap) : PySem.Challenge.rw_ko0128_04.Holds → (Mine.hd.heap_39 w.params).In h → True := by
  w_top off
  k_with_none
  (k_with "MY top" => first | assumption | exact Top.keeps (by assumption) (Fr.keep (by assumption)))
  (k_with "MY enter" => (refine wpAny_call ?_; (refine' enterK ?kzk1z ?kzk2z ?kzk3z ?kzk4z ?kzk5z ?kzk6z ?kzk7z ?_ ?kzk8z ?kzk9z ?kzk10z ?kzk11z; (case kzk1z => assumption); (case kzk2z => assumption); (case kzk3z => k_room); (case kzk4z => k_is); (case kzk5z => k_is); (case kzk6z => first | exact BindsTo.of_eq rfl | exact binds_K (by k_in) rfl (by k_is) rfl rfl rfl); (case kzk7z => exact locs rfl); (case kzk8z => decide); (case kzk9z => exact rfl); (case kzk10z => exact rfl); (case kzk11z => exact rfl); k_whole; intro LZq hZq FZq NZq; (try dsimp only); (try k_fold))))
  (k_with "call type:type" => (k_here; (with_reducible show wpAny _ _ (call (Value.type "type") [Value.bytes _ _]) _ _ _); refine call_type_of (Tx := "bytes") rfl (by decide) ?_))
  (k_with "call builtin:issubclass" => (k_here; refine call_isub (by first | exact .inl rfl | exact .inr rfl) (News.get (by k_asm) (by k_mem)) ?_))
  (k_with "MY same" => (intro y hy; (try dsimp only); repeat (first | exact rfl | (refine (if_neg ?kzhz).trans ?_; (case kzhz => first | (intro e; subst e; exact absurd hy (by decide)) | (intro e; rw [hy] at e; cases e))))))
  (k_with "assign Tuple" => (k_here; (with_reducible show wpAny _ _ (assign (Expr.Tuple _ _ _) _ (Value.ref _)) _ _ _); k_dflt (refine' kun_list ?kzk1z ?kzk2z ?kzk3z ?kzk4z ?kzk5z ?kzk6z ?_; (case kzk1z => k_asm); (case kzk2z => k_asm); (case kzk3z => kun_lst); (case kzk4z => first | exact rfl | assumption); (case kzk5z => exact rfl); (case kzk6z => exact rfl); k_whole); intro hZq FZq NZq; (try k_sweep)))
  (k_with "assign Tuple" => (k_here; (with_reducible show wpAny _ _ (assign (Expr.Tuple _ _ _) _ (Value.ref _)) _ _ _); k_dflt (refine' unpackN_ ?kzk1z ?kzk2z ?kzk3z ?kzk4z ?kzk5z ?kzk6z ?_; (case kzk1z => k_asm); (case kzk2z => k_asm); (case kzk3z => kun_tup); (case kzk4z => first | exact rfl | assumption); (case kzk5z => exact rfl); (case kzk6z => exact rfl); k_whole); intro hZq FZq NZq; (try k_sweep)))
  (k_with "MY hideT" => (refine hide_post (m := execs _ _) ?_; intro kTE kTEh))
  (k_with "MY hideW" => (intro kWT kWZ kWTh kWZh))
  (k_with "MY showT" => (rename Hid (TurnEnd _ _ _ _ _ _ _) _ => kTEh; refine kTEh _ _ ?_))
  (k_with "MY showW" => (rename Hid (WTurn _ _ _ _ _ _) _ => kWTh; refine kWTh _ _ ?_))
  (k_with "MY showZ" => (rename (∀ s : Shared, _ → _) => kWZh; refine kWZh _ ?_))
  (k_with "MY back" => (rename Fr _ _ _ _ => kFZq; rename News _ _ _ _ => kNZq; rename Kp _ _ => hkZq; replace kFZq := Fr.grownK kFZq hkZq; replace kNZq := News.grown kNZq hkZq; clear hkZq))
  (k_with "MY prem" => ((case kzXz => k_in); (case kzTz => walk_at "MY top"); (case kzdz => k_room); k_whole))
  (k_with "call ref" => (k_here; (with_reducible show wpAny _ _ (call (Value.ref 101) [Value.str _ _]) _ _ _); refine' fspath_str ?kzXz ?kzTz ?kzdz ?_; walk_at "MY prem"; intro hZq tkZq hkZq; walk_at "MY back"))
  (k_with "call ref" => (k_here; (with_reducible show wpAny _ _ (call (Value.ref 101) [Value.bytes _ _]) _ _ _); refine' fspath_bytes ?kzXz ?kzTz ?kzdz ?_; walk_at "MY prem"; intro hZq tkZq hkZq; walk_at "MY back"))
  (k_with "call ref" => (k_here; (with_reducible show wpAny _ _ (call (Value.ref 122) [Value.str _ _]) _ _ _); refine' getsep_str ?kzXz ?kzTz ?kzdz ?_; walk_at "MY prem"; intro hZq tkZq uZq hkZq; walk_at "MY back"))
  (k_with "call ref" => (k_here; (with_reducible show wpAny _ _ (call (Value.ref 122) [Value.bytes _ _]) _ _ _); refine' getsep_bytes ?kzXz ?kzTz ?kzdz ?_; walk_at "MY prem"; intro hZq tkZq uZq hkZq; walk_at "MY back"))
  (k_with "exec While BoolOp cons nil" => (k_here; refine Halt.mk ?_))
  (k_with "exec While Compare cons nil" => (k_here; refine Halt.mk ?_))
  (k_with "MY go" => show wpAny _ _ _ _ _ _)
  (k_with "unpackItems ref" => (k_here; k_dflt (refine' unpackItemsN_ ?kzk1z ?kzk2z ?kzk3z ?kzk4z ?kzk5z ?_; (case kzk1z => k_asm); (case kzk2z => k_asm); (case kzk3z => kun_tup); (case kzk4z => first | exact rfl | assumption); (case kzk5z => exact rfl); k_whole); intro hZq FZq NZq; (try k_sweep)))
  k_fill
  intros; trivial
set_option maxHeartbeats 8000000
theorem rf_dot (x : Str) : Txt.rfind x (Str.ofString ".") = (lix 46 (cpl x) : Int) - 1 := by rw [ch46, rfind_ch]
theorem rf_sl' (x : Str) : Txt.rfind x (Str.ofString "/") = (lix 47 (cpl x) : Int) - 1 := by rw [ch47, rfind_ch]
section
variable {w : World} {A : Around} {mg mb : Str → Option Value} {mean : ExcName → Option Value} {loose : List Str} {s : Shared} {Q : Value → Shared → Prop} {E : Value → Shared → Prop}
theorem sxt_s0 {x : Str} {t u v : Tok} (X : (Mine.hd.heap_39 w.params).In s.heap) (T : Top Mine.hd.view_39 loose mean mg mb s.heap) (hd : A.depth ≤ 550) (hh : A.handled = none) (hx : x.length ≤ 1000000)
    (h : ∀ h' tk D a b ta tb, Kp s.heap h' → h'.get? D = some { cls := .type "tuple", data := .seq #[.str a ta, .str b tb] } → s.heap.get? D = none → cpl a = (cpl x).take (sxt (cpl x)) → cpl b = (cpl x).drop (sxt (cpl x)) → Q (.ref D) { s with heap := h', toks := tk }) :
    wpAny (model PySem.Challenge.rw_ko0128_04.row.prog w) A (call (.ref 108) [.str x t, .str (Str.ofString "/") u, .none, .str (Str.ofString ".") v]) Q E s := by
  have hrs := rf_sl' x
  have hrd := rf_dot x
  walk_at "MY enter"
  k_steps
  · walk_at "MY go"
    rename Fr _ _ _ _ => F1
    rename News _ _ _ _ => N1
    rename (_ < _) => hlt
    rw [hrs, hrd] at hlt
    refine while_inv (fun m0 k m nx => nx = [] ∧ ∃ (i : Int) (ti : Tok) (fi : Nat), m "filenameIndex" = some (.int i ti) ∧ Same ["filenameIndex"] m m0 ∧ i = (fi : Int) ∧ lix 47 (cpl x) ≤ fi ∧ fi + 1 ≤ lix 46 (cpl x) ∧ (∀ j, lix 47 (cpl x) ≤ j → j < fi → (cpl x)[j]? = some 46) ∧ k = lix 46 (cpl x) - fi) _ F1 N1 ⟨rfl, _, _, lix 47 (cpl x), rfl, Same.refl, by omega, Nat.le_refl _, by omega, fun j h1 h2 => absurd h2 (by omega), rfl⟩ ?_
    rintro k m1 nx h1 tk1 ⟨rfl, i, ti, fi, g1, g2, rfl, e1, e2, e3, rfl⟩ F2 N2
    rw [map1 g1 g2] at F2
    try dsimp only at F2
    clear F1 N1
    k_steps
    · rename News _ _ _ _ => N3
      rename ((_ != _) = true) => hne
      rename ((fi : Int) < _) => hfl
      rw [hrd] at hfl
      rw [ch46, one_ne, decide_eq_true_eq] at hne
      have hs : sxt (cpl x) = lix 46 (cpl x) - 1 := sxt_hit e1 (by omega) hne
      have hcast : Txt.rfind x (Str.ofString ".") = ((lix 46 (cpl x) - 1 : Nat) : Int) := by rw [hrd]; omega
      exact h _ _ _ _ _ _ _ (Fr.keep (by k_asm)) (N3 _ (.head _)).1 (N3 _ (.head _)).2.2 (by rw [hs, hcast, cpl_take]) (by rw [hs, hcast, cpl_drop])
    · rename ((_ != _) = false) => hne
      rename ((fi : Int) < _) => hfl
      rw [hrd] at hfl
      rw [ch46, one_ne, decide_eq_false_iff_not, Classical.not_not] at hne
      refine' ⟨_, _, _, [], _, rfl, by k_asm, News.nil, ?zlt, rfl, _, _, fi + 1, rfl, ?zsame, ?zcast, ?za, ?zb, ?zc, rfl⟩
      case zlt => omega
      case zsame => walk_at "MY same"
      case zcast => omega
      case za => omega
      case zb => omega
      case zc => 
        intro j h1 h2
        by_cases hj : j = fi
        · rw [hj]; exact hne
        · exact e3 j h1 (by omega)
    · rename News _ _ _ _ => N3
      rename (¬ ((fi : Int) < _)) => hfl
      rw [hrd] at hfl
      have hs : sxt (cpl x) = (cpl x).length := sxt_all fun j h1 h2 => e3 j h1 (by omega)
      exact h _ _ _ _ _ _ _ (Fr.keep (by k_asm)) (N3 _ (.head _)).1 (N3 _ (.head _)).2.2 (by rw [hs, List.take_length]) (by rw [hs, List.drop_length]; exact cpl_take x 0)
  · rename News _ _ _ _ => N1
    rename (¬ (_ < _)) => hlt
    rw [hrs, hrd] at hlt
    have hs : sxt (cpl x) = (cpl x).length := sxt_all fun j h1 h2 => absurd h2 (by omega)
    exact h _ _ _ _ _ _ _ (Fr.keep (by k_asm)) (N1 _ (.head _)).1 (N1 _ (.head _)).2.2 (by rw [hs, List.take_length]) (by rw [hs, List.drop_length]; exact cpl_take x 0)
theorem splitext_s {x : Str} {t : Tok} (X : (Mine.hd.heap_39 w.params).In s.heap) (T : Top Mine.hd.view_39 loose mean mg mb s.heap) (hd : A.depth ≤ 540) (hh : A.handled = none) (hx : x.length ≤ 1000000)
    (h : ∀ h' tk D a b ta tb, Kp s.heap h' → h'.get? D = some { cls := .type "tuple", data := .seq #[.str a ta, .str b tb] } → s.heap.get? D = none → cpl a = (cpl x).take (sxt (cpl x)) → cpl b = (cpl x).drop (sxt (cpl x)) → Q (.ref D) { s with heap := h', toks := tk }) :
    wpAny (model PySem.Challenge.rw_ko0128_04.row.prog w) A (call (.ref 143) [.str x t]) Q E s := by
  walk_at "MY enter"
  k_steps
  rename Fr _ _ _ _ => F1
  refine sxt_s0 (X.keeps F1.keep) (T.keeps F1.keep) (by k_room) hh hx fun h' tk D a b ta tb k1 e1 e2 e3 e4 => ?_
  refine h _ _ D a b ta tb (Kp.trans F1.keep k1) e1 ?_ e3 e4
  cases q : s.heap.get? D with
  | none => rfl
  | some o => have := F1.keep _ _ q; rw [e2] at this; cases this
end
end
section
theorem fill_C7 (w : World) (h : Heap) : PySem.Challenge.rw_ko0128_04.Holds → (Mine.hd.heap_39 w.params).In h → True := by
  w_top off
  k_with_none
  (k_with "MY top" => first | assumption | exact Top.keeps (by assumption) (Fr.keep (by assumption)))
  (k_with "MY enter" => (refine wpAny_call ?_; (refine' enterK ?kzk1z ?kzk2z ?kzk3z ?kzk4z ?kzk5z ?kzk6z ?kzk7z ?_ ?kzk8z ?kzk9z ?kzk10z ?kzk11z; (case kzk1z => assumption); (case kzk2z => assumption); (case kzk3z => k_room); (case kzk4z => k_is); (case kzk5z => k_is); (case kzk6z => first | exact BindsTo.of_eq rfl | exact binds_K (by k_in) rfl (by k_is) rfl rfl rfl); (case kzk7z => exact locs rfl); (case kzk8z => decide); (case kzk9z => exact rfl); (case kzk10z => exact rfl); (case kzk11z => exact rfl); k_whole; intro LZq hZq FZq NZq; (try dsimp only); (try k_fold))))
  (k_with "call type:type" => (k_here; (with_reducible show wpAny _ _ (call (Value.type "type") [Value.bytes _ _]) _ _ _); refine call_type_of (Tx := "bytes") rfl (by decide) ?_))
  (k_with "call builtin:issubclass" => (k_here; refine call_isub (by first | exact .inl rfl | exact .inr rfl) (News.get (by k_asm) (by k_mem)) ?_))
  (k_with "MY same" => (intro y hy; (try dsimp only); repeat (first | exact rfl | (refine (if_neg ?kzhz).trans ?_; (case kzhz => first | (intro e; subst e; exact absurd hy (by decide)) | (intro e; rw [hy] at e; cases e))))))
  (k_with "assign Tuple" => (k_here; (with_reducible show wpAny _ _ (assign (Expr.Tuple _ _ _) _ (Value.ref _)) _ _ _); k_dflt (refine' kun_list ?kzk1z ?kzk2z ?kzk3z ?kzk4z ?kzk5z ?kzk6z ?_; (case kzk1z => k_asm); (case kzk2z => k_asm); (case kzk3z => kun_lst); (case kzk4z => first | exact rfl | assumption); (case kzk5z => exact rfl); (case kzk6z => exact rfl); k_whole); intro hZq FZq NZq; (try k_sweep)))
  (k_with "assign Tuple" => (k_here; (with_reducible show wpAny _ _ (assign (Expr.Tuple _ _ _) _ (Value.ref _)) _ _ _); k_dflt (refine' unpackN_ ?kzk1z ?kzk2z ?kzk3z ?kzk4z ?kzk5z ?kzk6z ?_; (case kzk1z => k_asm); (case kzk2z => k_asm); (case kzk3z => kun_tup); (case kzk4z => first | exact rfl | assumption); (case kzk5z => exact rfl); (case kzk6z => exact rfl); k_whole); intro hZq FZq NZq; (try k_sweep)))
  (k_with "MY hideT" => (refine hide_post (m := execs _ _) ?_; intro kTE kTEh))
  (k_with "MY hideW" => (intro kWT kWZ kWTh kWZh))
  (k_with "MY showT" => (rename Hid (TurnEnd _ _ _ _ _ _ _) _ => kTEh; refine kTEh _ _ ?_))
  (k_with "MY showW" => (rename Hid (WTurn _ _ _ _ _ _) _ => kWTh; refine kWTh _ _ ?_))
  (k_with "MY showZ" => (rename (∀ s : Shared, _ → _) => kWZh; refine kWZh _ ?_))
  (k_with "MY back" => (rename Fr _ _ _ _ => kFZq; rename News _ _ _ _ => kNZq; rename Kp _ _ => hkZq; replace kFZq := Fr.grownK kFZq hkZq; replace kNZq := News.grown kNZq hkZq; clear hkZq))
  (k_with "MY prem" => ((case kzXz => k_in); (case kzTz => walk_at "MY top"); (case kzdz => k_room); k_whole))
  (k_with "call ref" => (k_here; (with_reducible show wpAny _ _ (call (Value.ref 101) [Value.str _ _]) _ _ _); refine' fspath_str ?kzXz ?kzTz ?kzdz ?_; walk_at "MY prem"; intro hZq tkZq hkZq; walk_at "MY back"))
  (k_with "call ref" => (k_here; (with_reducible show wpAny _ _ (call (Value.ref 101) [Value.bytes _ _]) _ _ _); refine' fspath_bytes ?kzXz ?kzTz ?kzdz ?_; walk_at "MY prem"; intro hZq tkZq hkZq; walk_at "MY back"))
  (k_with "call ref" => (k_here; (with_reducible show wpAny _ _ (call (Value.ref 122) [Value.str _ _]) _ _ _); refine' getsep_str ?kzXz ?kzTz ?kzdz ?_; walk_at "MY prem"; intro hZq tkZq uZq hkZq; walk_at "MY back"))
  (k_with "call ref" => (k_here; (with_reducible show wpAny _ _ (call (Value.ref 122) [Value.bytes _ _]) _ _ _); refine' getsep_bytes ?kzXz ?kzTz ?kzdz ?_; walk_at "MY prem"; intro hZq tkZq uZq hkZq; walk_at "MY back"))
  (k_with "exec While BoolOp cons nil" => (k_here; refine Halt.mk ?_))
  (k_with "exec While Compare cons nil" => (k_here; refine Halt.mk ?_))
  (k_with "MY go" => show wpAny _ _ _ _ _ _)
  (k_with "unpackItems ref" => (k_here; k_dflt (refine' unpackItemsN_ ?kzk1z ?kzk2z ?kzk3z ?kzk4z ?kzk5z ?_; (case kzk1z => k_asm); (case kzk2z => k_asm); (case kzk3z => kun_tup); (case kzk4z => first | exact rfl | assumption); (case kzk5z => exact rfl); k_whole); intro hZq FZq NZq; (try k_sweep)))
  (k_with "getMethod bytes" => (k_here; first | with_reducible refine by_starts_m ?_ | with_reducible refine by_ends_m ?_))
  (k_with "call builtin:bytes.startswith" => (k_here; refine by_starts ?_))
  (k_with "call builtin:bytes.endswith" => (k_here; refine by_ends ?_))
  (k_with "truthy bytes" => (k_here; refine truthy_b (by first | omega | (simp only [List.size_toArray]; omega)) ?_))
  (k_with "binaryOp Add bytes bytes" => (k_here; refine KBy.add_bytes (by (try simp only [Array.size_append]); (try rw [show (#[47] : Array UInt8).size = 1 from rfl]); omega) ?_; intro tZq kZq))
  (k_with "inplaceOp Add bytes bytes" => (k_here; refine iadd_bytes (by (try simp only [Array.size_append]); (try rw [show (#[47] : Array UInt8).size = 1 from rfl]); omega) ?_; intro tZq kZq))
  (k_with "getMethod bytes" => (k_here; first | with_reducible refine by_rfind_m ?_ | with_reducible refine by_rstrip_m ?_))
  (k_with "call builtin:bytes.rfind" => (k_here; refine by_rfind ?_; intro tZq kZq))
  (k_with "call builtin:bytes.rstrip" => (k_here; refine by_rstrip (by first | assumption | omega) ?_; intro tZq kZq bzZq))
  (k_with "subscriptTail Name Slice bytes ref" => (k_here; k_dflt (refine' slice_by ?kzFz ?kzNz ?kzpz ?kzqz ?kzzz ?_ ?kzsz ?kztz; (case kzFz => k_asm); (case kzNz => k_asm); (case kzpz => kmk_part); (case kzqz => kmk_part); (case kzzz => first | assumption | omega); (case kzsz => with_unfolding_all rfl); (case kztz => kmk_pure)); intro hZq tZq kZq FZq NZq bzZq))
  k_fill
  intros; trivial
set_option maxHeartbeats 8000000
theorem nl47 (x : Array UInt8) : lix 47 x.toList = lix 47 (nats x) := nats_lix 47 x
theorem nl46 (x : Array UInt8) : lix 46 x.toList = lix 46 (nats x) := nats_lix 46 x
theorem nats_one (P : Array UInt8) (n : Nat) : nats (KBy.picked P (some (n : Int)) (some ((n : Int) + 1))) = ((nats P).drop n).take 1 := by
  rw [KBc.picked_eq]
  unfold nats
  simp only [Option.elim_some]
  rw [show (n : Int) + 1 = ((n + 1 : Nat) : Int) by omega, clipAt_nat, clipAt_nat, List.map_take, List.map_drop]
  by_cases h : n < P.size
  · rw [Nat.min_eq_left (by omega), Nat.min_eq_left (by omega), Nat.add_sub_cancel_left]
  · rw [Nat.min_eq_right (by omega), Nat.min_eq_right (by omega), List.drop_of_length_le (by simp), List.drop_of_length_le (by simp; omega)]; simp
theorem one_ne_b (x : Array UInt8) (n : Nat) : ((KBy.picked x (some (n : Int)) (some ((n : Int) + 1))).toList != (#[46] : Array UInt8).toList) = decide ((nats x)[n]? ≠ some 46) := by
  have e : (KBy.picked x (some (n : Int)) (some ((n : Int) + 1))).toList = (#[46] : Array UInt8).toList ↔ nats (KBy.picked x (some (n : Int)) (some ((n : Int) + 1))) = [46] := by
    constructor
    · intro h; unfold nats; rw [h]; rfl
    · intro h
      have : nats (KBy.picked x (some (n : Int)) (some ((n : Int) + 1))) = nats #[46] := h
      rw [nats_inj this]
  rw [Bool.eq_iff_iff, bne_iff_ne, decide_eq_true_iff, ne_eq, e, nats_one, take1]
  cases h : (nats x)[n]? with
  | none => simp
  | some a => simp
section
variable {w : World} {A : Around} {mg mb : Str → Option Value} {mean : ExcName → Option Value} {loose : List Str} {s : Shared} {Q : Value → Shared → Prop} {E : Value → Shared → Prop}
theorem sxt_b0 {x : Array UInt8} {t u v : Tok} (X : (Mine.hd.heap_39 w.params).In s.heap) (T : Top Mine.hd.view_39 loose mean mg mb s.heap) (hd : A.depth ≤ 550) (hh : A.handled = none) (hx : x.size ≤ 1000000)
    (h : ∀ h' tk D a b ta tb, Kp s.heap h' → h'.get? D = some { cls := .type "tuple", data := .seq #[.bytes a ta, .bytes b tb] } → s.heap.get? D = none → nats a = (nats x).take (sxt (nats x)) → nats b = (nats x).drop (sxt (nats x)) → Q (.ref D) { s with heap := h', toks := tk }) :
    wpAny (model PySem.Challenge.rw_ko0128_04.row.prog w) A (call (.ref 108) [.bytes x t, .bytes #[47] u, .none, .bytes #[46] v]) Q E s := by
  have hrs := nl47 x
  have hrd := nl46 x
  walk_at "MY enter"
  k_steps
  · walk_at "MY go"
    rename Fr _ _ _ _ => F1
    rename News _ _ _ _ => N1
    rename (_ < _) => hlt
    rw [hrs, hrd] at hlt
    refine while_inv (fun m0 k m nx => nx = [] ∧ ∃ (i : Int) (ti : Tok) (fi : Nat), m "filenameIndex" = some (.int i ti) ∧ Same ["filenameIndex"] m m0 ∧ i = (fi : Int) ∧ lix 47 (nats x) ≤ fi ∧ fi + 1 ≤ lix 46 (nats x) ∧ (∀ j, lix 47 (nats x) ≤ j → j < fi → (nats x)[j]? = some 46) ∧ k = lix 46 (nats x) - fi) _ F1 N1 ⟨rfl, _, _, lix 47 (nats x), rfl, Same.refl, by omega, Nat.le_refl _, by omega, fun j h1 h2 => absurd h2 (by omega), rfl⟩ ?_
    rintro k m1 nx h1 tk1 ⟨rfl, i, ti, fi, g1, g2, rfl, e1, e2, e3, rfl⟩ F2 N2
    rw [map1 g1 g2] at F2
    try dsimp only at F2
    clear F1 N1
    k_steps
    · rename News _ _ _ _ => N3
      rename ((_ != _) = true) => hne
      rename ((fi : Int) < _) => hfl
      rw [hrd] at hfl
      rw [one_ne_b, decide_eq_true_eq] at hne
      have hs : sxt (nats x) = lix 46 (nats x) - 1 := sxt_hit e1 (by omega) hne
      have hcast : ((lix 46 x.toList : Nat) : Int) - 1 = ((lix 46 (nats x) - 1 : Nat) : Int) := by rw [hrd]; omega
      exact h _ _ _ _ _ _ _ (Fr.keep (by k_asm)) (N3 _ (.head _)).1 (N3 _ (.head _)).2.2 (by rw [hs, hcast, nats_take]) (by rw [hs, hcast, nats_drop])
    · rename ((_ != _) = false) => hne
      rename ((fi : Int) < _) => hfl
      rw [hrd] at hfl
      rw [one_ne_b, decide_eq_false_iff_not, Classical.not_not] at hne
      refine' ⟨_, _, _, [], _, rfl, by k_asm, News.nil, ?zlt, rfl, _, _, fi + 1, rfl, ?zsame, ?zcast, ?za, ?zb, ?zc, rfl⟩
      case zlt => omega
      case zsame => walk_at "MY same"
      case zcast => omega
      case za => omega
      case zb => omega
      case zc => 
        intro j h1 h2
        by_cases hj : j = fi
        · rw [hj]; exact hne
        · exact e3 j h1 (by omega)
    · rename News _ _ _ _ => N3
      rename (¬ ((fi : Int) < _)) => hfl
      rw [hrd] at hfl
      have hs : sxt (nats x) = (nats x).length := sxt_all fun j h1 h2 => e3 j h1 (by omega)
      exact h _ _ _ _ _ _ _ (Fr.keep (by k_asm)) (N3 _ (.head _)).1 (N3 _ (.head _)).2.2 (by rw [hs, List.take_length]) (by rw [hs, List.drop_length]; exact nats_take x 0)
  · rename News _ _ _ _ => N1
    rename (¬ (_ < _)) => hlt
    rw [hrs, hrd] at hlt
    have hs : sxt (nats x) = (nats x).length := sxt_all fun j h1 h2 => absurd h2 (by omega)
    exact h _ _ _ _ _ _ _ (Fr.keep (by k_asm)) (N1 _ (.head _)).1 (N1 _ (.head _)).2.2 (by rw [hs, List.take_length]) (by rw [hs, List.drop_length]; exact nats_take x 0)
theorem splitext_b {x : Array UInt8} {t : Tok} (X : (Mine.hd.heap_39 w.params).In s.heap) (T : Top Mine.hd.view_39 loose mean mg mb s.heap) (hd : A.depth ≤ 540) (hh : A.handled = none) (hx : x.size ≤ 1000000)
    (h : ∀ h' tk D a b ta tb, Kp s.heap h' → h'.get? D = some { cls := .type "tuple", data := .seq #[.bytes a ta, .bytes b tb] } → s.heap.get? D = none → nats a = (nats x).take (sxt (nats x)) → nats b = (nats x).drop (sxt (nats x)) → Q (.ref D) { s with heap := h', toks := tk }) :
    wpAny (model PySem.Challenge.rw_ko0128_04.row.prog w) A (call (.ref 143) [.bytes x t]) Q E s := by
  walk_at "MY enter"
  k_steps
  rename Fr _ _ _ _ => F1
  refine sxt_b0 (X.keeps F1.keep) (T.keeps F1.keep) (by k_room) hh hx fun h' tk D a b ta tb k1 e1 e2 e3 e4 => ?_
  refine h _ _ D a b ta tb (Kp.trans F1.keep k1) e1 ?_ e3 e4
  cases q : s.heap.get? D with
  | none => rfl
  | some o => have := F1.keep _ _ q; rw [e2] at this; cases this
end
end
section
theorem fill_C8 (w : World) (h : Heap) : PySem.Challenge.rw_ko0128_04.Holds → (Mine.hd.heap_39 w.params).In h → True := by
  w_top off
  k_with_none
  (k_with "MY top" => first | assumption | exact Top.keeps (by assumption) (Fr.keep (by assumption)))
  (k_with "MY enter" => (refine wpAny_call ?_; (refine' enterK ?kzk1z ?kzk2z ?kzk3z ?kzk4z ?kzk5z ?kzk6z ?kzk7z ?_ ?kzk8z ?kzk9z ?kzk10z ?kzk11z; (case kzk1z => assumption); (case kzk2z => assumption); (case kzk3z => k_room); (case kzk4z => k_is); (case kzk5z => k_is); (case kzk6z => first | exact BindsTo.of_eq rfl | exact binds_K (by k_in) rfl (by k_is) rfl rfl rfl); (case kzk7z => exact locs rfl); (case kzk8z => decide); (case kzk9z => exact rfl); (case kzk10z => exact rfl); (case kzk11z => exact rfl); k_whole; intro LZq hZq FZq NZq; (try dsimp only); (try k_fold))))
  (k_with "call type:type" => (k_here; (with_reducible show wpAny _ _ (call (Value.type "type") [Value.bytes _ _]) _ _ _); refine call_type_of (Tx := "bytes") rfl (by decide) ?_))
  (k_with "call builtin:issubclass" => (k_here; refine call_isub (by first | exact .inl rfl | exact .inr rfl) (News.get (by k_asm) (by k_mem)) ?_))
  (k_with "MY same" => (intro y hy; (try dsimp only); repeat (first | exact rfl | (refine (if_neg ?kzhz).trans ?_; (case kzhz => first | (intro e; subst e; exact absurd hy (by decide)) | (intro e; rw [hy] at e; cases e))))))
  (k_with "assign Tuple" => (k_here; (with_reducible show wpAny _ _ (assign (Expr.Tuple _ _ _) _ (Value.ref _)) _ _ _); k_dflt (refine' kun_list ?kzk1z ?kzk2z ?kzk3z ?kzk4z ?kzk5z ?kzk6z ?_; (case kzk1z => k_asm); (case kzk2z => k_asm); (case kzk3z => kun_lst); (case kzk4z => first | exact rfl | assumption); (case kzk5z => exact rfl); (case kzk6z => exact rfl); k_whole); intro hZq FZq NZq; (try k_sweep)))
  (k_with "assign Tuple" => (k_here; (with_reducible show wpAny _ _ (assign (Expr.Tuple _ _ _) _ (Value.ref _)) _ _ _); k_dflt (refine' unpackN_ ?kzk1z ?kzk2z ?kzk3z ?kzk4z ?kzk5z ?kzk6z ?_; (case kzk1z => k_asm); (case kzk2z => k_asm); (case kzk3z => kun_tup); (case kzk4z => first | exact rfl | assumption); (case kzk5z => exact rfl); (case kzk6z => exact rfl); k_whole); intro hZq FZq NZq; (try k_sweep)))
  (k_with "MY hideT" => (refine hide_post (m := execs _ _) ?_; intro kTE kTEh))
  (k_with "MY hideW" => (intro kWT kWZ kWTh kWZh))
  (k_with "MY showT" => (rename Hid (TurnEnd _ _ _ _ _ _ _) _ => kTEh; refine kTEh _ _ ?_))
  (k_with "MY showW" => (rename Hid (WTurn _ _ _ _ _ _) _ => kWTh; refine kWTh _ _ ?_))
  (k_with "MY showZ" => (rename (∀ s : Shared, _ → _) => kWZh; refine kWZh _ ?_))
  (k_with "MY back" => (rename Fr _ _ _ _ => kFZq; rename News _ _ _ _ => kNZq; rename Kp _ _ => hkZq; replace kFZq := Fr.grownK kFZq hkZq; replace kNZq := News.grown kNZq hkZq; clear hkZq))
  (k_with "MY prem" => ((case kzXz => k_in); (case kzTz => walk_at "MY top"); (case kzdz => k_room); k_whole))
  (k_with "call ref" => (k_here; (with_reducible show wpAny _ _ (call (Value.ref 101) [Value.str _ _]) _ _ _); refine' fspath_str ?kzXz ?kzTz ?kzdz ?_; walk_at "MY prem"; intro hZq tkZq hkZq; walk_at "MY back"))
  (k_with "call ref" => (k_here; (with_reducible show wpAny _ _ (call (Value.ref 101) [Value.bytes _ _]) _ _ _); refine' fspath_bytes ?kzXz ?kzTz ?kzdz ?_; walk_at "MY prem"; intro hZq tkZq hkZq; walk_at "MY back"))
  (k_with "call ref" => (k_here; (with_reducible show wpAny _ _ (call (Value.ref 122) [Value.str _ _]) _ _ _); refine' getsep_str ?kzXz ?kzTz ?kzdz ?_; walk_at "MY prem"; intro hZq tkZq uZq hkZq; walk_at "MY back"))
  (k_with "call ref" => (k_here; (with_reducible show wpAny _ _ (call (Value.ref 122) [Value.bytes _ _]) _ _ _); refine' getsep_bytes ?kzXz ?kzTz ?kzdz ?_; walk_at "MY prem"; intro hZq tkZq uZq hkZq; walk_at "MY back"))
  (k_with "exec While BoolOp cons nil" => (k_here; refine Halt.mk ?_))
  (k_with "exec While Compare cons nil" => (k_here; refine Halt.mk ?_))
  (k_with "MY go" => show wpAny _ _ _ _ _ _)
  (k_with "unpackItems ref" => (k_here; k_dflt (refine' unpackItemsN_ ?kzk1z ?kzk2z ?kzk3z ?kzk4z ?kzk5z ?_; (case kzk1z => k_asm); (case kzk2z => k_asm); (case kzk3z => kun_tup); (case kzk4z => first | exact rfl | assumption); (case kzk5z => exact rfl); k_whole); intro hZq FZq NZq; (try k_sweep)))
  (k_with "exec For Name Name cons nil" => (k_here; (rename Fr _ _ _ _ => lFZq); (with_unfolding_all refine' For_invVF lFZq ?kzk1z ?kzk2z ?_; (case kzk1z => exact rfl); (case kzk2z => exact rfl); k_whole)))
  (k_with "exec For Name Call cons nil" => (k_here; (rename Fr _ _ _ _ => lFZq); (with_unfolding_all refine' For_invVF lFZq ?kzk1z ?kzk2z ?_; (case kzk1z => exact rfl); (case kzk2z => exact rfl); k_whole)))
  (k_with "exec For Name Subscript cons nil" => (k_here; (rename Fr _ _ _ _ => lFZq); (with_unfolding_all refine' For_invVF lFZq ?kzk1z ?kzk2z ?_; (case kzk1z => exact rfl); (case kzk2z => exact rfl); k_whole)))
  (k_with "exec For Name IfExp cons nil" => (k_here; (rename Fr _ _ _ _ => lFZq); (with_unfolding_all refine' For_invVF lFZq ?kzk1z ?kzk2z ?_; (case kzk1z => exact rfl); (case kzk2z => exact rfl); k_whole)))
  k_fill
  intros; trivial
set_option maxHeartbeats 8000000
theorem item5 {i : Int} (h0 : 0 ≤ i) (h5 : i < 5) : ∀ c ∈ cpl (Txt.item (Str.ofString "a./.\\") i), c < 256 := by
  have e : i = 0 ∨ i = 1 ∨ i = 2 ∨ i = 3 ∨ i = 4 := by omega
  rcases e with rfl | rfl | rfl | rfl | rfl <;> decide +kernel
section
variable {w : World} {A : Around} {mg mb : Str → Option Value} {mean : ExcName → Option Value} {loose : List Str} {s : Shared} {Q : Value → Shared → Prop} {E : Value → Shared → Prop}
theorem law_sign {n : Int} {t : Tok} (X : (Mine.hd.heap_39 w.params).In s.heap) (T : Top Mine.hd.view_39 loose mean mg mb s.heap) (hd : A.depth ≤ 560) (hh : A.handled = none) (hn : 0 ≤ n)
    (h : ∀ h' tk x u, Kp s.heap h' → x.length = 1 → (∀ c ∈ cpl x, c < 256) → Q (.str x u) { s with heap := h', toks := tk }) : wpAny (model PySem.Challenge.rw_ko0128_04.row.prog w) A (call (.ref 153) [.int n t]) Q E s := by
  walk_at "MY enter"
  k_steps
  · refine h _ _ _ _ (Fr.keep (by k_asm)) rfl fun c hc => ?_
    have h0 : 0 ≤ (n.fdiv 6).fmod 256 := Int.fmod_nonneg_of_pos _ (by decide)
    have h1 : (n.fdiv 6).fmod 256 < 256 := Int.fmod_lt_of_pos _ (by decide)
    have := List.mem_singleton.mp hc
    omega
  · have h0 : 0 ≤ n.fmod 6 := Int.fmod_nonneg_of_pos _ (by decide)
    have h1 : n.fmod 6 < 6 := Int.fmod_lt_of_pos _ (by decide)
    rename (n.fmod 6 ≠ 5) => hn5
    exact h _ _ _ _ (Fr.keep (by k_asm)) (by assumption) (item5 h0 (by omega))
end
end
section
theorem fill_C9 (w : World) (h : Heap) : PySem.Challenge.rw_ko0128_04.Holds → (Mine.hd.heap_39 w.params).In h → True := by
  w_top off
  k_with_none
  (k_with "MY top" => first | assumption | exact Top.keeps (by assumption) (Fr.keep (by assumption)))
  (k_with "MY enter" => (refine wpAny_call ?_; (refine' enterK ?kzk1z ?kzk2z ?kzk3z ?kzk4z ?kzk5z ?kzk6z ?kzk7z ?_ ?kzk8z ?kzk9z ?kzk10z ?kzk11z; (case kzk1z => assumption); (case kzk2z => assumption); (case kzk3z => k_room); (case kzk4z => k_is); (case kzk5z => k_is); (case kzk6z => first | exact BindsTo.of_eq rfl | exact binds_K (by k_in) rfl (by k_is) rfl rfl rfl); (case kzk7z => exact locs rfl); (case kzk8z => decide); (case kzk9z => exact rfl); (case kzk10z => exact rfl); (case kzk11z => exact rfl); k_whole; intro LZq hZq FZq NZq; (try dsimp only); (try k_fold))))
  (k_with "call type:type" => (k_here; (with_reducible show wpAny _ _ (call (Value.type "type") [Value.bytes _ _]) _ _ _); refine call_type_of (Tx := "bytes") rfl (by decide) ?_))
  (k_with "call builtin:issubclass" => (k_here; refine call_isub (by first | exact .inl rfl | exact .inr rfl) (News.get (by k_asm) (by k_mem)) ?_))
  (k_with "MY same" => (intro y hy; (try dsimp only); repeat (first | exact rfl | (refine (if_neg ?kzhz).trans ?_; (case kzhz => first | (intro e; subst e; exact absurd hy (by decide)) | (intro e; rw [hy] at e; cases e))))))
  (k_with "assign Tuple" => (k_here; (with_reducible show wpAny _ _ (assign (Expr.Tuple _ _ _) _ (Value.ref _)) _ _ _); k_dflt (refine' kun_list ?kzk1z ?kzk2z ?kzk3z ?kzk4z ?kzk5z ?kzk6z ?_; (case kzk1z => k_asm); (case kzk2z => k_asm); (case kzk3z => kun_lst); (case kzk4z => first | exact rfl | assumption); (case kzk5z => exact rfl); (case kzk6z => exact rfl); k_whole); intro hZq FZq NZq; (try k_sweep)))
  (k_with "assign Tuple" => (k_here; (with_reducible show wpAny _ _ (assign (Expr.Tuple _ _ _) _ (Value.ref _)) _ _ _); k_dflt (refine' unpackN_ ?kzk1z ?kzk2z ?kzk3z ?kzk4z ?kzk5z ?kzk6z ?_; (case kzk1z => k_asm); (case kzk2z => k_asm); (case kzk3z => kun_tup); (case kzk4z => first | exact rfl | assumption); (case kzk5z => exact rfl); (case kzk6z => exact rfl); k_whole); intro hZq FZq NZq; (try k_sweep)))
  (k_with "MY hideT" => (refine hide_post (m := execs _ _) ?_; intro kTE kTEh))
  (k_with "MY hideW" => (intro kWT kWZ kWTh kWZh))
  (k_with "MY showT" => (rename Hid (TurnEnd _ _ _ _ _ _ _) _ => kTEh; refine kTEh _ _ ?_))
  (k_with "MY showW" => (rename Hid (WTurn _ _ _ _ _ _) _ => kWTh; refine kWTh _ _ ?_))
  (k_with "MY showZ" => (rename (∀ s : Shared, _ → _) => kWZh; refine kWZh _ ?_))
  (k_with "MY back" => (rename Fr _ _ _ _ => kFZq; rename News _ _ _ _ => kNZq; rename Kp _ _ => hkZq; replace kFZq := Fr.grownK kFZq hkZq; replace kNZq := News.grown kNZq hkZq; clear hkZq))
  (k_with "MY prem" => ((case kzXz => k_in); (case kzTz => walk_at "MY top"); (case kzdz => k_room); k_whole))
  (k_with "call ref" => (k_here; (with_reducible show wpAny _ _ (call (Value.ref 101) [Value.str _ _]) _ _ _); refine' fspath_str ?kzXz ?kzTz ?kzdz ?_; walk_at "MY prem"; intro hZq tkZq hkZq; walk_at "MY back"))
  (k_with "call ref" => (k_here; (with_reducible show wpAny _ _ (call (Value.ref 101) [Value.bytes _ _]) _ _ _); refine' fspath_bytes ?kzXz ?kzTz ?kzdz ?_; walk_at "MY prem"; intro hZq tkZq hkZq; walk_at "MY back"))
  (k_with "call ref" => (k_here; (with_reducible show wpAny _ _ (call (Value.ref 122) [Value.str _ _]) _ _ _); refine' getsep_str ?kzXz ?kzTz ?kzdz ?_; walk_at "MY prem"; intro hZq tkZq uZq hkZq; walk_at "MY back"))
  (k_with "call ref" => (k_here; (with_reducible show wpAny _ _ (call (Value.ref 122) [Value.bytes _ _]) _ _ _); refine' getsep_bytes ?kzXz ?kzTz ?kzdz ?_; walk_at "MY prem"; intro hZq tkZq uZq hkZq; walk_at "MY back"))
  (k_with "exec While BoolOp cons nil" => (k_here; refine Halt.mk ?_))
  (k_with "exec While Compare cons nil" => (k_here; refine Halt.mk ?_))
  (k_with "MY go" => show wpAny _ _ _ _ _ _)
  (k_with "unpackItems ref" => (k_here; k_dflt (refine' unpackItemsN_ ?kzk1z ?kzk2z ?kzk3z ?kzk4z ?kzk5z ?_; (case kzk1z => k_asm); (case kzk2z => k_asm); (case kzk3z => kun_tup); (case kzk4z => first | exact rfl | assumption); (case kzk5z => exact rfl); k_whole); intro hZq FZq NZq; (try k_sweep)))
  (k_with "exec For Name Name cons nil" => (k_here; (rename Fr _ _ _ _ => lFZq); (with_unfolding_all refine' For_invVF lFZq ?kzk1z ?kzk2z ?_; (case kzk1z => exact rfl); (case kzk2z => exact rfl); k_whole)))
  (k_with "exec For Name Call cons nil" => (k_here; (rename Fr _ _ _ _ => lFZq); (with_unfolding_all refine' For_invVF lFZq ?kzk1z ?kzk2z ?_; (case kzk1z => exact rfl); (case kzk2z => exact rfl); k_whole)))
  (k_with "exec For Name Subscript cons nil" => (k_here; (rename Fr _ _ _ _ => lFZq); (with_unfolding_all refine' For_invVF lFZq ?kzk1z ?kzk2z ?_; (case kzk1z => exact rfl); (case kzk2z => exact rfl); k_whole)))
  (k_with "exec For Name IfExp cons nil" => (k_here; (rename Fr _ _ _ _ => lFZq); (with_unfolding_all refine' For_invVF lFZq ?kzk1z ?kzk2z ?_; (case kzk1z => exact rfl); (case kzk2z => exact rfl); k_whole)))
  (k_with "call ref" => (k_here; (with_reducible show wpAny _ _ (call (Value.ref 153) [Value.int _ _]) _ _ _); refine' law_sign ?kzXz ?kzTz ?kzdz ?kzhhz ?kznz ?_; (case kzhhz => first | assumption | (k_dflt (exact rfl))); (case kznz => first | assumption | omega); walk_at "MY prem"; intro hZq tkZq xZq uZq hkZq hxZq hgZq; walk_at "MY back"))
  k_fill
  intros; trivial
set_option maxHeartbeats 8000000
section
variable {w : World} {A : Around} {mg mb : Str → Option Value} {mean : ExcName → Option Value} {loose : List Str} {s : Shared} {Q : Value → Shared → Prop} {E : Value → Shared → Prop}
theorem law_text {Ls : Addr} {svs : List Value} {ns : List Int} (X : (Mine.hd.heap_39 w.params).In s.heap) (T : Top Mine.hd.view_39 loose mean mg mb s.heap) (hd : A.depth ≤ 550) (hh : A.handled = none)
    (hl : s.heap.IsList Ls svs.toArray) (hi : IntsAre svs ns) (hlen : ns.length ≤ 63)
    (h : ∀ h' tk x u, Kp s.heap h' → x.length ≤ 126 → (∀ c ∈ cpl x, c < 256) → Q (.str x u) { s with heap := h', toks := tk }) : wpAny (model PySem.Challenge.rw_ko0128_04.row.prog w) A (call (.ref 160) [.ref Ls]) Q E s := by
  walk_at "MY enter"
  k_steps
  rename Fr _ _ _ _ => F1
  rename News _ _ _ _ => N1
  refine for_listS (vs := svs) (fun m0 i m nx => nx = [] ∧ Same ["x", "n", "text"] m m0 ∧ ∃ z tz, m "text" = some (.str z tz) ∧ z.length ≤ 2 * i ∧ ∀ c ∈ cpl z, c < 256) hh F1 N1 (hl.at fun o e => F1.keep _ o e) ?_ ?_ ?_ ?_
  · obtain ⟨o, e, _⟩ := hl; exact fun q => by rw [q] at e; exact nomatch (fr_none F1).symm.trans e
  · exact ⟨rfl, Same.refl, _, _, rfl, by decide, by decide⟩
  · rintro I i v m1 nx h1 tk1 own hv hI hnx ⟨rfl, hm, z, tz, hz, hzl, hzc⟩ F3 N3
    obtain ⟨n, t, rfl, hn⟩ := ints_item hi hv
    have hilt := (List.getElem?_eq_some_iff.mp hn).1
    rw [map1 hz hm] at F3
    dsimp only at F3
    clear F1 N1
    have habs : 0 ≤ (if n < 0 then -n else n) := by split <;> omega
    have hdiv : 0 ≤ (if n < 0 then -n else n).fdiv 6 := Int.fdiv_nonneg habs (by decide)
    have hz1 : z.length ≤ 1000000 := by omega
    k_steps
    · refine' ⟨_, _, _, [], rfl, by k_asm, by k_asm, fun _ h => (nomatch h), rfl, ?zsame, _, _, rfl, ?zlen, ?zcp⟩
      case zsame => walk_at "MY same"
      case zlen => simp only [Str.length_append]; omega
      case zcp =>
        intro c hc
        rw [cpl_app, cpl_app] at hc
        rcases List.mem_append.mp hc with hc | hc
        · rcases List.mem_append.mp hc with hc | hc
          · exact hzc c hc
          · have key := fun (x : Str) (h : ∀ c ∈ cpl x, c < 256) (hc : c ∈ cpl x) => h c hc
            exact key _ (by assumption) hc
        · have key := fun (x : Str) (h : ∀ c ∈ cpl x, c < 256) (hc : c ∈ cpl x) => h c hc
          exact key _ (by assumption) hc
    · refine' ⟨_, _, _, [], rfl, by k_asm, by k_asm, fun _ h => (nomatch h), rfl, ?zsame, _, _, rfl, ?zlen, ?zcp⟩
      case zsame => walk_at "MY same"
      case zlen => simp only [Str.length_append]; omega
      case zcp =>
        intro c hc
        rw [cpl_app] at hc
        rcases List.mem_append.mp hc with hc | hc
        · exact hzc c hc
        · rename (∀ c : Nat, c ∈ cpl _ → c < 256) => hg1; exact hg1 c hc
  · rintro m1 nx h1 tk1 ⟨rfl, hm, z, tz, hz, hzl, hzc⟩ F3 N3
    rw [map1 hz hm] at F3
    try dsimp only at F3
    clear F1 N1
    k_steps
    exact h _ _ _ _ F3.keep (by rw [hi.length] at hzl; omega) hzc
end
end
section
theorem fill_C10 (w : World) (h : Heap) : PySem.Challenge.rw_ko0128_04.Holds → (Mine.hd.heap_39 w.params).In h → True := by
  w_top off
  k_with_none
  (k_with "MY top" => first | assumption | exact Top.keeps (by assumption) (Fr.keep (by assumption)))
  (k_with "MY enter" => (refine wpAny_call ?_; (refine' enterK ?kzk1z ?kzk2z ?kzk3z ?kzk4z ?kzk5z ?kzk6z ?kzk7z ?_ ?kzk8z ?kzk9z ?kzk10z ?kzk11z; (case kzk1z => assumption); (case kzk2z => assumption); (case kzk3z => k_room); (case kzk4z => k_is); (case kzk5z => k_is); (case kzk6z => first | exact BindsTo.of_eq rfl | exact binds_K (by k_in) rfl (by k_is) rfl rfl rfl); (case kzk7z => exact locs rfl); (case kzk8z => decide); (case kzk9z => exact rfl); (case kzk10z => exact rfl); (case kzk11z => exact rfl); k_whole; intro LZq hZq FZq NZq; (try dsimp only); (try k_fold))))
  (k_with "call type:type" => (k_here; (with_reducible show wpAny _ _ (call (Value.type "type") [Value.bytes _ _]) _ _ _); refine call_type_of (Tx := "bytes") rfl (by decide) ?_))
  (k_with "call builtin:issubclass" => (k_here; refine call_isub (by first | exact .inl rfl | exact .inr rfl) (News.get (by k_asm) (by k_mem)) ?_))
  (k_with "MY same" => (intro y hy; (try dsimp only); repeat (first | exact rfl | (refine (if_neg ?kzhz).trans ?_; (case kzhz => first | (intro e; subst e; exact absurd hy (by decide)) | (intro e; rw [hy] at e; cases e))))))
  (k_with "assign Tuple" => (k_here; (with_reducible show wpAny _ _ (assign (Expr.Tuple _ _ _) _ (Value.ref _)) _ _ _); k_dflt (refine' kun_list ?kzk1z ?kzk2z ?kzk3z ?kzk4z ?kzk5z ?kzk6z ?_; (case kzk1z => k_asm); (case kzk2z => k_asm); (case kzk3z => kun_lst); (case kzk4z => first | exact rfl | assumption); (case kzk5z => exact rfl); (case kzk6z => exact rfl); k_whole); intro hZq FZq NZq; (try k_sweep)))
  (k_with "assign Tuple" => (k_here; (with_reducible show wpAny _ _ (assign (Expr.Tuple _ _ _) _ (Value.ref _)) _ _ _); k_dflt (refine' unpackN_ ?kzk1z ?kzk2z ?kzk3z ?kzk4z ?kzk5z ?kzk6z ?_; (case kzk1z => k_asm); (case kzk2z => k_asm); (case kzk3z => kun_tup); (case kzk4z => first | exact rfl | assumption); (case kzk5z => exact rfl); (case kzk6z => exact rfl); k_whole); intro hZq FZq NZq; (try k_sweep)))
  (k_with "MY hideT" => (refine hide_post (m := execs _ _) ?_; intro kTE kTEh))
  (k_with "MY hideW" => (intro kWT kWZ kWTh kWZh))
  (k_with "MY showT" => (rename Hid (TurnEnd _ _ _ _ _ _ _) _ => kTEh; refine kTEh _ _ ?_))
  (k_with "MY showW" => (rename Hid (WTurn _ _ _ _ _ _) _ => kWTh; refine kWTh _ _ ?_))
  (k_with "MY showZ" => (rename (∀ s : Shared, _ → _) => kWZh; refine kWZh _ ?_))
  (k_with "MY back" => (rename Fr _ _ _ _ => kFZq; rename News _ _ _ _ => kNZq; rename Kp _ _ => hkZq; replace kFZq := Fr.grownK kFZq hkZq; replace kNZq := News.grown kNZq hkZq; clear hkZq))
  (k_with "MY prem" => ((case kzXz => k_in); (case kzTz => walk_at "MY top"); (case kzdz => k_room); k_whole))
  (k_with "call ref" => (k_here; (with_reducible show wpAny _ _ (call (Value.ref 101) [Value.str _ _]) _ _ _); refine' fspath_str ?kzXz ?kzTz ?kzdz ?_; walk_at "MY prem"; intro hZq tkZq hkZq; walk_at "MY back"))
  (k_with "call ref" => (k_here; (with_reducible show wpAny _ _ (call (Value.ref 101) [Value.bytes _ _]) _ _ _); refine' fspath_bytes ?kzXz ?kzTz ?kzdz ?_; walk_at "MY prem"; intro hZq tkZq hkZq; walk_at "MY back"))
  (k_with "call ref" => (k_here; (with_reducible show wpAny _ _ (call (Value.ref 122) [Value.str _ _]) _ _ _); refine' getsep_str ?kzXz ?kzTz ?kzdz ?_; walk_at "MY prem"; intro hZq tkZq uZq hkZq; walk_at "MY back"))
  (k_with "call ref" => (k_here; (with_reducible show wpAny _ _ (call (Value.ref 122) [Value.bytes _ _]) _ _ _); refine' getsep_bytes ?kzXz ?kzTz ?kzdz ?_; walk_at "MY prem"; intro hZq tkZq uZq hkZq; walk_at "MY back"))
  (k_with "exec While BoolOp cons nil" => (k_here; refine Halt.mk ?_))
  (k_with "exec While Compare cons nil" => (k_here; refine Halt.mk ?_))
  (k_with "MY go" => show wpAny _ _ _ _ _ _)
  (k_with "unpackItems ref" => (k_here; k_dflt (refine' unpackItemsN_ ?kzk1z ?kzk2z ?kzk3z ?kzk4z ?kzk5z ?_; (case kzk1z => k_asm); (case kzk2z => k_asm); (case kzk3z => kun_tup); (case kzk4z => first | exact rfl | assumption); (case kzk5z => exact rfl); k_whole); intro hZq FZq NZq; (try k_sweep)))
  (k_with "exec For Name Name cons nil" => (k_here; (rename Fr _ _ _ _ => lFZq); (with_unfolding_all refine' For_invVF lFZq ?kzk1z ?kzk2z ?_; (case kzk1z => exact rfl); (case kzk2z => exact rfl); k_whole)))
  (k_with "exec For Name Call cons nil" => (k_here; (rename Fr _ _ _ _ => lFZq); (with_unfolding_all refine' For_invVF lFZq ?kzk1z ?kzk2z ?_; (case kzk1z => exact rfl); (case kzk2z => exact rfl); k_whole)))
  (k_with "exec For Name Subscript cons nil" => (k_here; (rename Fr _ _ _ _ => lFZq); (with_unfolding_all refine' For_invVF lFZq ?kzk1z ?kzk2z ?_; (case kzk1z => exact rfl); (case kzk2z => exact rfl); k_whole)))
  (k_with "exec For Name IfExp cons nil" => (k_here; (rename Fr _ _ _ _ => lFZq); (with_unfolding_all refine' For_invVF lFZq ?kzk1z ?kzk2z ?_; (case kzk1z => exact rfl); (case kzk2z => exact rfl); k_whole)))
  (k_with "eval ListComp" => (k_here; k_dflt (refine ListComp_G (F₀ := by k_asm) (by with_unfolding_all rfl) (by decide) (by rfl) (by decide) ?_)))
  (k_with "exec Assign cons ListComp" => (k_here; k_dflt (refine Assign_ListComp_G (F₀ := by k_asm) (by rfl) (by with_unfolding_all rfl) (by with_unfolding_all rfl) (by decide) (by rfl) (by decide) (by rfl) (by rfl) ?_)))
  (k_with "CompAt" => (k_here; refine Halt.mk ?_))
  (k_with "call type:zip" => (k_here; refine Halt.mk ?_))
  (k_with "MY open" => unfold Halt)
  (k_with "call builtin:len" => (k_here; (with_reducible show wpAny _ _ (call (Value.builtin "len") [Value.ref _]) _ _ _); k_dflt (refine' len_any ?kzlz ?kzzz ?_; (case kzlz => kmk_list); (case kzzz => first | assumption | exact Nat.le_of_ble_eq_true rfl))))
  (k_with "subscriptTail Name Name ref int" => (k_here; k_dflt (refine' item_nat ?kzlz ?kzxz ?kzzz ?_; (case kzlz => kmk_list); (case kzxz => assumption); (case kzzz => assumption))))
  (k_with "call type:range" => (k_here; (with_reducible show wpAny _ _ (call _ _) (CompAt _ _ _ _ _ _ _ _ _ _ _ _ _ _) _ _); refine Halt.mk ?_))
  (k_with "binaryOp Add ref ref" => (k_here; k_dflt (refine' add_any ?kzFz ?kzNz ?kzlz ?kzbz ?kzzz ?_; (case kzFz => k_asm); (case kzNz => k_asm); (case kzlz => kmk_list); (case kzbz => kmk_list); (case kzzz => (rw [sizeLine_eq]; (try simp only [List.length_cons, List.length_nil]); omega))); intro DZq hZq FZq NZq l1; (try k_lt l1); (try k_sweep)))
  (k_with "call builtin:max" => (k_here; (with_reducible show wpAny _ _ (call (Value.builtin "max") [Value.ref _]) _ _ _); k_dflt (refine' max_list_N ?kzhz ?kzFz ?kzNz ?kzlz ?kziz ?kzzz ?_; (case kzhz => first | assumption | exact rfl); (case kzFz => k_asm); (case kzNz => k_asm); (case kzlz => kmk_list); (case kziz => first | assumption | exact (IntsAre.cons _ _ .nil).append (by assumption) | exact IntsAre.cons _ _ (by assumption)); (case kzzz => simp)); intro hZq MZq tZq tkZq FZq NZq hM1Zq hM2Zq; (try k_sweep)))
  k_fill
  intros; trivial
set_option maxHeartbeats 8000000
section
variable {w : World} {A : Around} {mg mb : Str → Option Value} {mean : ExcName → Option Value} {loose : List Str} {s : Shared} {Q : Value → Shared → Prop} {E : Value → Shared → Prop}
theorem made_f {x : Str} {t : Tok} (X : (Mine.hd.heap_39 w.params).In s.heap) (T : Top Mine.hd.view_39 loose mean mg mb s.heap) (hd : A.depth ≤ 560) (hh : A.handled = none)
    (h : ∀ h' tk, Kp s.heap h' → Q (.str x t) { s with heap := h', toks := tk }) : wpAny (model PySem.Challenge.rw_ko0128_04.row.prog w) A (call (.ref 165) [.str x t, .bool false]) Q E s := by
  walk_at "MY enter"
  k_steps
  exact h _ _ (Fr.keep (by k_asm))
theorem made_t {x : Str} {t : Tok} (X : (Mine.hd.heap_39 w.params).In s.heap) (T : Top Mine.hd.view_39 loose mean mg mb s.heap) (hd : A.depth ≤ 560) (hh : A.handled = none) (hx : x.length ≤ 20000) (hc : ∀ c ∈ cpl x, c < 256)
    (h : ∀ h' tk P t', Kp s.heap h' → nats P = cpl x → Q (.bytes P t') { s with heap := h', toks := tk }) : wpAny (model PySem.Challenge.rw_ko0128_04.row.prog w) A (call (.ref 165) [.str x t, .bool true]) Q E s := by
  walk_at "MY enter"
  k_steps
  walk_at "MY open"
  rename Fr _ _ _ _ => F1
  rename News _ _ _ _ => N1
  have hxz : x.cps.size ≤ sizeLine := le_size (k := 20000) hx
  refine src_strS (fun n0 i ys nx => nx = n0 ∧ IntsAre ys ((x.cps.toList.take i).map fun c : Nat => (c : Int))) hh F1 N1 hxz rfl rfl ⟨rfl, .nil⟩ ?_ ?_
  · rintro I i c u₁ C oC D m₂ h₂ tk own ys nx E' hc ⟨rfl, hys⟩ hm hC F₂ N₂ hoff _ hCD
    refine tests0 ?_
    k_steps
    exact ⟨_, _, _, rfl, F₂, N₂, hoff, rfl, ints_step hc hys rfl⟩
  rintro g tk ys nx ⟨rfl, hys⟩ D h₂ tk₂ F₂ N₂ hoff
  rw [List.take_of_length_le (by simp)] at hys
  clear F1 N1
  k_steps
  have hl : ys.length ≤ 20000 := by rw [hys.length, List.length_map]; exact hx
  refine call_bytes_ints (vs := ys) (News.isList N₂ (.head _)) hys ?_ (le_size (k := 20000) hl) hh fun h' t' k hk => ?_
  · intro n hn
    obtain ⟨c, hc', rfl⟩ := List.mem_map.mp hn
    have := hc c hc'
    exact ⟨by omega, by omega⟩
  · k_steps
    refine h _ _ _ _ (Kp.trans F₂.keep hk) ?_
    show (byteArr _).toList.map _ = x.cps.toList
    rw [byteArr, List.toList_toArray, List.map_map, List.map_map]
    refine (List.map_congr_left fun c hc' => ?_).trans (List.map_id _)
    have := hc c hc'
    show ((c : Int).toNat.toUInt8).toNat = c
    simp
    omega
end
end
section
theorem fill_C11 (w : World) (h : Heap) : PySem.Challenge.rw_ko0128_04.Holds → (Mine.hd.heap_39 w.params).In h → True := by
  w_top off
  k_with_none
  (k_with "MY top" => first | assumption | exact Top.keeps (by assumption) (Fr.keep (by assumption)))
  (k_with "MY enter" => (refine wpAny_call ?_; (refine' enterK ?kzk1z ?kzk2z ?kzk3z ?kzk4z ?kzk5z ?kzk6z ?kzk7z ?_ ?kzk8z ?kzk9z ?kzk10z ?kzk11z; (case kzk1z => assumption); (case kzk2z => assumption); (case kzk3z => k_room); (case kzk4z => k_is); (case kzk5z => k_is); (case kzk6z => first | exact BindsTo.of_eq rfl | exact binds_K (by k_in) rfl (by k_is) rfl rfl rfl); (case kzk7z => exact locs rfl); (case kzk8z => decide); (case kzk9z => exact rfl); (case kzk10z => exact rfl); (case kzk11z => exact rfl); k_whole; intro LZq hZq FZq NZq; (try dsimp only); (try k_fold))))
  (k_with "call type:type" => (k_here; (with_reducible show wpAny _ _ (call (Value.type "type") [Value.bytes _ _]) _ _ _); refine call_type_of (Tx := "bytes") rfl (by decide) ?_))
  (k_with "call builtin:issubclass" => (k_here; refine call_isub (by first | exact .inl rfl | exact .inr rfl) (News.get (by k_asm) (by k_mem)) ?_))
  (k_with "MY same" => (intro y hy; (try dsimp only); repeat (first | exact rfl | (refine (if_neg ?kzhz).trans ?_; (case kzhz => first | (intro e; subst e; exact absurd hy (by decide)) | (intro e; rw [hy] at e; cases e))))))
  (k_with "assign Tuple" => (k_here; (with_reducible show wpAny _ _ (assign (Expr.Tuple _ _ _) _ (Value.ref _)) _ _ _); k_dflt (refine' kun_list ?kzk1z ?kzk2z ?kzk3z ?kzk4z ?kzk5z ?kzk6z ?_; (case kzk1z => k_asm); (case kzk2z => k_asm); (case kzk3z => kun_lst); (case kzk4z => first | exact rfl | assumption); (case kzk5z => exact rfl); (case kzk6z => exact rfl); k_whole); intro hZq FZq NZq; (try k_sweep)))
  (k_with "assign Tuple" => (k_here; (with_reducible show wpAny _ _ (assign (Expr.Tuple _ _ _) _ (Value.ref _)) _ _ _); k_dflt (refine' unpackN_ ?kzk1z ?kzk2z ?kzk3z ?kzk4z ?kzk5z ?kzk6z ?_; (case kzk1z => k_asm); (case kzk2z => k_asm); (case kzk3z => kun_tup); (case kzk4z => first | exact rfl | assumption); (case kzk5z => exact rfl); (case kzk6z => exact rfl); k_whole); intro hZq FZq NZq; (try k_sweep)))
  (k_with "MY hideT" => (refine hide_post (m := execs _ _) ?_; intro kTE kTEh))
  (k_with "MY hideW" => (intro kWT kWZ kWTh kWZh))
  (k_with "MY showT" => (rename Hid (TurnEnd _ _ _ _ _ _ _) _ => kTEh; refine kTEh _ _ ?_))
  (k_with "MY showW" => (rename Hid (WTurn _ _ _ _ _ _) _ => kWTh; refine kWTh _ _ ?_))
  (k_with "MY showZ" => (rename (∀ s : Shared, _ → _) => kWZh; refine kWZh _ ?_))
  (k_with "MY back" => (rename Fr _ _ _ _ => kFZq; rename News _ _ _ _ => kNZq; rename Kp _ _ => hkZq; replace kFZq := Fr.grownK kFZq hkZq; replace kNZq := News.grown kNZq hkZq; clear hkZq))
  (k_with "MY prem" => ((case kzXz => k_in); (case kzTz => walk_at "MY top"); (case kzdz => k_room); k_whole))
  (k_with "call ref" => (k_here; (with_reducible show wpAny _ _ (call (Value.ref 101) [Value.str _ _]) _ _ _); refine' fspath_str ?kzXz ?kzTz ?kzdz ?_; walk_at "MY prem"; intro hZq tkZq hkZq; walk_at "MY back"))
  (k_with "call ref" => (k_here; (with_reducible show wpAny _ _ (call (Value.ref 101) [Value.bytes _ _]) _ _ _); refine' fspath_bytes ?kzXz ?kzTz ?kzdz ?_; walk_at "MY prem"; intro hZq tkZq hkZq; walk_at "MY back"))
  (k_with "call ref" => (k_here; (with_reducible show wpAny _ _ (call (Value.ref 122) [Value.str _ _]) _ _ _); refine' getsep_str ?kzXz ?kzTz ?kzdz ?_; walk_at "MY prem"; intro hZq tkZq uZq hkZq; walk_at "MY back"))
  (k_with "call ref" => (k_here; (with_reducible show wpAny _ _ (call (Value.ref 122) [Value.bytes _ _]) _ _ _); refine' getsep_bytes ?kzXz ?kzTz ?kzdz ?_; walk_at "MY prem"; intro hZq tkZq uZq hkZq; walk_at "MY back"))
  (k_with "exec While BoolOp cons nil" => (k_here; refine Halt.mk ?_))
  (k_with "exec While Compare cons nil" => (k_here; refine Halt.mk ?_))
  (k_with "MY go" => show wpAny _ _ _ _ _ _)
  (k_with "unpackItems ref" => (k_here; k_dflt (refine' unpackItemsN_ ?kzk1z ?kzk2z ?kzk3z ?kzk4z ?kzk5z ?_; (case kzk1z => k_asm); (case kzk2z => k_asm); (case kzk3z => kun_tup); (case kzk4z => first | exact rfl | assumption); (case kzk5z => exact rfl); k_whole); intro hZq FZq NZq; (try k_sweep)))
  (k_with "exec For Name Name cons nil" => (k_here; (rename Fr _ _ _ _ => lFZq); (with_unfolding_all refine' For_invVF lFZq ?kzk1z ?kzk2z ?_; (case kzk1z => exact rfl); (case kzk2z => exact rfl); k_whole)))
  (k_with "exec For Name Call cons nil" => (k_here; (rename Fr _ _ _ _ => lFZq); (with_unfolding_all refine' For_invVF lFZq ?kzk1z ?kzk2z ?_; (case kzk1z => exact rfl); (case kzk2z => exact rfl); k_whole)))
  (k_with "exec For Name Subscript cons nil" => (k_here; (rename Fr _ _ _ _ => lFZq); (with_unfolding_all refine' For_invVF lFZq ?kzk1z ?kzk2z ?_; (case kzk1z => exact rfl); (case kzk2z => exact rfl); k_whole)))
  (k_with "exec For Name IfExp cons nil" => (k_here; (rename Fr _ _ _ _ => lFZq); (with_unfolding_all refine' For_invVF lFZq ?kzk1z ?kzk2z ?_; (case kzk1z => exact rfl); (case kzk2z => exact rfl); k_whole)))
  (k_with "eval ListComp" => (k_here; k_dflt (refine ListComp_G (F₀ := by k_asm) (by with_unfolding_all rfl) (by decide) (by rfl) (by decide) ?_)))
  (k_with "exec Assign cons ListComp" => (k_here; k_dflt (refine Assign_ListComp_G (F₀ := by k_asm) (by rfl) (by with_unfolding_all rfl) (by with_unfolding_all rfl) (by decide) (by rfl) (by decide) (by rfl) (by rfl) ?_)))
  (k_with "CompAt" => (k_here; refine Halt.mk ?_))
  (k_with "call type:zip" => (k_here; refine Halt.mk ?_))
  (k_with "MY open" => unfold Halt)
  (k_with "call builtin:len" => (k_here; (with_reducible show wpAny _ _ (call (Value.builtin "len") [Value.ref _]) _ _ _); k_dflt (refine' len_any ?kzlz ?kzzz ?_; (case kzlz => kmk_list); (case kzzz => first | assumption | exact Nat.le_of_ble_eq_true rfl))))
  (k_with "subscriptTail Name Name ref int" => (k_here; k_dflt (refine' item_nat ?kzlz ?kzxz ?kzzz ?_; (case kzlz => kmk_list); (case kzxz => assumption); (case kzzz => assumption))))
  (k_with "call type:range" => (k_here; (with_reducible show wpAny _ _ (call _ _) (CompAt _ _ _ _ _ _ _ _ _ _ _ _ _ _) _ _); refine Halt.mk ?_))
  (k_with "binaryOp Add ref ref" => (k_here; k_dflt (refine' add_any ?kzFz ?kzNz ?kzlz ?kzbz ?kzzz ?_; (case kzFz => k_asm); (case kzNz => k_asm); (case kzlz => kmk_list); (case kzbz => kmk_list); (case kzzz => (rw [sizeLine_eq]; (try simp only [List.length_cons, List.length_nil]); omega))); intro DZq hZq FZq NZq l1; (try k_lt l1); (try k_sweep)))
  (k_with "call builtin:max" => (k_here; (with_reducible show wpAny _ _ (call (Value.builtin "max") [Value.ref _]) _ _ _); k_dflt (refine' max_list_N ?kzhz ?kzFz ?kzNz ?kzlz ?kziz ?kzzz ?_; (case kzhz => first | assumption | exact rfl); (case kzFz => k_asm); (case kzNz => k_asm); (case kzlz => kmk_list); (case kziz => first | assumption | exact (IntsAre.cons _ _ .nil).append (by assumption) | exact IntsAre.cons _ _ (by assumption)); (case kzzz => simp)); intro hZq MZq tZq tkZq FZq NZq hM1Zq hM2Zq; (try k_sweep)))
  (k_with "call ref" => (k_here; (with_reducible show wpAny _ _ (call (Value.ref 127) [Value.str _ _, Value.int _ _]) _ _ _); (fail_if_success with_reducible show wpAny _ _ (call (Value.ref 127) [Value.str _ _, Value.int 0 _]) _ _ _); (fail_if_success with_reducible show wpAny _ _ (call (Value.ref 127) [Value.str _ _, Value.int 1 _]) _ _ _); refine Halt.mk ?_))
  (k_with "subscriptTail Name UnaryOp ref int" => (k_here; k_dflt (refine' item_last ?kzlz ?kzxz ?kzzz ?_; (case kzlz => kmk_list); (case kzxz => assumption); (case kzzz => assumption))))
  k_fill
  intros; trivial
set_option maxHeartbeats 8000000
theorem lw_eq (x : Str) : (Txt.split (Txt.lstripChars x (Str.ofString ".")) (Str.ofString ".")).map cpl = lwords (cpl x) := by
  rw [show Str.ofString "." = ch 46 from by decide, cpl_split, cpl_lstrip]; rfl
theorem cut_one {x : Str} {ws : List Str} (e : ws = Txt.split (Txt.lstripChars x (Str.ofString ".")) (Str.ofString ".")) (h : ((ws.length : Nat) : Int) = 1) : cutI (cpl x) = (x.length : Int) := by
  have h1 : (lwords (cpl x)).length = 1 := by rw [← lw_eq, ← e, List.length_map]; omega
  unfold cutI; rw [if_pos h1, cpl_len]
theorem cut_more {x w : Str} {ws : List Str} (e : ws ++ [w] = Txt.split (Txt.lstripChars x (Str.ofString ".")) (Str.ofString ".")) (h : (((ws ++ [w]).length : Nat) : Int) ≠ 1) : cutI (cpl x) = (x.length : Int) - (w.length : Int) - 1 := by
  have h1 : (lwords (cpl x)).length ≠ 1 := by rw [← lw_eq, ← e, List.length_map]; omega
  unfold cutI; rw [if_neg h1, ← lw_eq, ← e, cpl_len, List.map_append]
  simp [cpl, Str.length]
section
variable {w : World} {A : Around} {mg mb : Str → Option Value} {mean : ExcName → Option Value} {loose : List Str} {s : Shared} {Q : Value → Shared → Prop} {E : Value → Shared → Prop}
theorem law_cut {x : Str} {t : Tok} (X : (Mine.hd.heap_39 w.params).In s.heap) (T : Top Mine.hd.view_39 loose mean mg mb s.heap) (hd : A.depth ≤ 560) (hh : A.handled = none) (hx : x.length ≤ 1000)
    (h : ∀ h' tk u, Kp s.heap h' → Q (.int (cutI (cpl x)) u) { s with heap := h', toks := tk }) : wpAny (model PySem.Challenge.rw_ko0128_04.row.prog w) A (call (.ref 172) [.str x t]) Q E s := by
  walk_at "MY enter"
  k_steps
  · rename (List.map _ _ = Txt.split _ _) => hsp
    rename (_ = (1 : Int)) => hone
    rw [← cut_one hsp (by simpa using hone)]
    exact h _ _ _ (Fr.keep (by k_asm))
  · rename (List.map _ _ = Txt.split _ _) => hsp
    rename (_ ≠ (1 : Int)) => hone
    rename (∀ a : Str, a ∈ _ → _) => hlen
    rename List (Str × Tok) => l
    have hll : l.length ≤ 1001 := by
      have e1 := congrArg List.length (lw_eq x)
      rw [← hsp, List.length_map, List.length_map] at e1
      have e2 := spl_len 46 ((cpl x).dropWhile fun a => decide (a = 46))
      have e3 := dw_len (fun a : Nat => decide (a = 46)) (cpl x)
      rw [cpl_len] at e3
      rw [e1]; unfold lwords; omega
    obtain ⟨l', p, rfl⟩ : ∃ l' p, l = l' ++ [p] := by
      rcases List.eq_nil_or_concat l with rfl | ⟨l', p, rfl⟩
      · exfalso
        have e1 := lw_eq x
        rw [← hsp] at e1
        exact spl_ne _ _ e1.symm
      · exact ⟨l', p, by simp⟩
    have hlast : (strValues (l' ++ [p]))[(strValues (l' ++ [p])).length - 1]? = some (.str p.1 p.2) := by simp [strValues]
    have hsz : (strValues (l' ++ [p])).length ≤ sizeLine := le_size (k := 1001) (by simp [strValues]; simp at hll; omega)
    have hpl : p.1.length ≤ 1000000 := by
      have e1 := hlen p.1 (by simp)
      have e2 := congrArg List.length (cpl_lstrip x 46)
      rw [cpl_len] at e2
      have e3 := dw_len (fun a : Nat => decide (a = 46)) (cpl x)
      rw [cpl_len] at e3
      rw [show Str.ofString "." = ch 46 from by decide] at e1
      omega
    rw [List.map_append] at hsp
    have hcut := cut_more (x := x) (ws := l'.map (·.1)) (w := p.1) hsp (by simpa using hone)
    k_steps
    rw [← hcut]
    exact h _ _ _ (Fr.keep (by k_asm))
end
end
section
theorem fill_C12 (w : World) (h : Heap) : PySem.Challenge.rw_ko0128_04.Holds → (Mine.hd.heap_39 w.params).In h → True := by
  w_top off
  k_with_none
  (k_with "MY top" => first | assumption | exact Top.keeps (by assumption) (Fr.keep (by assumption)))
  (k_with "MY enter" => (refine wpAny_call ?_; (refine' enterK ?kzk1z ?kzk2z ?kzk3z ?kzk4z ?kzk5z ?kzk6z ?kzk7z ?_ ?kzk8z ?kzk9z ?kzk10z ?kzk11z; (case kzk1z => assumption); (case kzk2z => assumption); (case kzk3z => k_room); (case kzk4z => k_is); (case kzk5z => k_is); (case kzk6z => first | exact BindsTo.of_eq rfl | exact binds_K (by k_in) rfl (by k_is) rfl rfl rfl); (case kzk7z => exact locs rfl); (case kzk8z => decide); (case kzk9z => exact rfl); (case kzk10z => exact rfl); (case kzk11z => exact rfl); k_whole; intro LZq hZq FZq NZq; (try dsimp only); (try k_fold))))
  (k_with "call type:type" => (k_here; (with_reducible show wpAny _ _ (call (Value.type "type") [Value.bytes _ _]) _ _ _); refine call_type_of (Tx := "bytes") rfl (by decide) ?_))
  (k_with "call builtin:issubclass" => (k_here; refine call_isub (by first | exact .inl rfl | exact .inr rfl) (News.get (by k_asm) (by k_mem)) ?_))
  (k_with "MY same" => (intro y hy; (try dsimp only); repeat (first | exact rfl | (refine (if_neg ?kzhz).trans ?_; (case kzhz => first | (intro e; subst e; exact absurd hy (by decide)) | (intro e; rw [hy] at e; cases e))))))
  (k_with "assign Tuple" => (k_here; (with_reducible show wpAny _ _ (assign (Expr.Tuple _ _ _) _ (Value.ref _)) _ _ _); k_dflt (refine' kun_list ?kzk1z ?kzk2z ?kzk3z ?kzk4z ?kzk5z ?kzk6z ?_; (case kzk1z => k_asm); (case kzk2z => k_asm); (case kzk3z => kun_lst); (case kzk4z => first | exact rfl | assumption); (case kzk5z => exact rfl); (case kzk6z => exact rfl); k_whole); intro hZq FZq NZq; (try k_sweep)))
  (k_with "assign Tuple" => (k_here; (with_reducible show wpAny _ _ (assign (Expr.Tuple _ _ _) _ (Value.ref _)) _ _ _); k_dflt (refine' unpackN_ ?kzk1z ?kzk2z ?kzk3z ?kzk4z ?kzk5z ?kzk6z ?_; (case kzk1z => k_asm); (case kzk2z => k_asm); (case kzk3z => kun_tup); (case kzk4z => first | exact rfl | assumption); (case kzk5z => exact rfl); (case kzk6z => exact rfl); k_whole); intro hZq FZq NZq; (try k_sweep)))
  (k_with "MY hideT" => (refine hide_post (m := execs _ _) ?_; intro kTE kTEh))
  (k_with "MY hideW" => (intro kWT kWZ kWTh kWZh))
  (k_with "MY showT" => (rename Hid (TurnEnd _ _ _ _ _ _ _) _ => kTEh; refine kTEh _ _ ?_))
  (k_with "MY showW" => (rename Hid (WTurn _ _ _ _ _ _) _ => kWTh; refine kWTh _ _ ?_))
  (k_with "MY showZ" => (rename (∀ s : Shared, _ → _) => kWZh; refine kWZh _ ?_))
  (k_with "MY back" => (rename Fr _ _ _ _ => kFZq; rename News _ _ _ _ => kNZq; rename Kp _ _ => hkZq; replace kFZq := Fr.grownK kFZq hkZq; replace kNZq := News.grown kNZq hkZq; clear hkZq))
  (k_with "MY prem" => ((case kzXz => k_in); (case kzTz => walk_at "MY top"); (case kzdz => k_room); k_whole))
  (k_with "call ref" => (k_here; (with_reducible show wpAny _ _ (call (Value.ref 101) [Value.str _ _]) _ _ _); refine' fspath_str ?kzXz ?kzTz ?kzdz ?_; walk_at "MY prem"; intro hZq tkZq hkZq; walk_at "MY back"))
  (k_with "call ref" => (k_here; (with_reducible show wpAny _ _ (call (Value.ref 101) [Value.bytes _ _]) _ _ _); refine' fspath_bytes ?kzXz ?kzTz ?kzdz ?_; walk_at "MY prem"; intro hZq tkZq hkZq; walk_at "MY back"))
  (k_with "call ref" => (k_here; (with_reducible show wpAny _ _ (call (Value.ref 122) [Value.str _ _]) _ _ _); refine' getsep_str ?kzXz ?kzTz ?kzdz ?_; walk_at "MY prem"; intro hZq tkZq uZq hkZq; walk_at "MY back"))
  (k_with "call ref" => (k_here; (with_reducible show wpAny _ _ (call (Value.ref 122) [Value.bytes _ _]) _ _ _); refine' getsep_bytes ?kzXz ?kzTz ?kzdz ?_; walk_at "MY prem"; intro hZq tkZq uZq hkZq; walk_at "MY back"))
  (k_with "exec While BoolOp cons nil" => (k_here; refine Halt.mk ?_))
  (k_with "exec While Compare cons nil" => (k_here; refine Halt.mk ?_))
  (k_with "MY go" => show wpAny _ _ _ _ _ _)
  (k_with "unpackItems ref" => (k_here; k_dflt (refine' unpackItemsN_ ?kzk1z ?kzk2z ?kzk3z ?kzk4z ?kzk5z ?_; (case kzk1z => k_asm); (case kzk2z => k_asm); (case kzk3z => kun_tup); (case kzk4z => first | exact rfl | assumption); (case kzk5z => exact rfl); k_whole); intro hZq FZq NZq; (try k_sweep)))
  (k_with "exec For Name Name cons nil" => (k_here; (rename Fr _ _ _ _ => lFZq); (with_unfolding_all refine' For_invVF lFZq ?kzk1z ?kzk2z ?_; (case kzk1z => exact rfl); (case kzk2z => exact rfl); k_whole)))
  (k_with "exec For Name Call cons nil" => (k_here; (rename Fr _ _ _ _ => lFZq); (with_unfolding_all refine' For_invVF lFZq ?kzk1z ?kzk2z ?_; (case kzk1z => exact rfl); (case kzk2z => exact rfl); k_whole)))
  (k_with "exec For Name Subscript cons nil" => (k_here; (rename Fr _ _ _ _ => lFZq); (with_unfolding_all refine' For_invVF lFZq ?kzk1z ?kzk2z ?_; (case kzk1z => exact rfl); (case kzk2z => exact rfl); k_whole)))
  (k_with "exec For Name IfExp cons nil" => (k_here; (rename Fr _ _ _ _ => lFZq); (with_unfolding_all refine' For_invVF lFZq ?kzk1z ?kzk2z ?_; (case kzk1z => exact rfl); (case kzk2z => exact rfl); k_whole)))
  (k_with "eval ListComp" => (k_here; k_dflt (refine ListComp_G (F₀ := by k_asm) (by with_unfolding_all rfl) (by decide) (by rfl) (by decide) ?_)))
  (k_with "exec Assign cons ListComp" => (k_here; k_dflt (refine Assign_ListComp_G (F₀ := by k_asm) (by rfl) (by with_unfolding_all rfl) (by with_unfolding_all rfl) (by decide) (by rfl) (by decide) (by rfl) (by rfl) ?_)))
  (k_with "CompAt" => (k_here; refine Halt.mk ?_))
  (k_with "call type:zip" => (k_here; refine Halt.mk ?_))
  (k_with "MY open" => unfold Halt)
  (k_with "call builtin:len" => (k_here; (with_reducible show wpAny _ _ (call (Value.builtin "len") [Value.ref _]) _ _ _); k_dflt (refine' len_any ?kzlz ?kzzz ?_; (case kzlz => kmk_list); (case kzzz => first | assumption | exact Nat.le_of_ble_eq_true rfl))))
  (k_with "subscriptTail Name Name ref int" => (k_here; k_dflt (refine' item_nat ?kzlz ?kzxz ?kzzz ?_; (case kzlz => kmk_list); (case kzxz => assumption); (case kzzz => assumption))))
  (k_with "call type:range" => (k_here; (with_reducible show wpAny _ _ (call _ _) (CompAt _ _ _ _ _ _ _ _ _ _ _ _ _ _) _ _); refine Halt.mk ?_))
  (k_with "binaryOp Add ref ref" => (k_here; k_dflt (refine' add_any ?kzFz ?kzNz ?kzlz ?kzbz ?kzzz ?_; (case kzFz => k_asm); (case kzNz => k_asm); (case kzlz => kmk_list); (case kzbz => kmk_list); (case kzzz => (rw [sizeLine_eq]; (try simp only [List.length_cons, List.length_nil]); omega))); intro DZq hZq FZq NZq l1; (try k_lt l1); (try k_sweep)))
  (k_with "call builtin:max" => (k_here; (with_reducible show wpAny _ _ (call (Value.builtin "max") [Value.ref _]) _ _ _); k_dflt (refine' max_list_N ?kzhz ?kzFz ?kzNz ?kzlz ?kziz ?kzzz ?_; (case kzhz => first | assumption | exact rfl); (case kzFz => k_asm); (case kzNz => k_asm); (case kzlz => kmk_list); (case kziz => first | assumption | exact (IntsAre.cons _ _ .nil).append (by assumption) | exact IntsAre.cons _ _ (by assumption)); (case kzzz => simp)); intro hZq MZq tZq tkZq FZq NZq hM1Zq hM2Zq; (try k_sweep)))
  k_fill
  intros; trivial
set_option maxHeartbeats 8000000
theorem nats_jL (p b : List UInt8) : (jL 47 p b).map UInt8.toNat = jL 47 (p.map UInt8.toNat) (b.map UInt8.toNat) :=
  jL_map UInt8.toNat 47 p b fun a _ e => nat_inj a 47 e
section
variable {w : World} {A : Around} {mg mb : Str → Option Value} {mean : ExcName → Option Value} {loose : List Str} {s : Shared} {Q : Value → Shared → Prop} {E : Value → Shared → Prop} {oct : Bool} {v : Value} {l : List Nat}
theorem split_any (X : (Mine.hd.heap_39 w.params).In s.heap) (T : Top Mine.hd.view_39 loose mean mg mb s.heap) (hd : A.depth ≤ 550) (hh : A.handled = none) (hv : VC oct v l) (hl : l.length ≤ 1000000)
    (h : ∀ h' tk D a b, Kp s.heap h' → h'.get? D = some { cls := .type "tuple", data := .seq #[a, b] } → s.heap.get? D = none → VC oct a (headF l) → VC oct b (tailF l) → Q (.ref D) { s with heap := h', toks := tk }) :
    wpAny (model PySem.Challenge.rw_ko0128_04.row.prog w) A (call (.ref 136) [v]) Q E s := by
  cases oct with
  | false =>
    obtain ⟨x, t, rfl, rfl⟩ := hv
    exact split_s X T hd hh (by rw [← cpl_len]; exact hl) fun h' tk D a b ta tb k e1 e2 e3 e4 => h h' tk D _ _ k e1 e2 ⟨a, ta, rfl, e3⟩ ⟨b, tb, rfl, e4⟩
  | true =>
    obtain ⟨x, t, rfl, rfl⟩ := hv
    exact split_b X T hd hh (by rw [← nats_len]; exact hl) fun h' tk D a b ta tb k e1 e2 e3 e4 => h h' tk D _ _ k e1 e2 ⟨a, ta, rfl, e3⟩ ⟨b, tb, rfl, e4⟩
theorem splitext_any (X : (Mine.hd.heap_39 w.params).In s.heap) (T : Top Mine.hd.view_39 loose mean mg mb s.heap) (hd : A.depth ≤ 540) (hh : A.handled = none) (hv : VC oct v l) (hl : l.length ≤ 1000000)
    (h : ∀ h' tk D a b, Kp s.heap h' → h'.get? D = some { cls := .type "tuple", data := .seq #[a, b] } → s.heap.get? D = none → VC oct a (l.take (sxt l)) → VC oct b (l.drop (sxt l)) → Q (.ref D) { s with heap := h', toks := tk }) :
    wpAny (model PySem.Challenge.rw_ko0128_04.row.prog w) A (call (.ref 143) [v]) Q E s := by
  cases oct with
  | false =>
    obtain ⟨x, t, rfl, rfl⟩ := hv
    exact splitext_s X T hd hh (by rw [← cpl_len]; exact hl) fun h' tk D a b ta tb k e1 e2 e3 e4 => h h' tk D _ _ k e1 e2 ⟨a, ta, rfl, e3⟩ ⟨b, tb, rfl, e4⟩
  | true =>
    obtain ⟨x, t, rfl, rfl⟩ := hv
    exact splitext_b X T hd hh (by rw [← nats_len]; exact hl) fun h' tk D a b ta tb k e1 e2 e3 e4 => h h' tk D _ _ k e1 e2 ⟨a, ta, rfl, e3⟩ ⟨b, tb, rfl, e4⟩
theorem join2_any {u : Value} {m : List Nat} (X : (Mine.hd.heap_39 w.params).In s.heap) (T : Top Mine.hd.view_39 loose mean mg mb s.heap) (hd : A.depth ≤ 540) (hh : A.handled = none) (hv : VC oct v l) (hu : VC oct u m) (hz : l.length + m.length + 1 ≤ 1000000)
    (h : ∀ h' tk r, Kp s.heap h' → VC oct r (jL 47 l m) → Q r { s with heap := h', toks := tk }) :
    wpAny (model PySem.Challenge.rw_ko0128_04.row.prog w) A (call (.ref 129) [v, u]) Q E s := by
  cases oct with
  | false =>
    obtain ⟨x, t, rfl, rfl⟩ := hv
    obtain ⟨y, t', rfl, rfl⟩ := hu
    refine join_str (xs := [y]) X T (by omega) hh (Al.cons ⟨t', rfl⟩ alnil) (by rw [cpl_len, cpl_len] at hz; simp [lens]; omega) fun h' tk u k => h h' tk _ k ⟨_, u, rfl, ?_⟩
    exact cpl_jstep x y
  | true =>
    obtain ⟨x, t, rfl, rfl⟩ := hv
    obtain ⟨y, t', rfl, rfl⟩ := hu
    refine join_bytes (xs := [y]) X T (by omega) hh (Al.cons ⟨t', rfl⟩ alnil) (by rw [nats_len, nats_len] at hz; simp [lensL]; omega) fun h' tk u P k hP => h h' tk _ k ⟨P, u, rfl, ?_⟩
    unfold nats
    rw [hP]
    exact nats_jL _ _
theorem made_any {x : Str} {t : Tok} (X : (Mine.hd.heap_39 w.params).In s.heap) (T : Top Mine.hd.view_39 loose mean mg mb s.heap) (hd : A.depth ≤ 560) (hh : A.handled = none) (hx : x.length ≤ 20000) (hc : ∀ c ∈ cpl x, c < 256)
    (h : ∀ h' tk r, Kp s.heap h' → VC oct r (cpl x) → Q r { s with heap := h', toks := tk }) : wpAny (model PySem.Challenge.rw_ko0128_04.row.prog w) A (call (.ref 165) [.str x t, .bool oct]) Q E s := by
  cases oct with
  | false => exact made_f X T hd hh fun h' tk k => h h' tk _ k ⟨x, t, rfl, rfl⟩
  | true => exact made_t X T hd hh hx hc fun h' tk P t' k e => h h' tk _ k ⟨P, t', rfl, e⟩
end
end
section
local macro_rules | `(tactic| k_all) => `(tactic| assumption)
local macro_rules | `(tactic| k_mem) => `(tactic| first | assumption | (refine List.mem_append_right _ ?_; k_mem) | exact List.mem_append_left _ (by assumption))
theorem fill_D1 (w : World) (h : Heap) : PySem.Challenge.rw_ko0128_04.Holds → (Mine.hd.heap_39 w.params).In h → True := by
  w_top off
  k_with_none
  (k_with "MY top" => first | assumption | exact Top.keeps (by assumption) (Fr.keep (by assumption)))
  (k_with "MY enter" => (refine wpAny_call ?_; (refine' enterK ?kzk1z ?kzk2z ?kzk3z ?kzk4z ?kzk5z ?kzk6z ?kzk7z ?_ ?kzk8z ?kzk9z ?kzk10z ?kzk11z; (case kzk1z => assumption); (case kzk2z => assumption); (case kzk3z => k_room); (case kzk4z => k_is); (case kzk5z => k_is); (case kzk6z => first | exact BindsTo.of_eq rfl | exact binds_K (by k_in) rfl (by k_is) rfl rfl rfl); (case kzk7z => exact locs rfl); (case kzk8z => decide); (case kzk9z => exact rfl); (case kzk10z => exact rfl); (case kzk11z => exact rfl); k_whole; intro LZq hZq FZq NZq; (try dsimp only); (try k_fold))))
  (k_with "call type:type" => (k_here; (with_reducible show wpAny _ _ (call (Value.type "type") [Value.bytes _ _]) _ _ _); refine call_type_of (Tx := "bytes") rfl (by decide) ?_))
  (k_with "call builtin:issubclass" => (k_here; refine call_isub (by first | exact .inl rfl | exact .inr rfl) (News.get (by k_asm) (by k_mem)) ?_))
  (k_with "MY same" => (intro y hy; (try dsimp only); repeat (first | exact rfl | (refine (if_neg ?kzhz).trans ?_; (case kzhz => first | (intro e; subst e; exact absurd hy (by decide)) | (intro e; rw [hy] at e; cases e))))))
  (k_with "assign Tuple" => (k_here; (with_reducible show wpAny _ _ (assign (Expr.Tuple _ _ _) _ (Value.ref _)) _ _ _); k_dflt (refine' kun_list ?kzk1z ?kzk2z ?kzk3z ?kzk4z ?kzk5z ?kzk6z ?_; (case kzk1z => k_asm); (case kzk2z => k_asm); (case kzk3z => kun_lst); (case kzk4z => first | exact rfl | assumption); (case kzk5z => exact rfl); (case kzk6z => exact rfl); k_whole); intro hZq FZq NZq; (try k_sweep)))
  (k_with "assign Tuple" => (k_here; (with_reducible show wpAny _ _ (assign (Expr.Tuple _ _ _) _ (Value.ref _)) _ _ _); k_dflt (refine' unpackN_ ?kzk1z ?kzk2z ?kzk3z ?kzk4z ?kzk5z ?kzk6z ?_; (case kzk1z => k_asm); (case kzk2z => k_asm); (case kzk3z => kun_tup); (case kzk4z => first | exact rfl | assumption); (case kzk5z => exact rfl); (case kzk6z => exact rfl); k_whole); intro hZq FZq NZq; (try k_sweep)))
  (k_with "MY hideT" => (refine hide_post (m := execs _ _) ?_; intro kTE kTEh))
  (k_with "MY hideW" => (intro kWT kWZ kWTh kWZh))
  (k_with "MY showT" => (rename Hid (TurnEnd _ _ _ _ _ _ _) _ => kTEh; refine kTEh _ _ ?_))
  (k_with "MY showW" => (rename Hid (WTurn _ _ _ _ _ _) _ => kWTh; refine kWTh _ _ ?_))
  (k_with "MY showZ" => (rename (∀ s : Shared, _ → _) => kWZh; refine kWZh _ ?_))
  (k_with "MY back" => (rename Fr _ _ _ _ => kFZq; rename News _ _ _ _ => kNZq; rename Kp _ _ => hkZq; replace kFZq := Fr.grownK kFZq hkZq; replace kNZq := News.grown kNZq hkZq; clear hkZq))
  (k_with "MY prem" => ((case kzXz => k_in); (case kzTz => walk_at "MY top"); (case kzdz => k_room); k_whole))
  (k_with "call ref" => (k_here; (with_reducible show wpAny _ _ (call (Value.ref 101) [Value.str _ _]) _ _ _); refine' fspath_str ?kzXz ?kzTz ?kzdz ?_; walk_at "MY prem"; intro hZq tkZq hkZq; walk_at "MY back"))
  (k_with "call ref" => (k_here; (with_reducible show wpAny _ _ (call (Value.ref 101) [Value.bytes _ _]) _ _ _); refine' fspath_bytes ?kzXz ?kzTz ?kzdz ?_; walk_at "MY prem"; intro hZq tkZq hkZq; walk_at "MY back"))
  (k_with "call ref" => (k_here; (with_reducible show wpAny _ _ (call (Value.ref 122) [Value.str _ _]) _ _ _); refine' getsep_str ?kzXz ?kzTz ?kzdz ?_; walk_at "MY prem"; intro hZq tkZq uZq hkZq; walk_at "MY back"))
  (k_with "call ref" => (k_here; (with_reducible show wpAny _ _ (call (Value.ref 122) [Value.bytes _ _]) _ _ _); refine' getsep_bytes ?kzXz ?kzTz ?kzdz ?_; walk_at "MY prem"; intro hZq tkZq uZq hkZq; walk_at "MY back"))
  (k_with "exec While BoolOp cons nil" => (k_here; refine Halt.mk ?_))
  (k_with "exec While Compare cons nil" => (k_here; refine Halt.mk ?_))
  (k_with "MY go" => show wpAny _ _ _ _ _ _)
  (k_with "unpackItems ref" => (k_here; k_dflt (refine' unpackItemsN_ ?kzk1z ?kzk2z ?kzk3z ?kzk4z ?kzk5z ?_; (case kzk1z => k_asm); (case kzk2z => k_asm); (case kzk3z => kun_tup); (case kzk4z => first | exact rfl | assumption); (case kzk5z => exact rfl); k_whole); intro hZq FZq NZq; (try k_sweep)))
  (k_with "exec For Name Name cons nil" => (k_here; (rename Fr _ _ _ _ => lFZq); (with_unfolding_all refine' For_invVF lFZq ?kzk1z ?kzk2z ?_; (case kzk1z => exact rfl); (case kzk2z => exact rfl); k_whole)))
  (k_with "exec For Name Call cons nil" => (k_here; (rename Fr _ _ _ _ => lFZq); (with_unfolding_all refine' For_invVF lFZq ?kzk1z ?kzk2z ?_; (case kzk1z => exact rfl); (case kzk2z => exact rfl); k_whole)))
  (k_with "exec For Name Subscript cons nil" => (k_here; (rename Fr _ _ _ _ => lFZq); (with_unfolding_all refine' For_invVF lFZq ?kzk1z ?kzk2z ?_; (case kzk1z => exact rfl); (case kzk2z => exact rfl); k_whole)))
  (k_with "exec For Name IfExp cons nil" => (k_here; (rename Fr _ _ _ _ => lFZq); (with_unfolding_all refine' For_invVF lFZq ?kzk1z ?kzk2z ?_; (case kzk1z => exact rfl); (case kzk2z => exact rfl); k_whole)))
  (k_with "eval ListComp" => (k_here; k_dflt (refine ListComp_G (F₀ := by k_asm) (by with_unfolding_all rfl) (by decide) (by rfl) (by decide) ?_)))
  (k_with "exec Assign cons ListComp" => (k_here; k_dflt (refine Assign_ListComp_G (F₀ := by k_asm) (by rfl) (by with_unfolding_all rfl) (by with_unfolding_all rfl) (by decide) (by rfl) (by decide) (by rfl) (by rfl) ?_)))
  (k_with "CompAt" => (k_here; refine Halt.mk ?_))
  (k_with "call type:zip" => (k_here; refine Halt.mk ?_))
  (k_with "MY open" => unfold Halt)
  (k_with "call builtin:len" => (k_here; (with_reducible show wpAny _ _ (call (Value.builtin "len") [Value.ref _]) _ _ _); k_dflt (refine' len_any ?kzlz ?kzzz ?_; (case kzlz => kmk_list); (case kzzz => first | assumption | exact Nat.le_of_ble_eq_true rfl))))
  (k_with "subscriptTail Name Name ref int" => (k_here; k_dflt (refine' item_nat ?kzlz ?kzxz ?kzzz ?_; (case kzlz => kmk_list); (case kzxz => assumption); (case kzzz => assumption))))
  (k_with "call type:range" => (k_here; (with_reducible show wpAny _ _ (call _ _) (CompAt _ _ _ _ _ _ _ _ _ _ _ _ _ _) _ _); refine Halt.mk ?_))
  (k_with "binaryOp Add ref ref" => (k_here; k_dflt (refine' add_any ?kzFz ?kzNz ?kzlz ?kzbz ?kzzz ?_; (case kzFz => k_asm); (case kzNz => k_asm); (case kzlz => kmk_list); (case kzbz => kmk_list); (case kzzz => (rw [sizeLine_eq]; (try simp only [List.length_cons, List.length_nil]); omega))); intro DZq hZq FZq NZq l1; (try k_lt l1); (try k_sweep)))
  (k_with "call builtin:max" => (k_here; (with_reducible show wpAny _ _ (call (Value.builtin "max") [Value.ref _]) _ _ _); k_dflt (refine' max_list_N ?kzhz ?kzFz ?kzNz ?kzlz ?kziz ?kzzz ?_; (case kzhz => first | assumption | exact rfl); (case kzFz => k_asm); (case kzNz => k_asm); (case kzlz => kmk_list); (case kziz => first | assumption | exact (IntsAre.cons _ _ .nil).append (by assumption) | exact IntsAre.cons _ _ (by assumption)); (case kzzz => simp)); intro hZq MZq tZq tkZq FZq NZq hM1Zq hM2Zq; (try k_sweep)))
  (k_with "call builtin:list.append" => (k_here; refine Halt.mk ?_))
  (k_with "call type:list" => (k_here; (with_reducible show wpAny _ _ (call (Value.type "list") [Value.bytes _ _]) _ _ _); refine Halt.mk ?_))
  (k_with "subscriptTail Name Constant ref int" => (k_here; k_dflt (refine' item_zero ?kzlz ?_; (case kzlz => kmk_list))))
  (k_with "compareOp Eq ref ref" => (k_here; first | k_dflt (refine' ke_eq_ints ?kzaz ?kzbz ?kziz ?kzjz ?kzuz ?_; (case kzaz => kmk_list); (case kzbz => kmk_list); (case kziz => first | assumption | exact IntsAre.nil); (case kzjz => first | assumption | exact IntsAre.nil); (case kzuz => (simp only [units_in1, units_deeper, Around.mark_units]; rw [show cLine = 9900 from rfl]; omega))) | refine Halt.mk ?_))
  (k_with "call ref" => (k_here; (with_reducible show wpAny _ _ (call (Value.ref 136) _) _ _ _); refine Halt.mk ?_))
  (k_with "call ref" => (k_here; (with_reducible show wpAny _ _ (call (Value.ref 143) _) _ _ _); refine Halt.mk ?_))
  (k_with "call ref" => (k_here; (with_reducible show wpAny _ _ (call (Value.ref 129) _) _ _ _); refine Halt.mk ?_))
  (k_with "call ref" => (k_here; (with_reducible show wpAny _ _ (call (Value.ref 160) _) _ _ _); refine Halt.mk ?_))
  (k_with "call ref" => (k_here; (with_reducible show wpAny _ _ (call (Value.ref 165) _) _ _ _); refine Halt.mk ?_))
  (k_with "call ref" => (k_here; (with_reducible show wpAny _ _ (call (Value.ref 172) _) _ _ _); refine Halt.mk ?_))
  (k_with "call type:range" => (k_here; (with_reducible show wpAny _ _ (call _ [Value.int _ _]) _ _ _); refine Halt.mk ?_))
  (k_with "compareOp NotEq" => (k_here; refine Halt.mk ?_))
  (k_with "compareOp NotEq ref ref" => (k_here; refine Halt.mk ?_))
  (k_with "exec For Tuple Name cons nil" => (k_here; k_dflt (refine For_T ?_)))
  (k_with "LoopT" => (k_here; refine Halt.mk ?_))
  (k_with "binaryOp Add" => (k_here; refine Halt.mk ?_))
  (k_with "exec If" => (k_here; rename MergeMark => kMM; clear kMM; refine Halt.mk ?_))
  k_fill
  intros; trivial
set_option maxHeartbeats 8000000
theorem news_old2 {h h' : Heap} {L : Addr} {a b : Addr × Obj} {r : List (Addr × Obj)} (N : News h L h' (a :: b :: r)) : ∃ old, old = r := ⟨r, rfl⟩
theorem news_led {h₀ h h' : Heap} {L D : Addr} {o o' : Obj} {a b : Addr × Obj} {old : List (Addr × Obj)} (N : News h₀ L h (a :: (D, o) :: b :: old)) (e : h'.get? D = some o') (k : ∀ b o, b ≠ D → h.get? b = some o → h'.get? b = some o) (h1 : a.1 ≠ D) (h2 : ∀ p ∈ b :: old, p.1 ≠ D) : News h₀ L h' ((D, o') :: a :: b :: old) := by
  intro p hp
  rcases List.mem_cons.mp hp with rfl | hp
  · exact ⟨e, (N _ (.tail _ (.head _))).2⟩
  rcases List.mem_cons.mp hp with rfl | hp
  · exact ⟨k _ _ h1 (N _ (.head _)).1, (N _ (.head _)).2⟩
  · have h7 := N _ (.tail _ (.tail _ hp))
    exact ⟨k _ _ (h2 _ hp) h7.1, h7.2⟩
theorem news_l {h₀ h : Heap} {L : Addr} {p : Addr × Obj} {pre old : List (Addr × Obj)} (N : News h₀ L h (pre ++ old)) (hp : p ∈ pre) : p ∈ pre ++ old := List.mem_append_left _ hp
theorem sum_len {rs : List Str} {B n : Nat} (h : ∀ r ∈ rs, r.length ≤ B) (hn : rs.length ≤ n) (hz : n * (B + 1) ≤ 1048576) : (rs.map (·.length)).sum + rs.length ≤ 1048576 := by
  have key : ∀ l : List Str, (∀ r ∈ l, r.length ≤ B) → (l.map (·.length)).sum + l.length ≤ l.length * (B + 1) := fun l => by
    induction l with
    | nil => intro _; simp
    | cons a r ih =>
      intro hl
      have h1 := hl a (.head _)
      have h2 := ih fun z hz => hl z (.tail _ hz)
      rw [List.map_cons, List.sum_cons, List.length_cons, Nat.succ_mul]; omega
  exact Nat.le_trans (key rs h) (Nat.le_trans (Nat.mul_le_mul_right (B + 1) hn) hz)
theorem txt_join (ys : List Str) : cpl (Txt.join (Str.ofString "/") ys) = ijoin 47 (ys.map cpl) := by
  rw [show Txt.join (Str.ofString "/") ys = Str.join (Str.ofString "/") ys from StrLaws.glued_eq_join _ _, show Str.ofString "/" = ch 47 from by decide, cpl_join]
theorem octs_made {x y : Str} {rr : List (List Nat)} (hc : ∀ c ∈ cpl x, c < 256) (h : cpl y = frontF (cpl x) ++ ijoin 47 rr) (hr : ∀ r ∈ rr, ∀ a ∈ r, a ∈ cpl x) : ∀ c ∈ cpl y, c < 256 := fun c k => by
  rw [h] at k
  rcases List.mem_append.mp k with k | k
  · exact hc c (front_sub k)
  rcases ij_sub k with rfl | ⟨r, hr1, k⟩
  · decide
  · exact hc c (hr r hr1 c k)
theorem told_up {h₀ h : Heap} {L : Addr} {oct : Bool} {tvs : List Value} {ds : List (List Nat)} {a b : Addr × Obj} {inner pre old : List (Addr × Obj)} (N : News h₀ L h (a :: (inner ++ b :: (pre ++ old)))) (h : Al (T2 old oct) tvs ds) : Al (T2 (a :: (inner ++ b :: (pre ++ old))) oct) tvs ds :=
  h.mono fun v d _ q => q.sub fun p hp => .tail _ (List.mem_append_right _ (.tail _ (List.mem_append_right _ hp)))
theorem due_up {h₀ h : Heap} {L : Addr} {oct : Bool} {tvs : List Value} {ds : List (List Nat)} {a b : Addr × Obj} {inner pre old : List (Addr × Obj)} (N : News h₀ L h (a :: (inner ++ b :: (pre ++ old)))) (h : Al (T2 inner oct) tvs ds) : Al (T2 (a :: (inner ++ b :: (pre ++ old))) oct) tvs ds :=
  h.mono fun v d _ q => q.sub fun p hp => .tail _ (List.mem_append_left _ hp)
theorem holds4 : PySem.Challenge.rw_ko0128_04.Holds := Mine.hd (by
  k_go0; (all_goals try k_fold)
  k_steps
  walk_at "MY open"
  rename Heap.IsList _ _ _ => hL
  rename IntsAre _ _ => hI
  rename List Int => ns
  rename ¬ _ => hc
  rename Fr _ _ _ _ => F1
  rename News _ _ _ _ => N1
  rename Below _ _ _ _ => K0
  rename Frag.In _ _ => KX
  rename Top _ _ _ _ _ _ => TT
  have hlen := hI.length
  refine law_text (KX.keeps F1.keep) (TT.keeps F1.keep) (by k_room) rfl (hL.at fun o e => F1.keep _ o e) hI (by omega) (fun h' tk x u k1 hxl hxc => ?_)
  have F2 := F1.keeps k1
  have N2 := N1.grown k1
  clear F1 N1
  k_steps
  walk_at "MY open"
  generalize (ns.sum.fmod 2 == 1) = oct at *
  rename Fr _ _ _ _ => F3
  rename News _ _ _ _ => N3
  refine made_any (KX.keeps F3.keep) (TT.keeps F3.keep) (by k_room) rfl (by omega) hxc fun h' tk v k2 hv => ?_
  have F4 := F3.keeps k2
  have N4 := N3.grown k2
  try clear F2 N2
  try clear F3 N3
  k_steps
  walk_at "MY open"
  rename Fr _ _ _ _ => F5
  rename News _ _ _ _ => N5
  refine for_range1 (n := x.length) (fun n0 m0 i m nx => Same ["_", "head", "tail", "told", "here"] m m0 ∧ ∃ junk u Lt tvs c, nx = junk ++ n0 ∧ m "here" = some u ∧ VC oct u (itF (cpl x, []) i).1 ∧ m "told" = some (.ref Lt) ∧ (Lt, lobj tvs c) ∈ nx ∧ Al (T2 nx oct) tvs (itF (cpl x, []) i).2) rfl F5 N5 (le_size (k := 126) hxl) ⟨Same.refl, [], v, _, [], 0, rfl, rfl, hv, rfl, .head _, alnil⟩ ?_ ?_
  · rintro I i tv m1 nx h1 tk1 own hi hI hown hnx ⟨hm, junk, u, Lt, tvs, c, rfl, g1, hu, g2, hLt, htv⟩ F6 N6
    rw [map2 g1 g2 hm] at F6
    dsimp only at F6
    try clear F5 N5
    try clear F4 N4
    walk_at "MY hideT"
    have hil := itF_len (cpl x, []) i
    have hul : (itF (cpl x, []) i).1.length ≤ 126 := Nat.le_trans hil.1 (by show (cpl x).length ≤ 126; rw [cpl_len]; exact hxl)
    have htl : tvs.length ≤ 126 := by rw [htv.1]; have h2 : _ ≤ 0 + i := hil.2; omega
    k_steps
    walk_at "MY open"
    rename Fr _ _ _ _ => F7
    rename News _ _ _ _ => N7
    refine split_any (KX.keeps F7.keep) (TT.keeps F7.keep) (by k_room) rfl hu (by omega) fun h' tk D a b k7 e1 e2 ha hb => ?_
    have N8 := news_new F7 N7 k7 (nw := [(D, _)]) (fun p hp => by rw [List.mem_singleton.mp hp]; exact ⟨e1, e2⟩)
    have F8 := F7.keeps k7
    obtain ⟨oI, hoI⟩ := hI
    have hDI := ne_none e2 (N7 _ (List.mem_append_left _ hoI)).1
    clear F7 N7
    simp only [List.cons_append, List.nil_append] at N8
    k_steps
    walk_at "MY open"
    refine ne_VC ha hu ?_
    k_steps
    · have hne : headF (itF (cpl x, []) i).1 ≠ (itF (cpl x, []) i).1 := by assumption
      walk_at "MY open"
      rename Fr _ _ _ _ => F9
      rename News _ _ _ _ => N9
      have htl2 := tailF_len (itF (cpl x, []) i).1
      refine splitext_any (KX.keeps F9.keep) (TT.keeps F9.keep) (by k_room) rfl hb (by omega) fun h' tk D2 a2 b2 k9 e3 e4 ha2 hb2 => ?_
      have hD2I := ne_none e4 (N9 _ (List.mem_cons_of_mem _ (List.mem_append_left _ hoI))).1
      have N10 := news_new F9 N9 k9 (nw := [(D2, _)]) (fun p hp => by rw [List.mem_singleton.mp hp]; exact ⟨e3, e4⟩)
      have F10 := F9.keeps k9
      clear F9 N9
      simp only [List.cons_append, List.nil_append] at N10
      k_steps
      rename Fr _ _ _ _ => F11
      rename News _ _ _ _ => N11
      rename (_ < _ ∧ _ < _ ∧ _ < _ ∧ AllLt _ _) => lt1
      rename (_ < _ ∧ _ < _ ∧ AllLt _ _) => lt2
      obtain ⟨N12, off12⟩ := turn_news' (nw := [_, _, _, _]) N11 hnx (by
        intro p hp
        rcases List.mem_cons.mp hp with rfl | hp
        · exact Nat.ne_of_gt (ktn_ltOf lt1.2.2.2 _ (List.mem_append_left _ hoI))
        rcases List.mem_cons.mp hp with rfl | hp
        · exact Nat.ne_of_gt (ktn_ltOf lt2.2.2 _ (List.mem_append_left _ hoI))
        rcases List.mem_cons.mp hp with rfl | hp
        · exact hD2I
        · rw [List.mem_singleton.mp hp]; exact hDI)
      walk_at "MY showT"
      refine' ⟨_, _, _, _, rfl, F11, N12, off12, ?zs, _ :: _ :: _ :: _ :: junk, a, _, _, 0, rfl, rfl, ?zv, rfl, .head _, ?zt⟩
      case zs => walk_at "MY same"
      case zv => rw [itF, stepF_yes hne]; exact ha
      case zt =>
        rw [itF, stepF_yes hne]
        exact Al.cons ⟨D2, a2, b2, rfl, .tail _ (.tail _ (.head _)), ha2, hb2⟩ (htv.mono fun v d _ q => q.sub fun p hp => .tail _ (.tail _ (.tail _ (.tail _ hp))))
    · have hne : ¬ headF (itF (cpl x, []) i).1 ≠ (itF (cpl x, []) i).1 := by assumption
      have hne := Classical.not_not.mp hne
      rename Fr _ _ _ _ => F11
      rename News _ _ _ _ => N11
      obtain ⟨N12, off12⟩ := turn_news' (nw := [_]) N11 hnx (by
        intro p hp
        rw [List.mem_singleton.mp hp]; exact hDI)
      walk_at "MY showT"
      refine' ⟨_, _, _, _, rfl, F11, N12, off12, ?zs, _ :: junk, u, Lt, tvs, c, rfl, rfl, ?zv, rfl, .tail _ hLt, ?zt⟩
      case zs => walk_at "MY same"
      case zv => rw [itF, stepF_no hne]; exact hu
      case zt =>
        rw [itF, stepF_no hne]
        exact htv.mono fun v d _ q => q.sub fun p hp => .tail _ hp
  · rintro m1 nx h1 tk1 ⟨hm, junk, u, Lt, tvs, c, rfl, g1, hu, g2, hLt, htv⟩ F6 N6
    rw [map2 g1 g2 hm] at F6
    try dsimp only at F6
    try clear F5 N5
    try clear F4 N4
    have hnl : tvs.length ≤ 126 := by
      have h2 : _ ≤ 0 + x.length := (itF_len (cpl x, []) x.length).2
      rw [htv.1]; omega
    rw [it_all x.length (cpl x) [] (by rw [cpl_len]; exact Nat.le_refl _), List.append_nil] at hu htv
    dsimp only at hu htv
    have hnl2 := htv.1
    have hcl : (cpl x).length ≤ 126 := by rw [cpl_len]; exact hxl
    have hnm : ∀ r ∈ namesF (cpl x), r.length ≤ 126 := fun r hr => Nat.le_trans (names_plen hr) hcl
    have hrt : ∀ r ∈ rootsF (cpl x), r.length ≤ 126 := fun r hr => by
      obtain ⟨p, hp, rfl⟩ := List.mem_map.mp hr
      rw [List.length_take]; have := hnm p hp; omega
    have hrl : (rootsF (cpl x)).length ≤ 126 := by unfold rootsF; rw [List.length_map]; omega
    k_steps
    walk_at "MY open"
    rename Fr _ _ _ _ => F7
    rename News _ _ _ _ => N7
    refine listU (vs := tvs) (fun n0 m0 i m nx => nx = n0 ∧ Same ["root", "ext", "bare", "whole"] m m0 ∧ ∃ bv wv, m "bare" = some bv ∧ m "whole" = some wv ∧ VC oct bv (((rootsF (cpl x)).take i).foldl (jL 47) (frontF (cpl x))) ∧ VC oct wv (((namesF (cpl x)).take i).foldl (jL 47) (frontF (cpl x)))) rfl F7 N7 hLt (News.isList N7 hLt) ⟨rfl, Same.refl, u, u, rfl, rfl, hu, hu⟩ (fun i m nx h => by rw [h.1]; exact hLt) (fun v hv => ?_) ?_ ?_
    · obtain ⟨i, hi⟩ := List.getElem?_of_mem hv
      obtain ⟨d, _, D, a, b, e, _⟩ := htv.2 i v hi
      exact ⟨D, e⟩
    · rintro I oI i v m2 nx h2 tk2 hv hoff ⟨rfl, hm2, bv, wv, g3, g4, hb, hw⟩ F8 N8
      obtain ⟨nm, hnm2, D, a, b, rfl, hDm, ha, hbb⟩ := htv.2 i v hv
      rw [map2 g3 g4 hm2] at F8
      try dsimp only at F8
      clear F7 N7
      have hri : (rootsF (cpl x))[i]? = some (nm.take (sxt nm)) := by unfold rootsF; rw [List.getElem?_map, hnm2]; rfl
      have hnl3 := hnm nm (List.mem_of_getElem? hnm2)
      have l1 := fold_len (l := cpl x) i hcl hrt hrl
      have l2 := fold_len (l := cpl x) i hcl hnm (by omega)
      have l3 : (nm.take (sxt nm)).length ≤ 126 := by rw [List.length_take]; omega
      have l4 : (nm.drop (sxt nm)).length ≤ 126 := by rw [List.length_drop]; omega
      k_steps
      walk_at "MY open"
      rename Fr _ _ _ _ => F9
      rename News _ _ _ _ => N9
      refine join2_any (KX.keeps F9.keep) (TT.keeps F9.keep) (by k_room) rfl hb ha (by omega) fun h' tk r k9 hr => ?_
      have F10 := F9.keeps k9
      have N10 := N9.grown k9
      clear F9 N9
      k_steps
      walk_at "MY open"
      refine add_VC ha hbb (by omega) fun r2 k hr2 => ?_
      rw [List.take_append_drop] at hr2
      k_steps
      walk_at "MY open"
      rename Fr _ _ _ _ => F11
      rename News _ _ _ _ => N11
      refine join2_any (KX.keeps F11.keep) (TT.keeps F11.keep) (by k_room) rfl hw hr2 (by omega) fun h' tk r3 k11 hr3 => ?_
      have F12 := F11.keeps k11
      have N12 := N11.grown k11
      clear F11 N11
      k_steps
      refine' ⟨_, _, _, _, rfl, by k_asm, (by k_asm : News _ _ _ ([(I, oI)] ++ _)), fun p hp hm => hoff p hp (List.mem_singleton.mp hm), rfl, ?zs, r, r3, rfl, rfl, ?zb, ?zw⟩
      case zs => walk_at "MY same"
      case zb => rw [fold_snoc hri]; exact hr
      case zw => rw [fold_snoc hnm2]; exact hr3
    · rintro m2 nx h2 tk2 ⟨rfl, hm2, bv, wv, g3, g4, hb, hw⟩ F8 N8
      rw [map2 g3 g4 hm2] at F8
      try dsimp only at F8
      try clear F7 N7
      have hrl2 : (rootsF (cpl x)).length = (namesF (cpl x)).length := by simp [rootsF]
      rw [List.take_of_length_le (by omega)] at hb
      rw [List.take_of_length_le (by omega)] at hw
      rw [show (rootsF (cpl x)).foldl (jL 47) (frontF (cpl x)) = frontF (cpl x) ++ ijoin 47 (rootsF (cpl x)) from law4_bare (cpl x)] at hb
      rw [law4_whole] at hw
      k_steps
      walk_at "MY open"
      rename Fr _ _ _ _ => F9
      rename News _ _ _ _ => N9
      rename (List.map _ _ = Txt.split _ _) => hsp
      rename List (Str × Tok) => sl
      have hsp2 : (sl.map (·.1)).map cpl = spl 47 (cpl x) := by rw [hsp, show Str.ofString "/" = ch 47 from by decide, cpl_split]
      have hsl : (strValues sl).length ≤ sizeLine := le_size (k := 127) (by
        have e1 := congrArg List.length hsp2
        have e2 := spl_len 47 (cpl x)
        rw [List.length_map, List.length_map] at e1
        simp only [strValues, List.length_map]; omega)
      refine src_listS (vs := strValues sl) (fun n0 i ys nx => nx = n0 ∧ ∃ ws : List Str, StrsAre ys ws ∧ ws.map cpl = ((spl 47 (cpl x)).take i).filter fun p => decide (p ≠ [])) rfl F9 N9 (News.isList N9 (.head _)) (N9 _ (.head _)).2.1 hsl rfl rfl ⟨rfl, [], .nil, rfl⟩ ?_ ?_
      · rintro I i v C oC D m₂ h₂ tk own ys nx E' hv ⟨rfl, ws, hys, hws⟩ hm hC F₂ N₂ hoff _ hCD
        obtain ⟨p, hp, rfl⟩ : ∃ p, sl[i]? = some p ∧ v = .str p.1 p.2 := by
          unfold strValues at hv
          rw [List.getElem?_map] at hv
          obtain ⟨p, hp, e⟩ := Option.map_eq_some_iff.mp hv
          exact ⟨p, hp, e.symm⟩
        have hpi : (spl 47 (cpl x))[i]? = some (cpl p.1) := by rw [← hsp2, List.getElem?_map, List.getElem?_map, hp]; rfl
        refine tests1 ?_
        k_steps
        · rename ((p.1 != _) = true) => hne
          rw [ne_empty, decide_eq_true_eq] at hne
          exact ⟨_, _, _, rfl, by k_asm, by k_asm, hoff, rfl, ws ++ [p.1], strs_snoc hys, names_step hpi hws hne⟩
        · rename ((p.1 != _) = false) => hne
          rw [ne_empty, decide_eq_false_iff_not, Classical.not_not] at hne
          exact ⟨_, _, _, rfl, by k_asm, by k_asm, hoff, rfl, ws, hys, names_skip hpi hws hne⟩
      rintro g tk ys nx ⟨rfl, ws, hys, hws⟩ D h₂ tk₂ F₂ N₂ hoff
      rw [List.take_of_length_le (by rw [← hsp2]; simp [strValues])] at hws
      have hws : ws.map cpl = namF (cpl x) := hws
      clear F9 N9
      have hmark := MergeMark.mk
      k_steps
      walk_at "MY open"
      rename Fr _ _ _ _ => F9
      rename News _ _ _ _ => N9
      have hyl : ys.length ≤ 127 := by
        have e1 := congrArg List.length hws
        rw [List.length_map] at e1
        have e2 : (namF (cpl x)).length ≤ (spl 47 (cpl x)).length := List.length_filter_le _ _
        have e3 := spl_len 47 (cpl x)
        rw [hys.length]; omega
      have hyz : ys.length ≤ sizeLine := le_size (k := 127) hyl
      obtain ⟨old, hold⟩ := news_old2 N9
      refine exec_mergeJ F9 (fun nx => ∃ ys' ws' c' pre, nx = pre ++ old ∧ (D, lobj ys' c') ∈ pre ∧ StrsAre ys' ws' ∧ ws'.map cpl = namesF (cpl x)) ?_ ?_
      · intro K hK
        k_steps
        walk_at "MY open"
        refine ne_nil_list (xs := ys) (by k_asm) (by k_mem) (by k_mem) ?_ ?_
        · simp only [units_in1, units_deeper, Around.mark_units]; decide
        rw [nam_empty hws hys]
        by_cases hnz : namF (cpl x) = []
        · rw [decide_eq_true hnz]
          dsimp only [Bool.not_true]
          k_steps
          exact hK _ _ _ (by k_asm) (by k_asm) ⟨ys, ws, _, [_, _, _], by rw [hold]; rfl, .tail _ (.head _), hys, names_same hws fun q => q.1 hnz⟩
        · rw [decide_eq_false hnz]
          dsimp only [Bool.not_false]
          have hx1 : 1 ≤ x.length := by
            rcases Nat.eq_zero_or_pos x.length with h0 | h0
            · exfalso
              rw [← cpl_len] at h0
              rw [List.length_eq_zero_iff.mp h0] at hnz
              exact hnz nam_nil
            · exact h0
          k_steps
          · rename ((Txt.item x (-1) == _) = true) => hsl3
            rw [last_slash hx1, decide_eq_true_eq] at hsl3
            walk_at "MY open"
            rename Fr _ _ _ _ => F11
            rename News _ _ _ _ => N11
            refine append_led F11 N11 (.tail _ (.head _)) hyz fun h5 k5 F12 hP6 hk6 => ?_
            clear F11
            rename (_ < _ ∧ _ < _ ∧ AllLt _ _) => lt1
            have N12 := news_led N11 hP6 hk6 (Nat.ne_of_gt lt1.1) hoff
            rw [← hold] at N12
            k_steps
            exact hK h5 _ _ F12 N12 ⟨_, ws ++ [Str.ofString ""], _, [_, _, _], rfl, .head _, strs_snoc hys, names_end hws hnz hsl3⟩
          · rename ((Txt.item x (-1) == _) = false) => hsl3
            rw [last_slash hx1, decide_eq_false_iff_not] at hsl3
            exact hK _ _ _ (by k_asm) (by k_asm) ⟨ys, ws, _, [_, _, _], by rw [hold]; rfl, .tail _ (.head _), hys, names_same hws fun q => hsl3 q.2⟩
      · rintro h5 tk5 nx F10 N10 ⟨ys', ws', c', pre, rfl, hDp, hys2, hws2⟩
        try clear F9 N9
        try clear N2
        subst hold
        have hwl : ws'.length ≤ 126 := by
          have e1 := congrArg List.length hws2
          rw [List.length_map] at e1; omega
        have hyl2 : ys'.length ≤ 126 := by rw [hys2.length]; exact hwl
        have hwm : ∀ w ∈ ws', cpl w ∈ namesF (cpl x) := fun w hw => by rw [← hws2]; exact List.mem_map.mpr ⟨w, hw, rfl⟩
        have hDm := news_l N10 hDp
        k_steps
        walk_at "MY open"
        rename Fr _ _ _ _ => F11
        rename News _ _ _ _ => N11
        refine src_listS (vs := ys') (fun n0 i zs nx => nx = n0 ∧ ∃ rs : List Str, StrsAre zs rs ∧ rs.map cpl = (rootsF (cpl x)).take i) rfl F11 N11 (News.isList N11 hDm) (N11 _ hDm).2.1 (le_size (k := 126) hyl2) rfl rfl ⟨rfl, [], .nil, rfl⟩ ?_ ?_
        · rintro I i v C oC D2 m₂ h₂ tk own zs nx E' hv ⟨rfl, rs, hzs, hrs⟩ hm hC F₂ N₂ hoff _ hCD
          obtain ⟨w, t, rfl, hwi⟩ := strs_item hys2 hv
          have hwn := hwm w (List.mem_of_getElem? hwi)
          have hwz := hnm _ hwn
          rw [cpl_len] at hwz
          refine tests0 ?_
          k_steps
          walk_at "MY open"
          refine law_cut (KX.keeps F₂.keep) (TT.keeps F₂.keep) (by k_room) rfl (by omega) fun h5 tk5 u5 k5 => ?_
          have F₃ := F₂.keeps k5
          have N₃ := N₂.grown k5
          clear F₂ N₂
          k_steps
          exact ⟨_, _, _, rfl, by k_asm, by k_asm, hoff, rfl, rs ++ [_], strs_snoc hzs, roots_step hws2 hwi hrs (cut_head hwn)⟩
        rintro g tk zs nx ⟨rfl, rs, hzs, hrs⟩ R h₂ tk₂ F₂ N₂ hoff2
        rw [List.take_of_length_le (by rw [hys2.length]; have e1 := congrArg List.length hws2; rw [List.length_map] at e1; omega)] at hrs
        clear F11 N11
        try clear F10 N10
        k_steps
        walk_at "MY open"
        rename Fr _ _ _ _ => F13
        rename News _ _ _ _ => N13
        refine src_listS (vs := ys') (fun n0 i zs nx => ∃ inner, nx = inner ++ n0 ∧ Al (T2 inner oct) zs ((namesF (cpl x)).take i)) rfl F13 N13 (News.isList N13 (List.mem_cons_of_mem _ hDm)) (N13 _ (List.mem_cons_of_mem _ hDm)).2.1 (le_size (k := 126) hyl2) rfl rfl ⟨[], rfl, alnil⟩ ?_ ?_
        · rintro I i v C oC D2 m₂ h₂ tk own es nx E' hv ⟨inner, rfl, hes⟩ hm hC F₂ N₂ hoff ⟨oI, hoI⟩ hCD
          obtain ⟨w, t, rfl, hwi⟩ := strs_item hys2 hv
          have hwn := hwm w (List.mem_of_getElem? hwi)
          have hwz := hnm _ hwn
          have hwc : ∀ c ∈ cpl w, c < 256 := fun c hc => hxc c (names_sub hwn hc)
          have hch := cut_head hwn
          have hct := cut_tail hwn
          rw [cpl_len] at hwz
          refine tests0 ?_
          k_steps
          walk_at "MY open"
          refine law_cut (KX.keeps F₂.keep) (TT.keeps F₂.keep) (by k_room) rfl (by omega) fun h5 tk5 u5 k5 => ?_
          have F₃ := F₂.keeps k5
          have N₃ := N₂.grown k5
          clear F₂ N₂
          k_steps
          walk_at "MY open"
          rename Fr _ _ _ _ => F₄
          rename News _ _ _ _ => N₄
          refine made_any (KX.keeps F₄.keep) (TT.keeps F₄.keep) (by k_room) rfl ?_ ?_ fun h6 tk6 r6 k6 hr6 => ?_
          · rw [← cpl_len, hch, List.length_take, cpl_len]; omega
          · rw [hch]; exact fun c hc => hwc c (List.mem_of_mem_take hc)
          rw [hch] at hr6
          have F₅ := F₄.keeps k6
          have N₅ := N₄.grown k6
          clear F₄ N₄
          k_steps
          walk_at "MY open"
          rename Fr _ _ _ _ => F₆
          rename News _ _ _ _ => N₆
          refine law_cut (KX.keeps F₆.keep) (TT.keeps F₆.keep) (by k_room) rfl (by omega) fun h7 tk7 u7 k7 => ?_
          have F₇ := F₆.keeps k7
          have N₇ := N₆.grown k7
          clear F₆ N₆
          k_steps
          walk_at "MY open"
          rename Fr _ _ _ _ => F₈
          rename News _ _ _ _ => N₈
          refine made_any (KX.keeps F₈.keep) (TT.keeps F₈.keep) (by k_room) rfl ?_ ?_ fun h9 tk9 r9 k9 hr9 => ?_
          · rw [← cpl_len, hct, List.length_drop, cpl_len]; omega
          · rw [hct]; exact fun c hc => hwc c (List.mem_of_mem_drop hc)
          rw [hct] at hr9
          have F₉ := F₈.keeps k9
          have N₉ := N₈.grown k9
          clear F₈ N₈
          k_steps
          rename Fr _ _ _ _ => F10
          rename News _ _ _ _ => N10
          rename ∀ p, p ∈ _ ++ _ → _ < _ => l1
          rename Addr => D3
          have hin3 : ∃ i3, i3 = (D3, ({ cls := .type "tuple", data := .seq #[r6, r9] } : Obj)) :: inner := ⟨_, rfl⟩
          obtain ⟨i3, hi3⟩ := hin3
          refine ⟨_, _, i3 ++ _, rfl, by k_asm, news_sub N10 fun p hp => ?_, fun p hp => ?_, i3, rfl, ?_⟩ <;> subst hi3
          · simp only [List.mem_append, List.mem_cons, List.not_mem_nil, or_false] at hp ⊢
            rcases hp with hp | hp | hp | (hp | hp) | hp <;> simp [hp]
          · rcases List.mem_append.mp hp with hp | hp
            · rcases List.mem_cons.mp hp with rfl | hp
              · exact ⟨fun q => Nat.ne_of_gt (l1 _ (List.mem_append_left _ hoI)) (List.mem_singleton.mp q), Nat.ne_of_gt (l1 _ (List.mem_append_right _ (.head _))), Nat.ne_of_gt (l1 _ (List.mem_append_right _ (.tail _ (.head _))))⟩
              · exact hoff p (List.mem_append_left _ hp)
            · exact hoff p (List.mem_append_right _ hp)
          · rw [take_snoc (show (namesF (cpl x))[i]? = some (cpl w) by rw [← hws2, List.getElem?_map, hwi]; rfl)]
            exact alsnoc (hes.mono fun v d _ q => q.sub fun p hp => .tail _ hp) ⟨_, r6, r9, rfl, .head _, hr6, hr9⟩
        rintro g tk es nx ⟨inner, rfl, hes⟩ U h₂ tk₂ F₂ N₂ hoff3
        rw [List.take_of_length_le (by rw [hys2.length]; have e1 := congrArg List.length hws2; rw [List.length_map] at e1; omega)] at hes
        clear F13 N13
        have htv2 := told_up N₂ htv
        have hes2 := due_up N₂ hes
        k_steps
        walk_at "MY open"
        rename Fr _ _ _ _ => F13
        rename News _ _ _ _ => N13
        have hft := front_txt x
        refine made_any (KX.keeps F13.keep) (TT.keeps F13.keep) (by k_room) rfl ?_ ?_ fun h6 tk6 r6 k6 hr6 => ?_
        · rw [← cpl_len, hft]; have := front_len (cpl x); omega
        · rw [hft]; exact fun c hc => hxc c (front_sub hc)
        rw [hft] at hr6
        have F14 := F13.keeps k6
        have N14 := N13.grown k6
        clear F13 N13
        k_steps
        walk_at "MY open"
        refine ne_VC hu hr6 ?_
        rw [decide_eq_false (fun q => q rfl)]
        k_steps
        walk_at "MY open"
        rename News _ _ _ _ => N13
        refine ne_told N13 (.tail _ (List.mem_append_right _ (.tail _ (List.mem_append_right _ hLt)))) htv2 (.head _) hes2 ?_ ?_
        · simp only [units_in1, units_deeper, Around.mark_units]; decide
        k_steps
        have hrs1 : ∀ r ∈ rs, r.length ≤ 126 := fun r hr => by
          rw [← cpl_len]; exact hrt _ (by rw [← hrs]; exact List.mem_map.mpr ⟨r, hr, rfl⟩)
        have hws1 : ∀ r ∈ ws', r.length ≤ 126 := fun r hr => by
          rw [← cpl_len]; exact hnm _ (hwm r hr)
        have hrs2 : rs.length ≤ 126 := by
          have e1 := congrArg List.length hrs
          rw [List.length_map] at e1; omega
        refine join_listW (ys := rs) (News.isList N13 (.tail _ (List.mem_append_right _ (.head _)))) (by simpa using hzs) (by decide) (sum_len hrs1 hrs2 (by decide)) fun t' k => ?_
        have hbd : ∀ rr : List (List Nat), (∀ r ∈ rr, r.length ≤ 126) → rr.length ≤ 126 → (ijoin 47 rr).length ≤ 16002 := fun rr h1 h2 => by
          have h4 := ij_len (c := 47) h1
          have h3 : rr.length * (126 + 1) ≤ 126 * 127 := Nat.mul_le_mul_right 127 h2
          omega
        have hj1 := txt_join rs
        rw [hrs] at hj1
        k_steps
        walk_at "MY open"
        refine add_VC (oct := false) ⟨_, _, rfl, hft⟩ ⟨_, _, rfl, hj1⟩ ?_ fun r7 k7 hr7 => ?_
        · have := front_len (cpl x); have := hbd _ hrt hrl; omega
        obtain ⟨y7, t7, rfl, hy7⟩ := hr7
        k_steps
        walk_at "MY open"
        refine made_any (KX.keeps F14.keep) (TT.keeps F14.keep) (by k_room) rfl ?_ ?_ fun h8 tk8 r8 k8 hr8 => ?_
        · rw [← cpl_len, hy7, List.length_append]; have := front_len (cpl x); have := hbd _ hrt hrl; omega
        · exact octs_made hxc hy7 (fun r hr => by obtain ⟨p, hp, rfl⟩ := List.mem_map.mp hr; exact fun a ha => names_sub hp (List.mem_of_mem_take ha))
        rw [hy7] at hr8
        replace F14 := F14.keeps k8
        replace N13 := N13.grown k8
        k_steps
        refine eq_VC hb hr8 ?_
        rw [decide_eq_true rfl]
        k_steps
        refine join_listW (ys := ws') (News.isList N13 (.tail _ (List.mem_append_right _ (.tail _ (List.mem_append_left _ hDp))))) (by simpa using hys2) (by decide) (sum_len hws1 hwl (by decide)) fun t' k => ?_
        have hj2 := txt_join ws'
        rw [hws2] at hj2
        k_steps
        walk_at "MY open"
        refine add_VC (oct := false) ⟨_, _, rfl, hft⟩ ⟨_, _, rfl, hj2⟩ ?_ fun r9 k9 hr9 => ?_
        · have := front_len (cpl x); have := hbd _ hnm (by omega); omega
        obtain ⟨y9, t9, rfl, hy9⟩ := hr9
        k_steps
        walk_at "MY open"
        refine made_any (KX.keeps F14.keep) (TT.keeps F14.keep) (by k_room) rfl ?_ ?_ fun h10 tk10 r10 k10 hr10 => ?_
        · rw [← cpl_len, hy9, List.length_append]; have := front_len (cpl x); have := hbd _ hnm (by omega); omega
        · exact octs_made hxc hy9 fun r hr a ha => names_sub hr ha
        rw [hy9] at hr10
        replace F14 := F14.keeps k10
        replace N13 := N13.grown k10
        k_steps
        refine eq_VC hw hr10 ?_
        rw [decide_eq_true rfl]
        k_steps)
end
end Mine
theorem PySem.Challenge.cw_ko0128_04_holds : PySem.Challenge.rw_ko0128_04.Holds := by
  exact Mine.holds4
