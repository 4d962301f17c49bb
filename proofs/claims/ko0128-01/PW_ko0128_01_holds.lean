import PyProof.Rows.All
import Wide.All
import OpenK.AllK
import Wide.FinOn
import Lean
import PySem.Challenge.RW_ko0128_01
open PySem PySem.W PyProof.Rows
set_option Elab.async false
set_option maxRecDepth 100000
set_option linter.unusedVariables false
set_option linter.unusedSimpArgs false
set_option compiler.extract_closed false
namespace Mine
section
open PySem.Calls
theorem kind_isubn : builtinKind "issubclass.nested" = none := by decide +kernel
theorem plain_isubn : plainId "issubclass.nested" = true := by decide +kernel
theorem args_isubn (a b c : Value) : argsOk "issubclass.nested" ⟨[a, b, c], []⟩ := by unfold argsOk; kernel_rfl
theorem meta_str : typeOf (.type "str") = pure (.type "type") := by kernel_rfl
theorem meta_bytes : typeOf (.type "bytes") = pure (.type "type") := by kernel_rfl
theorem tt_sub : isSubtype (.type "type") (.type "type") = pure true := by rw [isSubtype_type]; kernel_rfl
theorem ss_sub : isSubtype (.type "str") (.type "str") = pure true := by rw [isSubtype_type]; kernel_rfl
theorem bs_sub : isSubtype (.type "bytes") (.type "str") = pure false := by rw [isSubtype_type]; kernel_rfl
theorem bb_sub : isSubtype (.type "bytes") (.type "bytes") = pure true := by rw [isSubtype_type]; kernel_rfl
theorem isub_nested {T U : String} {b : Bool} (h1 : typeOf (.type T) = pure (.type "type")) (h2 : typeOf (.type U) = pure (.type "type")) (h3 : isSubtype (.type T) (.type U) = pure b) {dep : Int} {tk : Tok} :
    Meets (Builtin.«issubclass.nested» ⟨[.type T, .type U, .int dep tk], []⟩) (fun _ R s => R (.ok (.ret (.bool b))) s) := by
  intro prog w A R s hs
  have f1 := tt_sub
  repeat (any_goals (first | assumption | (rw [h3]) | wp_step))
theorem isub_tuple {T : String} {tp : Addr} {cs : List Value} (h1 : typeOf (.type T) = pure (.type "type")) (h3 : isSubtype (.type T) (.type "str") = pure (T == "str")) (h4 : isSubtype (.type T) (.type "bytes") = pure (T == "bytes")) (hcs : cs = [.type "str", .type "bytes"]) :
    Meets (Builtin.«issubclass» ⟨[.type T, .ref tp], []⟩) (fun _ R s => s.heap.get? tp = some { cls := .type "tuple", data := .seq cs.toArray } ∧ R (.ok (.ret (.bool (T == "str" || T == "bytes")))) s) := by
  intro prog w A R s ⟨hx, hs⟩
  refine issubclass_outer ?_
  obtain ⟨h, g, d, t, os⟩ := s
  have hT2 : (⟨h, g, d, t, os⟩ : Shared).TypeIs (.ref tp) "tuple" := ⟨_, hx, rfl⟩
  have f1 := F.isi_sub_tuple
  repeat (any_goals (first | assumption | wp_step))
  refine wpAny_arrayLoop ?_
  subst hcs
  simp only [Option.getD_some, List.toList_toArray]
  rw [List.forIn_cons]
  refine wpAny_bind (wpAny_bind (call_function_meets kind_isubn plain_isubn F.entry_issubclass_nested (args_isubn _ _ _) (isub_nested h1 meta_str h3) ?_))
  cases hT : (T == "str") with
  | true => 
    rw [hT] at hs
    repeat (any_goals (first | assumption | wp_step))
  | false =>
    rw [hT] at hs
    show wpAny _ _ (truthy (.bool false) >>= _) _ _ _
    refine wpAny_bind (m := truthy (.bool false)) (wpAny_pure (wpAny_pure ?_))
    show wpAny _ _ (forIn [Value.type "bytes"] _ _) _ _ _
    rw [List.forIn_cons]
    refine wpAny_bind (wpAny_bind (call_function_meets kind_isubn plain_isubn F.entry_issubclass_nested (args_isubn _ _ _) (isub_nested h1 meta_bytes h4) ?_))
    cases hU : (T == "bytes") with
    | true => 
      rw [hU] at hs
      repeat (any_goals (first | assumption | wp_step))
    | false =>
      rw [hU] at hs
      show wpAny _ _ (truthy (.bool false) >>= _) _ _ _
      refine wpAny_bind (m := truthy (.bool false)) (wpAny_pure (wpAny_pure ?_))
      repeat (any_goals (first | assumption | wp_step))
theorem call_isub {prog : Program} {w : World} {A : Around} {E : Value → Shared → Prop} {s : Shared} {T : String} {tp : Addr} {Q : Value → Shared → Prop} (hT : T = "str" ∨ T = "bytes")
    (hx : s.heap.get? tp = some { cls := .type "tuple", data := .seq [.type "str", .type "bytes"].toArray }) (h : Q (.bool true) s) :
    wpAny (model prog w) A (call (.builtin "issubclass") [.type T, .ref tp]) Q E s := by
  rcases hT with rfl | rfl
  · exact call_issubclass (isub_tuple meta_str ss_sub (by rw [isSubtype_type]; kernel_rfl) rfl) ⟨hx, h⟩
  · exact call_issubclass (isub_tuple meta_bytes bs_sub bb_sub rfl) ⟨hx, h⟩
end
end Mine
namespace Mine
section
open PySem.Calls
theorem bind_rest1 {name qual : Str} {a1 a2 : Option Expr} {p1 p2 : Pos} {body : List Stmt} {scope : Scope} {doc pm cdv ct : Value} {an : Option Addr} {v : Value} {vs : List Value} :
    bindArgs (fnOf name qual { posonlyargs := [], args := [⟨Str.ofString "funcname", a1, p1⟩], vararg := some ⟨Str.ofString "args", a2, p2⟩, kwonlyargs := [], kw_defaults := [], kwarg := none, defaults := [] } body scope .none .none doc pm an cdv ct) ⟨v :: vs, []⟩ =
      (newTuple vs >>= fun t => pure [(Str.ofString "funcname", v), (Str.ofString "args", t)]) := by
  cases vs with
  | nil => kernel_rfl
  | cons a r => kernel_rfl
noncomputable abbrev Kp (h h' : Heap) : Prop := ∀ b o, h.get? b = some o → h'.get? b = some o
theorem Kp.trans {h h' h'' : Heap} (a : Kp h h') (b : Kp h' h'') : Kp h h'' := fun x o e => b x o (a x o e)
theorem none_size {h : Heap} {a : Addr} (ha : h.objs.size ≤ a) : h.get? a = none := by
  cases e : h.get? a with
  | none => rfl
  | some o => exact absurd (Heap.lt_size e) (Nat.not_lt.mpr ha)
section
variable {prog : Program} {w : World} {A : Around} {s : Shared} {K : Frag} {base : Heap} {mg mb : Str → Option Value} {p : Program} {loose : List Str} {mean : ExcName → Option Value} {fs : List Env}
theorem enterK {R : Result → Shared → Prop} {name qual : Str} {params : Arguments} {body : List Stmt} {scope : Scope} {dV kV doc pm cdv ct oc : Value} {an od : Option Addr} {osl : Array (Option Value)} {f : Addr} {args : Args} {binds : List (Str × Value)}
    (X : K.In s.heap) (T : Top p loose mean mg mb s.heap) (hroom : A.depth < recursionLimit)
    (ho : K.lookup f = some ⟨oc, od, .func (fnOf name qual params body scope dV kV doc pm an cdv ct), osl⟩) (hcd : codeIn K cdv qual = true)
    (hbind : BindsTo s (fnOf name qual params body scope dV kV doc pm an cdv ct) args binds) (hloc : ∀ y ∈ binds, scope.names.lookup y.1 = some .local)
    (h : ∀ L h₁, Fr s.heap L h₁ (fun y => binds.reverse.lookup y) → News s.heap L h₁ [] →
      wpAny (model prog w) (A.deeper (envOf qual scope L f cdv)) (execs body (envOf qual scope L f cdv))
        (fun fl s' => R (.ok (.ret (match fl with | .ret v => v | _ => .none))) s')
        (fun e s' => wpAny (model prog w) (A.deeper (envOf qual scope L f cdv)) (leaving (envOf qual scope L f cdv) e) (fun _ s'' => R (.error e) s'') (fun e' s'' => R (.error e') s'') s')
        { s with heap := h₁, toks := s.toks + binds.length })
    (hcell : ∀ x ∈ scope.names, x.2 ≠ .cell) (hco : scope.isCoroutine = false) (hgen : scope.isGenerator = false) (hk : scope.kind = .function) :
    codeAny (model prog w) A (.call (.ref f) args) R s := by
  refine codeAny_call_def (fd := fnOf name qual params body scope dV kV doc pm an cdv ct) (body := body) (binds := binds) hroom (X _ _ ho) rfl T.nolimit (codeRec_of X hcd) rfl hbind hcell hloc (fun h₁ hns hk₁ => ?_) hco hgen hk
  exact h s.heap.objs.size h₁ ⟨hns, hk₁, Nat.le_refl _⟩ News.nil
theorem enterR {R : Result → Shared → Prop} {name qual : Str} {params : Arguments} {body : List Stmt} {scope : Scope} {dV kV doc pm cdv ct oc : Value} {an od : Option Addr} {osl : Array (Option Value)} {f : Addr} {args : Args} {vs : List Value} {binds : Value → List (Str × Value)}
    (X : K.In s.heap) (T : Top p loose mean mg mb s.heap) (hroom : A.depth < recursionLimit)
    (ho : K.lookup f = some ⟨oc, od, .func (fnOf name qual params body scope dV kV doc pm an cdv ct), osl⟩) (hcd : codeIn K cdv qual = true)
    (hp : bindArgs (fnOf name qual params body scope dV kV doc pm an cdv ct) args = (newTuple vs >>= fun t => pure (binds t))) (hz : vs.length ≤ sizeLine)
    (hloc : ∀ D, ∀ y ∈ binds D, scope.names.lookup y.1 = some .local)
    (h : ∀ D L h₁, D < L → Fr s.heap L h₁ (fun y => (binds (.ref D)).reverse.lookup y) → News s.heap L h₁ [(D, ({ cls := .type "tuple", data := .seq vs.toArray } : Obj))] →
      wpAny (model prog w) (A.deeper (envOf qual scope L f cdv)) (execs body (envOf qual scope L f cdv))
        (fun fl s' => R (.ok (.ret (match fl with | .ret v => v | _ => .none))) s')
        (fun e s' => wpAny (model prog w) (A.deeper (envOf qual scope L f cdv)) (leaving (envOf qual scope L f cdv) e) (fun _ s'' => R (.error e) s'') (fun e' s'' => R (.error e') s'') s')
        { s with heap := h₁, toks := s.toks + (binds (.ref D)).length })
    (hcell : ∀ x ∈ scope.names, x.2 ≠ .cell) (hco : scope.isCoroutine = false) (hgen : scope.isGenerator = false) (hk : scope.kind = .function) :
    codeAny (model prog w) A (.call (.ref f) args) R s := by
  refine codeAny_call_function (fd := fnOf name qual params body scope dV kV doc pm an cdv ct) (body := body) hroom (X _ _ ho) rfl hco hgen rfl (codeRec_of X hcd) ?_
  rw [hp]
  refine wpAny_bind (wpAny_newObj_type (wpAny_pure ?_) (by show vs.toArray.size ≤ sizeLine; rw [List.size_toArray]; exact hz))
  refine wpAny_newFunctionEnv hcell (hloc _) (fun h₁ hns hsb => ?_) hk
  have hk₁ : Kp (s.heap.push { cls := .type "tuple", data := .seq vs.toArray }) h₁ := fun b o e => hsb.extBut b o (Nat.ne_of_lt (Heap.lt_size e)) (Heap.get?_push_of_some _ e)
  have hk₀ : Kp s.heap h₁ := fun b o e => hk₁ b o (Heap.get?_push_of_some _ e)
  refine ⟨(T.nolimit.keeps fun b o e => Heap.get?_push_of_some _ e).fresh _ hsb, codeAny_func ?_⟩
  refine h s.heap.objs.size (s.heap.push { cls := .type "tuple", data := .seq vs.toArray }).objs.size h₁ (by rw [Heap.size_push]; exact Nat.lt_succ_self _) ⟨hns, hk₀, by rw [Heap.size_push]; exact Nat.le_succ _⟩ (fun q hq => ?_)
  rw [List.mem_singleton.mp hq]
  exact ⟨hk₁ _ _ (Heap.get?_push_size _ rfl), by show s.heap.objs.size ≠ _; rw [Heap.size_push]; exact Nat.ne_of_lt (Nat.lt_succ_self _), none_size (Nat.le_refl _)⟩
end
theorem news_sub {h₀ h : Heap} {L : Addr} {n n' : List (Addr × Obj)} (N : News h₀ L h n') (hs : ∀ p ∈ n, p ∈ n') : News h₀ L h n := fun p hp => N p (hs p hp)
theorem units64 {u a : Nat} (h : u ≤ a) (ha : a + 3 + 64 < 9900 := by decide) : u + 3 + 64 < 9900 := Nat.lt_of_le_of_lt (Nat.add_le_add_right (Nat.add_le_add_right h 3) 64) ha
theorem units1 {u a : Nat} (h : u ≤ a) (ha : a + 3 + 1 < 9900 := by decide) : u + 3 + 1 < 9900 := Nat.lt_of_le_of_lt (Nat.add_le_add_right (Nat.add_le_add_right h 3) 1) ha
theorem units3 {u a b : Nat} (h : u ≤ a) (ha : a + 3 ≤ b := by decide) : u + 3 ≤ b := Nat.le_trans (Nat.add_le_add_right h 3) ha
theorem room_le {d a b : Nat} (h : d ≤ a) (ha : a + 1 ≤ b := by decide) : d + 1 ≤ b := Nat.le_trans (Nat.succ_le_succ h) ha
theorem room_lt {d a b : Nat} (h : d ≤ a) (ha : a < b := by decide) : d < b := Nat.lt_of_le_of_lt h ha
theorem sz_one {x a : Nat} (h : x ≤ a) (ha : a + 1 ≤ 16777216 := by decide) : x + (0 + 1) ≤ 16777216 := Nat.le_trans (Nat.succ_le_succ h) ha
theorem sz_zero {x a : Nat} (h : x ≤ a) (ha : a ≤ 16777216 := by decide) : x + 0 ≤ 16777216 := Nat.le_trans h ha
theorem sz_two {x y a b : Nat} (h : x ≤ a) (h2 : y ≤ b) (ha : a + b ≤ 16777216 := by decide) : x + y ≤ 16777216 := Nat.le_trans (Nat.add_le_add h h2) ha
theorem sz_one2 {x y a b : Nat} (h : x ≤ a) (h2 : y ≤ b) (ha : a + 1 + b ≤ 16777216 := by decide) : x + (0 + 1) + y ≤ 16777216 := Nat.le_trans (Nat.add_le_add (Nat.succ_le_succ h) h2) ha
theorem sz_zero2 {x y a b : Nat} (h : x ≤ a) (h2 : y ≤ b) (ha : a + b ≤ 16777216 := by decide) : x + 0 + y ≤ 16777216 := Nat.le_trans (Nat.add_le_add h h2) ha
theorem at1 {p q : Prop} (h : p ∧ q) : p := h.1
theorem at2 {a p q : Prop} (h : a ∧ p ∧ q) : p := h.2.1
theorem at3 {a b p q : Prop} (h : a ∧ b ∧ p ∧ q) : p := h.2.2.1
theorem at4 {a b c p q : Prop} (h : a ∧ b ∧ c ∧ p ∧ q) : p := h.2.2.2.1
theorem at5 {a b c d p q : Prop} (h : a ∧ b ∧ c ∧ d ∧ p ∧ q) : p := h.2.2.2.2.1
theorem at6 {a b c d e p q : Prop} (h : a ∧ b ∧ c ∧ d ∧ e ∧ p ∧ q) : p := h.2.2.2.2.2.1
theorem at7 {a b c d e f p q : Prop} (h : a ∧ b ∧ c ∧ d ∧ e ∧ f ∧ p ∧ q) : p := h.2.2.2.2.2.2.1
theorem at8 {a b c d e f g p q : Prop} (h : a ∧ b ∧ c ∧ d ∧ e ∧ f ∧ g ∧ p ∧ q) : p := h.2.2.2.2.2.2.2.1
end
end Mine
namespace Mine
section
open PySem.Calls
inductive ForSt (h₀ : Heap) (L : Addr) (wr : List Addr) (J : Nat → (Str → Option Value) → List (Addr × Obj) → Prop) (St : Nat → Heap → Prop) (n : Nat) (s : Shared) (k : Nat) (s' : Shared) : Prop
  | mk (h' : Heap) (tk : Nat) (m' : Str → Option Value) (nx : List (Addr × Obj)) (i : Nat) (hs : s' = { s with heap := h', toks := tk }) (hst : St i h') (hF : Fr h₀ L h' m') (hN : News h₀ L h' nx) (off : ∀ p ∈ nx, p.1 ∉ wr) (hJ : J i m' nx) (hi : i ≤ n) (hk : k = n + 1 - i)
inductive TurnSt (h₀ : Heap) (L : Addr) (wr : List Addr) (own : List (Addr × Obj)) (J : (Str → Option Value) → List (Addr × Obj) → Prop) (gn : Array GenState) (dr : Drawn) (os : OsState) (s₂ : Shared) : Prop
  | mk (h' : Heap) (tk : Nat) (m' : Str → Option Value) (nx : List (Addr × Obj)) (hs : s₂ = ⟨h', gn, dr, tk, os⟩) (hF : Fr h₀ L h' m') (hN : News h₀ L h' (own ++ nx)) (off : ∀ p ∈ nx, p.1 ∉ wr) (hJ : J m' nx)
noncomputable def TurnEnd (h₀ : Heap) (L : Addr) (wr : List Addr) (own : List (Addr × Obj)) (J : (Str → Option Value) → List (Addr × Obj) → Prop) (s : Shared) (Q : Flow → Shared → Prop) (f : Flow) (s₂ : Shared) : Prop :=
  match f with
  | .ret v => Q (.ret v) s₂
  | .brk => Q .next s₂
  | _ => TurnSt h₀ L wr own J s.gens s.drawn s.os s₂
section
variable {prog : Program} {w : World} {A : Around} {E : Value → Shared → Prop} {s : Shared} {env : Env} {h₀ : Heap} {x : Str} {body : List Stmt} {Q : Flow → Shared → Prop}
theorem for_walk {I : Addr} {fp wr : List Addr} {n : Nat} {P : Nat → Value → Prop} {St : Nat → Heap → Prop} {m₀ : Str → Option Value} {news : List (Addr × Obj)} (J : Nat → (Str → Option Value) → List (Addr × Obj) → Prop)
    (W : Walks prog w A I fp wr n P St) (hLf : env.locals ∉ fp) (hwr : ∀ b ∈ wr, h₀.get? b = none) (hnw : ∀ p ∈ news, p.1 ∉ wr) (hob : ∀ i h, St i h → ∀ b ∈ wr, ∃ o, h.get? b = some o)
    (hst : St 0 s.heap) (F : Fr h₀ env.locals s.heap m₀) (N : News h₀ env.locals s.heap news) (hj : J 0 m₀ news)
    (turn : ∀ i v m₁ nx h tk own, i < n → P i v → (∀ b ∈ wr, ∃ o, (b, o) ∈ own) → (∀ p ∈ nx, p.1 ∉ wr) → J i m₁ nx → Fr h₀ env.locals h (fun y => if y = x then some v else m₁ y) → News h₀ env.locals h (own ++ nx) →
      wpAny (model prog w) A (execs body env) (TurnEnd h₀ env.locals wr own (J (i + 1)) s Q) E { s with heap := h, toks := tk })
    (done : ∀ m₁ nx h tk, J n m₁ nx → Fr h₀ env.locals h m₁ → News h₀ env.locals h nx → Q .next { s with heap := h, toks := tk }) :
    LoopAtV prog w A h₀ env x body Q E (.ref I) s := by
  refine ⟨I, fp, wr, n, P, St, m₀, news, J, rfl, W, hLf, hwr, hnw, hst, F, N, hj, ?_, ?_⟩
  · rintro i v m₁ nx s₁ own ⟨h, tk, rfl⟩ hi hP hJ hoff _ _ hall hst' F₁ N₁
    refine wpAny_mono (turn i v m₁ nx h tk own hi hP (fun b hb => ?_) hoff hJ F₁ N₁) (fun f s₂ q => ?_) fun _ _ e => e
    · obtain ⟨o, ho⟩ := hob _ _ hst' b hb
      exact ⟨o, hall b (W.sub b hb) (hwr b hb) o ho⟩
    · cases f with
      | ret v => exact .ret q
      | brk => exact .brk q
      | next => obtain ⟨h', tk', m', nx', rfl, F', N', ho, hJ'⟩ := q; exact .next ⟨rfl, h', tk', m', nx', rfl, F', N', ho, hJ'⟩
      | cont => obtain ⟨h', tk', m', nx', rfl, F', N', ho, hJ'⟩ := q; exact .cont ⟨rfl, h', tk', m', nx', rfl, F', N', ho, hJ'⟩
  · rintro h' tk m' nx F' N' _ hJ
    exact done m' nx h' tk hJ F' N'
theorem lt_ne_size {h : Heap} {a : Addr} {o : Obj} (e : h.get? a = some o) : a ≠ h.objs.size := Nat.ne_of_lt (Heap.lt_size e)
theorem for_list {D : Addr} {vs : List Value} {m₀ : Str → Option Value} {news : List (Addr × Obj)} (J : Nat → (Str → Option Value) → List (Addr × Obj) → Prop)
    (hh : A.handled = none) (hD : s.heap.IsList D vs.toArray) (hDL : D ≠ env.locals) (F : Fr h₀ env.locals s.heap m₀) (N : News h₀ env.locals s.heap news) (hj : J 0 m₀ news)
    (turn : ∀ I i v m₁ nx h tk own, vs[i]? = some v → (∃ o, (I, o) ∈ own) → (∀ p ∈ nx, p.1 ∉ [I]) → J i m₁ nx → Fr h₀ env.locals h (fun y => if y = x then some v else m₁ y) → News h₀ env.locals h (own ++ nx) →
      wpAny (model prog w) A (execs body env) (TurnEnd h₀ env.locals [I] own (J (i + 1)) s Q) E { s with heap := h, toks := tk })
    (done : ∀ m₁ nx h tk, J vs.length m₁ nx → Fr h₀ env.locals h m₁ → News h₀ env.locals h nx → Q .next { s with heap := h, toks := tk }) :
    wpAny (model prog w) A (pyIter (.ref D)) (fun it s₂ => LoopAtV prog w A h₀ env x body Q E it s₂) E s := by
  obtain ⟨oD, hoD, hr⟩ := id hD
  have hne : D ≠ s.heap.objs.size := lt_ne_size hoD
  refine wpAny_pyIter_list hD ?_
  have W := Walks.list (prog := prog) (w := w) hh s.heap.objs.size D hne vs.toArray
  have hlen : vs.toArray.size = vs.length := by simp
  rw [hlen] at W
  refine for_walk J W ?_ ?_ ?_ ?_ ⟨⟨_, Heap.get?_push_size _ rfl, rfl, rfl⟩, ⟨oD, Heap.get?_push_of_some _ hoD, hr⟩⟩ (F.push _) (fun p hp => ⟨Heap.get?_push_of_some _ (N p hp).1, (N p hp).2⟩) hj ?_ ?_
  · intro hm
    rcases List.mem_cons.mp hm with e | hm
    · exact absurd F.ns.lt (e ▸ Nat.lt_irrefl _)
    · exact hDL (List.mem_singleton.mp hm).symm
  · intro b hb; rw [List.mem_singleton.mp hb]; exact next_is_new F
  · intro p hp hI; exact absurd (Heap.lt_size (N p hp).1) ((List.mem_singleton.mp hI) ▸ Nat.lt_irrefl _)
  · intro i h hi b hb; rw [List.mem_singleton.mp hb]; obtain ⟨⟨o, ho, _⟩, _⟩ := hi; exact ⟨o, ho⟩
  · intro i v m₁ nx h tk own hi hP hI ho hJ F₁ N₁
    exact turn _ i v m₁ nx h tk own (by simpa using hP) (hI _ (.head _)) ho hJ F₁ N₁
  · exact fun m₁ nx h tk hJ F₁ N₁ => done m₁ nx h tk hJ F₁ N₁
end
section
variable {prog : Program} {w : World} {A : Around} {E : Value → Shared → Prop} {s : Shared} {env : Env} {h₀ : Heap} {x : Str} {body : List Stmt} {Q : Flow → Shared → Prop}
end
noncomputable abbrev MapS := Str → Option Value
noncomputable def Same (ns : List Str) (m m₀ : MapS) : Prop := ∀ y, ns.contains y = false → m y = m₀ y
theorem Same.refl {ns : List Str} {m : MapS} : Same ns m m := fun _ _ => rfl
theorem map0 {m m₀ : MapS} {ns : List Str} (hs : Same ns m m₀) : m = fun y => if ns.contains y then m y else m₀ y := by
  funext y
  cases h : ns.contains y with
  | true => rfl
  | false => simp only [Bool.false_eq_true, if_false]; exact hs y h
theorem map1 {m m₀ : MapS} {ns : List Str} {a : Str} {v : Value} (h1 : m a = some v) (hs : Same ns m m₀) : m = fun y => if y = a then some v else if ns.contains y then m y else m₀ y := by
  funext y
  by_cases h : y = a
  · subst h; rw [if_pos rfl, h1]
  · rw [if_neg h]; exact congrFun (map0 hs) y
theorem map2 {m m₀ : MapS} {ns : List Str} {a b : Str} {v u : Value} (h1 : m a = some v) (h2 : m b = some u) (hs : Same ns m m₀) : m = fun y => if y = a then some v else if y = b then some u else if ns.contains y then m y else m₀ y := by
  funext y
  by_cases h : y = a
  · subst h; rw [if_pos rfl, h1]
  · rw [if_neg h]; exact congrFun (map1 h2 hs) y
inductive WhlSt (h₀ : Heap) (L : Addr) (gn : Array GenState) (dr : Drawn) (os : OsState) (J : Nat → (Str → Option Value) → List (Addr × Obj) → Prop) (n : Nat) (s₃ : Shared) : Prop
  | mk (h' : Heap) (tk : Nat) (m₂ : Str → Option Value) (nx : List (Addr × Obj)) (n' : Nat) (hs : s₃ = ⟨h', gn, dr, tk, os⟩) (hF : Fr h₀ L h' m₂) (hN : News h₀ L h' nx) (hn : n' < n) (hJ : J n' m₂ nx)
noncomputable def WTurn (h₀ : Heap) (L : Addr) (s : Shared) (J : Nat → (Str → Option Value) → List (Addr × Obj) → Prop) (Q : Flow → Shared → Prop) (n : Nat) (f : Flow) (s₃ : Shared) : Prop :=
  match f with
  | .ret v => Q (.ret v) s₃
  | .brk => Q .next s₃
  | _ => WhlSt h₀ L s.gens s.drawn s.os J n s₃
section
variable {prog : Program} {w : World} {A : Around} {E : Value → Shared → Prop} {Q : Flow → Shared → Prop} {s : Shared} {env : Env} {h₀ : Heap} {L : Addr}
theorem while_inv {test : Expr} {body : List Stmt} {pos : Pos} {m : Str → Option Value} {news : List (Addr × Obj)} (J : (Str → Option Value) → Nat → (Str → Option Value) → List (Addr × Obj) → Prop) (n₀ : Nat)
    (F : Fr h₀ L s.heap m) (N : News h₀ L s.heap news) (hJ : J m n₀ m news)
    (turn : ∀ n m₁ nx h₁ tk₁, J m n m₁ nx → Fr h₀ L h₁ m₁ → News h₀ L h₁ nx →
      wpAny (model prog w) A (isTrue test env (eval test env)) (fun b s₂ =>
        if b = true then wpAny (model prog w) A (execs body env) (WTurn h₀ L s (J m) Q n) E s₂ else Q .next s₂) E { s with heap := h₁, toks := tk₁ })
    (hE : PassesOwn (model prog w) A env E := by passes_own) :
    wpAny (model prog w) A (exec (.While test body [] pos) env) Q E s := by
  refine wpAny_While (codeAny_whileLoop (fun n s' => ∃ h₁ tk₁ m₁ nx, s' = { s with heap := h₁, toks := tk₁ } ∧ Fr h₀ L h₁ m₁ ∧ News h₀ L h₁ nx ∧ J m n m₁ nx) ?_ n₀ ⟨s.heap, s.toks, m, news, rfl, F, N, hJ⟩)
  rintro n s' ⟨h₁, tk₁, m₁, nx, rfl, F₁, N₁, J₁⟩
  refine wpAny_mono (turn n m₁ nx h₁ tk₁ J₁ F₁ N₁) (fun b s₂ h₂ => ?_) hE
  cases b with
  | false =>
    simp -iota only [Bool.false_eq_true, if_false] at h₂ ⊢
    exact wpAny_execs_nil h₂
  | true =>
    simp -iota only [if_true] at h₂ ⊢
    refine wpAny_mono h₂ (fun f s₃ h₃ => ?_) hE
    cases f with
    | ret v => exact h₃
    | brk => exact h₃
    | next => obtain ⟨h', tk, m₂, nx₂, n', rfl, F₂, N₂, hn, J₂⟩ := h₃; exact ⟨n', hn, h', tk, m₂, nx₂, rfl, F₂, N₂, J₂⟩
    | cont => obtain ⟨h', tk, m₂, nx₂, n', rfl, F₂, N₂, hn, J₂⟩ := h₃; exact ⟨n', hn, h', tk, m₂, nx₂, rfl, F₂, N₂, J₂⟩
end
noncomputable def Halt (P : Prop) : Prop := P
theorem Halt.mk {P : Prop} (h : Halt P) : P := h
noncomputable def Hid (P K : Flow → Shared → Prop) : Prop := ∀ f s, P f s → K f s
section
variable {prog : Program} {w : World} {A : Around} {E : Value → Shared → Prop} {Q : Flow → Shared → Prop} {s : Shared} {env : Env} {h₀ : Heap} {L : Addr}
end
noncomputable def MergeMark : Prop := True
theorem MergeMark.mk : MergeMark := trivial
section
variable {M : Model} {A : Around} {E : Value → Shared → Prop} {Q : Flow → Shared → Prop} {s : Shared} {env : Env} {h₀ : Heap} {L : Addr} {m : Str → Option Value} {nw : List (Addr × Obj)}
theorem execs_merge {st : Stmt} {rest : List Stmt} (x : Str) (v : Value) (F : Fr h₀ L s.heap m) (N : News h₀ L s.heap nw) (step : ∀ K : Flow → Shared → Prop, (∀ h' tk, Fr h₀ L h' (fun y => if y = x then some v else m y) → News h₀ L h' nw → K .next { s with heap := h', toks := tk }) → wpAny M A (exec st env) K E s)
    (next : ∀ h' tk, Fr h₀ L h' (fun y => if y = x then some v else m y) → News h₀ L h' nw → wpAny M A (execs rest env) Q E { s with heap := h', toks := tk }) : wpAny M A (execs (st :: rest) env) Q E s := by
  exact wpAny_execs_cons (step _ next)
end
section
variable {M : Model} {A : Around} {E : Value → Shared → Prop} {Q : Flow → Shared → Prop} {s : Shared} {env : Env} {h₀ : Heap} {L : Addr} {m : Str → Option Value}
theorem exec_mergeJ {st : Stmt} (F : Fr h₀ L s.heap m) (J : List (Addr × Obj) → Prop) (step : ∀ K : Flow → Shared → Prop, (∀ h' tk nx, Fr h₀ L h' m → News h₀ L h' nx → J nx → K .next { s with heap := h', toks := tk }) → wpAny M A (exec st env) K E s)
    (next : ∀ h' tk nx, Fr h₀ L h' m → News h₀ L h' nx → J nx → Q .next { s with heap := h', toks := tk }) : wpAny M A (exec st env) Q E s := step Q next
end
end
end Mine
namespace Mine
section
open PySem.Calls
noncomputable def Al {α : Type} (R : Value → α → Prop) (vs : List Value) (xs : List α) : Prop := vs.length = xs.length ∧ ∀ (i : Nat) (v : Value), vs[i]? = some v → ∃ a, xs[i]? = some a ∧ R v a
noncomputable def RByt (v : Value) (x : Array UInt8) : Prop := ∃ t, v = .bytes x t
theorem take_snoc {α : Type} {xs : List α} {i : Nat} {a : α} (h : xs[i]? = some a) : xs.take (i + 1) = xs.take i ++ [a] := by simp [List.take_add_one, h]
noncomputable def sl : Str := Str.ofString "/"
inductive TB where
  | t (x : Str)
  | b (x : Array UInt8)
noncomputable def TB.isB : TB → Bool
  | .t _ => false
  | .b _ => true
noncomputable def RTB (v : Value) : TB → Prop
  | .t x => ∃ t, v = .str x t
  | .b x => ∃ t, v = .bytes x t
theorem Al.cons {α : Type} {R : Value → α → Prop} {v : Value} {x : α} {vs : List Value} {xs : List α} (h : R v x) (r : Al R vs xs) : Al R (v :: vs) (x :: xs) :=
  ⟨by rw [List.length_cons, List.length_cons, r.1], fun i u hu => by
    cases i with
    | zero => cases hu; exact ⟨x, rfl, h⟩
    | succ i => exact r.2 i u hu⟩
end
end Mine
namespace Mine
section
open PySem.Calls
theorem sub_bytes_tuple : isSubtype (.type "bytes") (.type "tuple") = pure false := by rw [isSubtype_type]; kernel_rfl
section
open Builtin
theorem meets_bstarts {b c : Array UInt8} {t u : Tok} (h47 : c = #[47]) : Meets (Builtin.«bytes.startswith» ⟨[.bytes b t, .bytes c u], []⟩) (fun _ R s => R (.ok (.ret (.bool (b.toList.head? == some 47)))) s) := by
  intro prog w A R s hs
  have hT : s.TypeIs (.bytes c u) "bytes" := rfl
  have f1 := sub_bytes_tuple
  have f2 : ∀ id, Bytes.buffer? id (.bytes c u) = pure (some c) := fun id => KBy.buffer_eq
  unfold Builtin.«bytes.startswith» Bytes.tailMatchM
  repeat (any_goals (first | assumption | (rw [f2]) | (simp -iota only [List.headD_cons]) | wp_step))
  subst h47
  have hw : Bytes.window b.size none none = (0, (b.size : Int)) := by
    unfold Bytes.window
    simp only [Option.getD_none]
    rw [if_neg (by (first | lia | omega)), if_neg (by (first | lia | omega))]
    simp
  rw [hw]
  have e : (if ((0 : Int), (b.size : Int)).snd - ((0 : Int), (b.size : Int)).fst < ((#[47] : Array UInt8).size : Int) then false else
      if false = true then b.extract (((0 : Int), (b.size : Int)).snd.toNat - (#[47] : Array UInt8).size) ((0 : Int), (b.size : Int)).snd.toNat == #[47]
      else b.extract ((0 : Int), (b.size : Int)).fst.toNat (((0 : Int), (b.size : Int)).fst.toNat + (#[47] : Array UInt8).size) == #[47]) = (b.toList.head? == some 47) := by
    obtain ⟨l⟩ := b
    cases l with
    | nil => rfl
    | cons x r => 
      rw [if_neg (by simp; (first | lia | omega)), if_neg (by simp)]
      simp
  rw [e]; exact hs
end
section
variable {prog : Program} {w : World} {A : Around} {E : Value → Shared → Prop} {s : Shared} {t u : Tok} {b : Array UInt8} {Q : Value → Shared → Prop}
theorem by_starts (h : Q (.bool (b.toList.head? == some 47)) s) : wpAny (model prog w) A (call (.builtin "bytes.startswith") [.bytes b t, .bytes #[47] u]) Q E s :=
  call_meets FB.slot_bytes_startswith (typeIs_bytes _ _ _) FB.entry_bytes_startswith (FB.args_bytes_startswith_2 _ _) (meets_bstarts rfl) h
theorem by_starts_m {M : Model} {pl : Sem Bool} {Q : Value × List Value → Shared → Prop} (h : Q (.builtin "bytes.startswith", [.bytes b t]) s) : wpAny M A (getMethod (.bytes b t) "startswith" pl) Q E s := by
  with_reducible exact KBd.method_of (.bytes b t) (typeIs_bytes _ _ _) FB.slot_bytes_startswith FB.type_bytes_startswith KBd.noRef h
end
section
variable {prog : Program} {w : World} {A : Around} {E : Value → Shared → Prop} {s : Shared} {b c : Array UInt8} {t u : Tok} {Q : Value → Shared → Prop}
end
noncomputable def lensL {α : Type} (xs : List (List α)) : Nat := (xs.map fun y => y.length + 1).sum
section
theorem lensL_snoc {α : Type} (xs : List (List α)) (b : List α) : lensL (xs ++ [b]) = lensL xs + (b.length + 1) := by simp [lensL]
theorem lensL_ge {α : Type} (xs : List (List α)) : xs.length ≤ lensL xs := by
  induction xs with
  | nil => simp [lensL]
  | cons b r ih => have h3 : lensL (b :: r) = (b.length + 1) + lensL r := by simp [lensL]
                   simp only [List.length_cons]; (first | lia | omega)
end
theorem truthy_b {prog : Program} {w : World} {A : Around} {E : Value → Shared → Prop} {s : Shared} {b : Array UInt8} {t : Tok} {Q : Bool → Shared → Prop} (hfit : b.size ≤ 1099511627776) (h : Q (!b.toList.isEmpty) { s with toks := s.toks + 1 + 1 }) : wpAny (model prog w) A (truthy (.bytes b t)) Q E s := by
  refine truthy_bytes hfit ?_
  have e : ((b.size : Int) != 0) = !b.toList.isEmpty := by
    obtain ⟨l⟩ := b
    cases l with
    | nil => rfl
    | cons x r => simp; (first | lia | omega)
  rw [e]; exact h
end
end Mine
namespace Mine
section
open PySem.Calls
noncomputable def KfS (S : List Addr) (h h' : Heap) : Prop := ∀ b o, h.get? b = some o → ∃ sl, h'.get? b = some { o with slots := sl } ∧ (b ∉ S → sl = o.slots)
theorem KfS.of_kp {S : List Addr} {h h' : Heap} (k : Kp h h') : KfS S h h' := fun b o e => ⟨o.slots, k b o e, fun _ => rfl⟩
theorem KfS.trans {S : List Addr} {h h' h'' : Heap} (x : KfS S h h') (y : KfS S h' h'') : KfS S h h'' := fun b o e => by
  obtain ⟨s1, e1, n1⟩ := x b o e
  obtain ⟨s2, e2, n2⟩ := y b _ e1
  exact ⟨s2, e2, fun hb => (n2 hb).trans (n1 hb)⟩
theorem KfS.mono {S S' : List Addr} {h h' : Heap} (x : KfS S h h') (hs : ∀ b ∈ S, b ∈ S') : KfS S' h h' := fun b o e => by
  obtain ⟨sl, e1, n1⟩ := x b o e
  exact ⟨sl, e1, fun hb => n1 fun hm => hb (hs b hm)⟩
theorem KfS.get {S : List Addr} {h h' : Heap} (x : KfS S h h') {b : Addr} {o : Obj} (e : h.get? b = some o) (hb : b ∉ S) : h'.get? b = some o := by
  obtain ⟨sl, e1, n1⟩ := x b o e
  rw [e1, n1 hb]
theorem KfS.gone {S : List Addr} {h h' : Heap} (x : KfS S h h') {b : Addr} (e : h'.get? b = none) : h.get? b = none := by
  cases q : h.get? b with
  | none => rfl
  | some o => obtain ⟨sl, e1, _⟩ := x b o q; rw [e] at e1; cases e1
theorem KfS.of_slots {S S' : List Addr} {h h' : Heap} (x : Heap.SlotsOnly S' h h') (hs : ∀ b ∈ S', b ∈ S) : KfS S h h' := fun b o e => by
  obtain ⟨sl, e1⟩ := x.2.2 b o e
  by_cases hb : b ∈ S'
  · exact ⟨sl, e1, fun n => absurd (hs b hb) n⟩
  · exact ⟨o.slots, (x.2.1 b hb).trans e, fun _ => rfl⟩
theorem KfS.frames {S : List Addr} {h h' base : Heap} {l : List Env} (x : KfS S h h') (hl : h.FunFrames base l) : h'.FunFrames base l := hl.of_keeps fun b o e _ => by
  obtain ⟨sl, e1, _⟩ := x b o e
  exact ⟨_, e1, rfl⟩
theorem KfS.ns {S : List Addr} {h h' : Heap} {L : Addr} {m : MapS} (x : KfS S h h') (hn : h.Ns L m) : h'.Ns L m := by
  obtain ⟨o, es, ep, ho, r⟩ := hn
  obtain ⟨sl, e1, _⟩ := x L o ho
  exact ⟨_, es, ep, e1, r⟩
theorem KfS.fr {S : List Addr} {g h h' : Heap} {L : Addr} {m : MapS} (x : KfS S h h') (F : Fr g L h m) (hS : ∀ b ∈ S, g.get? b = none) : Fr g L h' m :=
  ⟨x.ns F.ns, fun b o e => x.get (F.keep b o e) fun hb => (by rw [hS b hb] at e; cases e), F.above⟩
theorem KfS.news {S : List Addr} {g h h' : Heap} {L : Addr} {news : List (Addr × Obj)} (x : KfS S h h') (N : News g L h news) (hS : ∀ p ∈ news, p.1 ∉ S) : News g L h' news :=
  fun p hp => ⟨x.get (N p hp).1 (hS p hp), (N p hp).2⟩

structure Exc (S : List Addr) (h h' : Heap) (e : Addr) (cls c : Value) (tb : Bool) : Prop where
  kf : KfS S h h'
  new : h.get? e = none
  ob : ∃ oe vs, h'.get? e = some oe ∧ oe.cls = cls ∧ oe.data = .fields vs ∧ vs.size = 6 ∧ vs[2]? = some c ∧
    ((tb = false ∧ vs[1]? = some .none) ∨ (tb = true ∧ ∃ T oT ts, vs[1]? = some (.ref T) ∧ T ≠ e ∧ h.get? T = none ∧ h'.get? T = some oT ∧ oT.data = .fields ts ∧ 3 < ts.size))
theorem Exc.of_new {S : List Addr} {h h' : Heap} {e : Addr} {cls : String} (x : Heap.NewExc h h' e cls) : Exc S h h' e (.type cls) .none false := by
  obtain ⟨ob, t, h1, h2, h3⟩ := x.there
  exact ⟨.of_kp x.keeps, x.new, ob, _, h1, h2, h3, rfl, rfl, .inl ⟨rfl, rfl⟩⟩
theorem Exc.ground {S : List Addr} {g h h' : Heap} {e : Addr} {cls c : Value} {tb : Bool} (k : KfS S g h) (x : Exc S h h' e cls c tb) : Exc S g h' e cls c tb := by
  obtain ⟨oe, vs, h1, h2, h3, h4, h5, h6⟩ := x.ob
  refine ⟨k.trans x.kf, k.gone x.new, oe, vs, h1, h2, h3, h4, h5, h6.imp id ?_⟩
  rintro ⟨ht, T, oT, ts, a1, a2, a3, r⟩
  exact ⟨ht, T, oT, ts, a1, a2, k.gone a3, r⟩
theorem Exc.mono {S S' : List Addr} {h h' : Heap} {e : Addr} {cls c : Value} {tb : Bool} (x : Exc S h h' e cls c tb) (hs : ∀ b ∈ S, b ∈ S') : Exc S' h h' e cls c tb := ⟨x.kf.mono hs, x.new, x.ob⟩
theorem Exc.later {S : List Addr} {h h' h'' : Heap} {e : Addr} {cls c : Value} {tb : Bool} (x : Exc S h h' e cls c tb) (k : Kp h' h'') : Exc S h h'' e cls c tb := by
  obtain ⟨oe, vs, h1, h2, h3, h4, h5, h6⟩ := x.ob
  refine ⟨x.kf.trans (.of_kp k), x.new, oe, vs, k _ _ h1, h2, h3, h4, h5, h6.imp id ?_⟩
  rintro ⟨ht, T, oT, ts, a1, a2, a3, a4, r⟩
  exact ⟨ht, T, oT, ts, a1, a2, a3, k _ _ a4, r⟩
theorem kfs_update {S : List Addr} {h : Heap} {a : Addr} {f : Obj → Obj} {g : Heap} (k : KfS S g h) (ha : g.get? a = none) : KfS S g (h.update a f) := fun b o e => by
  obtain ⟨sl, e1, n1⟩ := k b o e
  refine ⟨sl, (Heap.get?_update_ne _ _ _ _ fun q => ?_).trans e1, n1⟩
  rw [← q, e] at ha; cases ha
theorem kfs_push {S : List Addr} {h : Heap} {o' : Obj} {g : Heap} (k : KfS S g h) : KfS S g (h.push o') := fun b o e => by
  obtain ⟨sl, e1, n1⟩ := k b o e
  exact ⟨sl, Heap.get?_push_of_some _ e1, n1⟩

section
variable {M : Model} {A : Around} {E : Value → Shared → Prop} {s : Shared} {S : List Addr} {h : Heap} {e : Addr} {cls c : Value} {tb : Bool} {Q : Unit → Shared → Prop}
theorem flight_set {fr : Option Addr} (x : Exc S h s.heap e cls c true) (hQ : ∀ h', Exc S h h' e cls c true → Q () { s with heap := h' }) : wpAny M A (setFlight (.ref e) fr) Q E s := by
  obtain ⟨oe, vs, h1, h2, h3, h4, h5, h6⟩ := x.ob
  rcases h6 with ⟨q, _⟩ | ⟨_, T, oT, ts, a1, a2, a3, a4, a5, a6⟩
  · cases q
  · unfold setFlight
    refine wpAny_bind (wpAny_field h1 h3 a1 ?_)
    rw [if_pos (show (Value.ref T != Value.none) = true from by simp)]
    refine wpAny_setField a4 a5 a6 (hQ _ ⟨kfs_update x.kf a3, x.new, oe, vs, (Heap.get?_update_ne _ _ _ _ a2.symm).trans h1, h2, h3, h4, h5, .inr ⟨rfl, T, _, _, a1, a2, a3, Heap.get?_update_self _ a4 (Obj.isFreed_of_fields (Obj.data_mapFields a5 _)), Obj.data_mapFields a5 _, by simpa using a6⟩⟩)
theorem flight_none (x : Exc S h s.heap e cls c tb) (hQ : ∀ h', Exc S h h' e cls c tb → Q () { s with heap := h' }) : wpAny M A (setFlight (.ref e) none) Q E s := by
  cases tb with
  | true => exact flight_set x hQ
  | false =>
    obtain ⟨oe, vs, h1, h2, h3, h4, h5, h6⟩ := id x.ob
    rcases h6 with ⟨_, a1⟩ | ⟨q, _⟩
    · unfold setFlight
      refine wpAny_bind (wpAny_field h1 h3 a1 ?_)
      rw [if_neg (show ¬ ((Value.none != Value.none) = true) from by decide)]
      exact wpAny_pure (hQ _ x)
    · cases q
end
theorem Exc.slots {S S' : List Addr} {h h' h'' : Heap} {e : Addr} {cls c : Value} {tb : Bool} (x : Exc S h h' e cls c tb) (z : Heap.SlotsOnly S' h' h'') (hs : ∀ b ∈ S', b ∈ S) : Exc S h h'' e cls c tb := by
  obtain ⟨oe, vs, h1, h2, h3, h4, h5, h6⟩ := x.ob
  obtain ⟨sl, e1⟩ := z.2.2 _ _ h1
  refine ⟨x.kf.trans (.of_slots z hs), x.new, _, vs, e1, h2, h3, h4, h5, h6.imp id ?_⟩
  rintro ⟨ht, T, oT, ts, a1, a2, a3, a4, r⟩
  obtain ⟨sl2, e2⟩ := z.2.2 _ _ a4
  exact ⟨ht, T, _, ts, a1, a2, a3, e2, r⟩
section
variable {M : Model} {A : Around} {E : Value → Shared → Prop} {s : Shared} {S : List Addr} {h base : Heap} {e L : Addr} {cls c : Value} {tb : Bool} {Q : Unit → Shared → Prop} {env : Env} {outer : List Env}
theorem entry_ok {head : Value} {hadNext : Bool} (hfr : A.frames = some (env :: outer)) (hf : env.frame = some L) (hl : h.FunFrames base (env :: outer)) (hS : ∀ b ∈ (env :: outer).filterMap (·.frame), b ∈ S)
    (x : Exc S h s.heap e cls c tb) (hQ : ∀ h', Exc S h h' e cls c true → Q () { s with heap := h' }) :
    wpAny M A (do let a ← frameOf env; let pl ← entryPlaceOf L hadNext; let b ← EntryCells.newEntry head a .none (rawInt L) .none pl; setField (.ref e) 1 b) Q E s := by
  refine wpAny_bind (wpAny_frameOf_fun hfr (x.kf.frames hl) hf fun h₁ hs₁ => ?_)
  have x₁ := x.slots hs₁ hS
  refine wpAny_bind (wpAny_entryPlaceOf fun pl hpl => ?_)
  unfold EntryCells.newEntry newFields
  refine wpAny_bind (wpAny_newObj_type ?_ (hpl.sizeOk5 _ _ _ _ _))
  obtain ⟨oe, vs, h1, h2, h3, h4, h5, _⟩ := x₁.ob
  have h1' : (h₁.push { cls := .type "traceback", dict := none, data := .fields ([head, .ref L, .none, rawInt L, .none] ++ (if pl.isEmpty then List.replicate 6 Value.none else pl)).toArray }).get? e = some oe := Heap.get?_push_of_some _ h1
  have hTe : h₁.objs.size ≠ e := Nat.ne_of_gt (Heap.lt_size h1)
  refine wpAny_setField h1' h3 (by (first | lia | omega)) (hQ _ ⟨kfs_update (kfs_push x₁.kf) x.new, x.new, _, _, Heap.get?_update_self _ h1' (Obj.isFreed_of_fields (Obj.data_mapFields h3 _)), (Obj.cls_mapFields _ _).trans h2, Obj.data_mapFields h3 _, by simpa using h4, ?_, .inr ⟨rfl, h₁.objs.size, _, _, ?_, hTe, x₁.kf.gone (none_size (Nat.le_refl _)), (Heap.get?_update_ne _ _ _ _ hTe).trans (Heap.get?_push_size _ rfl), rfl, ?_⟩⟩)
  · rw [← h5]; simp
  · simp [Array.getElem?_setIfInBounds]; (first | lia | omega)
  · simp only [List.size_toArray, List.length_append, List.length_cons, List.length_nil]; (first | lia | omega)
theorem note_ok (hfr : A.frames = some (env :: outer)) (hf : env.frame = some L) (hl : h.FunFrames base (env :: outer)) (hS : ∀ b ∈ (env :: outer).filterMap (·.frame), b ∈ S)
    (x : Exc S h s.heap e cls c tb) (hQ : ∀ h', Exc S h h' e cls c true → Q () { s with heap := h' }) : wpAny M A (noteFrame (.ref e) env) Q E s := by
  unfold noteFrame
  simp only [hf]
  obtain ⟨oe, vs, h1, h2, h3, h4, h5, h6⟩ := id x.ob
  rcases h6 with ⟨rfl, a1⟩ | ⟨rfl, T, oT, ts, a1, a2, a3, a4, a5, a6⟩
  · refine wpAny_bind (wpAny_field h1 h3 a1 ?_)
    rw [if_neg (show ¬ ((Value.none != Value.none) = true) from by decide)]
    exact entry_ok hfr hf hl hS x hQ
  · refine wpAny_bind (wpAny_field h1 h3 a1 ?_)
    rw [if_pos (show (Value.ref T != Value.none) = true from by simp)]
    obtain ⟨v3, hv3⟩ : ∃ v, ts[3]? = some v := ⟨_, Array.getElem?_eq_getElem a6⟩
    refine wpAny_bind (wpAny_field a4 a5 hv3 ?_)
    by_cases hq : (v3 == rawInt L) = true
    · rw [if_pos hq]
      exact wpAny_pure (hQ _ x)
    · rw [if_neg hq]
      refine wpAny_bind (wpAny_setField a4 a5 a6 ?_)
      exact entry_ok (s := { s with heap := _ }) hfr hf hl hS ⟨kfs_update x.kf a3, x.new, oe, vs, (Heap.get?_update_ne _ _ _ _ a2.symm).trans h1, h2, h3, h4, h5, .inr ⟨rfl, T, _, _, a1, a2, a3, Heap.get?_update_self _ a4 (Obj.isFreed_of_fields (Obj.data_mapFields a5 _)), Obj.data_mapFields a5 _, by simpa using a6⟩⟩ hQ
theorem leave_ok (hfr : A.frames = some (env :: outer)) (hf : env.frame = some L) (hl : h.FunFrames base (env :: outer)) (hS : ∀ b ∈ (env :: outer).filterMap (·.frame), b ∈ S)
    (x : Exc S h s.heap e cls c tb) (hQ : ∀ h', Exc S h h' e cls c true → Q () { s with heap := h' }) : wpAny M A (leaving env (.ref e)) Q E s := by
  unfold leaving
  exact wpAny_bind (note_ok hfr hf hl hS x fun h' x' => flight_set (s := { s with heap := h' }) x' hQ)
theorem came_ok {Q : Value → Shared → Prop} (x : Exc S h s.heap e cls c true) (hQ : ∀ h', Exc S h h' e cls c true → Q (.ref e) { s with heap := h' }) : cameBackBy M A env Q (.ref e) s := by
  unfold cameBackBy
  obtain ⟨oe, vs, h1, h2, h3, h4, h5, h6⟩ := id x.ob
  rcases h6 with ⟨q, _⟩ | ⟨_, T, oT, ts, a1, a2, a3, a4, a5, a6⟩
  · cases q
  · refine wpAny_bind (wpAny_field h1 h3 a1 ?_)
    rw [if_neg (show ¬ ((Value.ref T == Value.none) = true) from by simp)]
    exact flight_set x hQ
end
theorem KfS.drop {S : List Addr} {L : Addr} {h h' : Heap} (x : KfS (L :: S) h h') (hL : h.get? L = none) : KfS S h h' := fun b o e => by
  obtain ⟨sl, e1, n1⟩ := x b o e
  refine ⟨sl, e1, fun hb => n1 fun hm => ?_⟩
  rcases List.mem_cons.mp hm with q | q
  · rw [q, hL] at e; cases e
  · exact hb q
theorem Exc.drop {S : List Addr} {L : Addr} {h h' : Heap} {e : Addr} {cls c : Value} {tb : Bool} (x : Exc (L :: S) h h' e cls c tb) (hL : h.get? L = none) : Exc S h h' e cls c tb := ⟨x.kf.drop hL, x.new, x.ob⟩
theorem fr_none {g h : Heap} {L : Addr} {m : MapS} (F : Fr g L h m) : g.get? L = none := none_size F.above
theorem leave_frame {M : Model} {A : Around} {E : Value → Shared → Prop} {s : Shared} {base g h : Heap} {e L : Addr} {cls c : Value} {tb : Bool} {S : List Addr} {Q : Unit → Shared → Prop} {env : Env} {fs : List Env} {m : MapS}
    (B : Below A base fs g) (F : Fr g L h m) (hf : env.frame = some L) (hk : env.scope.kind = .function) (hS : ∀ b ∈ S, b ∈ (env :: fs).filterMap (·.frame)) (x : Exc S h s.heap e cls c tb)
    (hQ : ∀ h', Exc (fs.filterMap (·.frame)) g h' e cls c true → Q () { s with heap := h' }) : wpAny M (A.deeper env) (leaving env (.ref e)) Q E s := by
  refine leave_ok (Around.frames_deeper B.stack) hf (pushX B F hf hk).frames (fun b hb => hb) (x.mono hS) fun h' x' => hQ h' ?_
  have x2 := x'.ground (.of_kp F.keep)
  have e2 : (env :: fs).filterMap (·.frame) = L :: fs.filterMap (·.frame) := by rw [List.filterMap_cons, hf]
  rw [e2] at x2
  exact x2.drop (fr_none F)
end
end Mine
namespace Mine
section
open PySem.Calls
theorem entry_unchain : entryFor table "proto.unchain" = some Builtin.«proto.unchain» := entryFor_of_tree (by kernel_rfl)
noncomputable def HOk (A : Around) (h : Heap) : Prop := A.handled = none ∨ ∃ x ox vx, A.handled = some (.ref x) ∧ h.get? x = some ox ∧ ox.data = .fields vx ∧ vx[2]? = some .none
theorem HOk.keeps {A : Around} {h h' : Heap} (x : HOk A h) (k : Kp h h') : HOk A h' := x.imp id fun ⟨x, ox, vx, a, b, r⟩ => ⟨x, ox, vx, a, k _ _ b, r⟩
section
variable {α : Type} {prog : Program} {w : World} {A : Around} {E : Value → Shared → Prop} {s : Shared} {Q : α → Shared → Prop}
theorem raiseNew_ok {e : Addr} {oe : Obj} {vs : Array Value} (hh : HOk A s.heap) (hne : ∀ x, A.handled = some (.ref x) → x ≠ e) (he : s.heap.get? e = some oe) (hd : oe.data = .fields vs) (hsz : 2 < vs.size) (h2 : vs[2]? = some .none)
    (hE : ∀ h' c, (∀ b, b ≠ e → h'.get? b = s.heap.get? b) → (∃ o', h'.get? e = some o' ∧ o'.cls = oe.cls ∧ o'.data = .fields (vs.setIfInBounds 2 c)) → E (.ref e) { s with heap := h' }) :
    wpAny (model prog w) A (raiseNew (.ref e) : Sem α) Q E s := by
  unfold raiseNew
  refine wpAny_bind (wpAny_handled ?_)
  rcases hh with hh | ⟨x, ox, vx, hh, hx, hdx, hcx⟩
  · rw [hh]
    refine wpAny_bind (wpAny_pure (wpAny_throw (hE _ .none (fun _ _ => rfl) ⟨oe, he, rfl, ?_⟩)))
    rw [hd]
    congr 1
    refine (Array.ext (by simp) fun i h1 h2' => ?_)
    rw [Array.getElem_setIfInBounds]
    split
    · rename_i q; subst q
      have := (Array.getElem?_eq_some_iff.mp h2).2
      exact this
    · rfl
  · rw [hh]
    have hx' : x ≠ e := hne x hh
    dsimp only
    rw [if_pos (show (Value.ref x != Value.ref e) = true from by simpa using hx')]
    refine wpAny_bind (wpAny_holding (wpAny_runValue (codeAny_builtin entry_unchain ?_)))
    show wpAny _ _ (field (.ref x) 2 >>= _) _ _ s
    refine wpAny_bind (wpAny_field hx hdx hcx ?_)
    show wpAny _ _ (if (Value.none == Value.none) = true then _ else _) _ _ s
    rw [if_pos (by decide)]
    refine wpAny_bind (wpAny_pure (wpAny_pure ?_))
    show wpAny _ _ (updateField e 2 (.ref x) >>= _) _ _ s
    refine wpAny_bind ?_
    exact wpAny_setField (a := e) he hd hsz (wpAny_throw (hE _ (.ref x) (fun b hb => Heap.get?_update_ne _ _ _ _ hb) ⟨_, Heap.get?_update_self _ he (Obj.isFreed_of_fields (Obj.data_mapFields hd _)), Obj.cls_mapFields _ _, Obj.data_mapFields hd _⟩))
end
section
variable {α : Type} {prog : Program} {w : World} {A : Around} {E : Value → Shared → Prop} {s : Shared} {Q : α → Shared → Prop}
end
section
variable {prog : Program} {w : World} {A : Around} {E : Value → Shared → Prop} {s : Shared}
theorem stop_ok {A₂ : Around} {Q : Option Value → Shared → Prop} {it : Addr} {h₀ : Heap} (hh : HOk A s.heap) (k : Heap.ExtBut it h₀ s.heap)
    (hQ : ∀ h', Heap.ExtBut it h₀ h' → Q none { s with heap := h' }) :
    wpAny (model prog w) A (newExc (.type "StopIteration") [] >>= fun e => (raiseNew e : Sem Fin)) (fun _ _ => False) (fun e s' => wpAny (model prog w) A₂ (do if ← isInstance e (.type "StopIteration") then pure none else throw e : Sem (Option Value)) Q E s') s := by
  simp only [newExc, newTuple]
  refine wpAny_bind (wpAny_bind (wpAny_newObj_type ?_ (by size_fits)))
  refine wpAny_bind (m := firstArgMember _ _) (wpAny_of_eq (a := Value.none) (by first | rfl | (simp only [firstArgMember]; rfl)) ?_)
  refine wpAny_newObj_type ?_ (by size_fits)
  have k1 : Kp s.heap _ := fun b o q => Heap.get?_push_of_some (h := s.heap.push { cls := .type "tuple", data := .seq ([] : List Value).toArray }) { cls := .type "StopIteration", data := .fields (#[Value.ref s.heap.objs.size, .none, .none, .none, .bool false, .none] ++ ownMembersOf (.type "StopIteration") []) } (Heap.get?_push_of_some _ q)
  refine raiseNew_ok (hh.keeps k1) ?_ (Heap.get?_push_size _ rfl) rfl (by rw [Array.size_append]; exact Nat.lt_of_lt_of_le (by decide) (Nat.le_add_right 6 _)) (by rw [Array.getElem?_append_left (by show 2 < 6; (first | lia | omega))]; rfl) ?_
  · intro x hx q
    rcases hh with hn | ⟨y, ox, vx, hy, hg, _⟩
    · rw [hn] at hx; cases hx
    · rw [hy] at hx; cases hx
      have h8 : @LT.lt Nat _ x s.heap.objs.size := Heap.lt_size hg
      have h9 : @Eq Nat x (s.heap.objs.size + 1) := q.trans (Heap.size_push ..)
      (first | lia | omega)
  · intro h' c k2 ⟨o', a1, a2, _⟩
    refine wpAny_bind (wpAny_isInstance (T := "StopIteration") (b := true) ⟨_, a1, a2⟩ isSubtype_stop ?_)
    refine wpAny_pure (hQ _ fun b o hb q => (k2 b fun z => ?_).trans (k1 b o (k b o hb q)))
    have h8 : @LT.lt Nat _ b s.heap.objs.size := Heap.lt_size (k b o hb q)
    have h9 : @Eq Nat b (s.heap.objs.size + 1) := z.trans (Heap.size_push ..)
    (first | lia | omega)
end
section
variable {prog : Program} {w : World} {A : Around} {E : Value → Shared → Prop} {s : Shared}
theorem next_tuple_end {it t : Addr} {i : Nat} {items : Array Value} {Q : Option Value → Shared → Prop} (hh : HOk A s.heap) (hne : ∀ x, A.handled = some (.ref x) → x ≠ it)
    (hit : s.heap.IsTupleIter it t i) (ht : s.heap.IsTuple t items) (hx : items[i]? = none)
    (hQ : ∀ h', Heap.ExtBut it s.heap h' → Q none { s with heap := h' }) : wpAny (model prog w) A (pyNext (.ref it)) Q E s := by
  obtain ⟨o, ho, hc, hd⟩ := id hit
  obtain ⟨ol, hol, _, nl, hdl⟩ := ht
  unfold pyNext
  refine wpAny_bind (wpAny_attempt (wpAny_callSpecial?_slot (name := Str.ofString "__next__") hit.typeIs F.slot_tuple_iterator_next
    (wpAny_call_entry F.slot_tuple_iterator_next hit.typeIs F.entry_tuple_iterator_next ?_ (F.args_tuple_iterator_next_1 _))))
  show wpAny _ _ (field (.ref it) 0 >>= _) _ _ s
  refine wpAny_bind (wpAny_field ho hd (x := .ref t) rfl ?_)
  show wpAny _ _ (if (Value.ref t == Value.none) = true then _ else _) _ _ s
  rw [if_neg (show ¬ ((Value.ref t == Value.none) = true) from Bool.false_ne_true)]
  show wpAny _ _ (field (.ref it) 1 >>= _) _ _ s
  refine wpAny_bind (wpAny_field ho hd (x := .int i 0) rfl ?_)
  show wpAny _ _ (seqItems? (.ref t) >>= _) _ _ s
  refine wpAny_bind (wpAny_seqItems hol hdl ?_)
  simp only [Int.toNat_natCast, hx]
  refine wpAny_bind (wpAny_rule (wpAny_bind (wpAny_setField ho hd (by simp) ?_)))
  have hh' : HOk A.in1 (s.heap.update it (Obj.mapFields (·.setIfInBounds 0 .none))) := by
    rcases hh with hn | ⟨x, ox, vx, hy, hg, r⟩
    · exact .inl hn
    · exact .inr ⟨x, ox, vx, hy, (Heap.get?_update_ne _ _ _ _ (hne x hy)).trans hg, r⟩
  show wpAny _ _ (newExc (.type "StopIteration") [] >>= fun e => (raiseNew e : Sem Fin)) _ _ _
  exact wpAny_mono (stop_ok (A₂ := A) (E := E) (s := { s with heap := s.heap.update it (Obj.mapFields (·.setIfInBounds 0 .none)) }) (h₀ := s.heap) hh' (fun b o hb q => (Heap.get?_update_ne _ _ _ _ hb).trans q) hQ) (fun _ _ q => q.elim) (fun _ _ q => q)
end
theorem walks_tuple {prog : Program} {w : World} {A : Around} (I ax : Addr) (hne : ax ≠ I) (items : Array Value) {x : Addr} {ox : Obj} {vx : Array Value} (hA : A.handled = some (.ref x)) (hd : ox.data = .fields vx) (hc : vx[2]? = some .none) (hxI : x ≠ I) :
    Walks prog w A I [I, ax, x] [I] items.size (fun i v => items[i]? = some v) (fun i h => (h.IsTupleIter I ax i ∧ h.IsTuple ax items) ∧ h.get? x = some ox) where
  sub := fun b hb => by simp at hb; simp [hb]
  frame := fun _ _ _ st hk => ⟨⟨st.1.1.at fun o e => hk I (by simp) o e, st.1.2.at fun o e => hk ax (by simp) o e⟩, hk x (by simp) _ st.2⟩
  item := fun i s Q E hi st hQ => by
    refine wpAny_pyNext_tuple_item st.1.1 st.1.2 (x := items[i]) (by simp [hi]) fun h' hit' hs' => ?_
    exact hQ _ h' s.toks (by simp [hi]) ⟨⟨hit', st.1.2.extBut hs'.extBut hne⟩, hs'.extBut x _ hxI st.2⟩ fun b o hb e => hs'.extBut b o (fun h => hb (by simp [h])) e
  done := fun s Q E st hQ => next_tuple_end (.inr ⟨x, ox, vx, hA, st.2, hd, hc⟩) (fun y hy => by rw [hA] at hy; cases hy; exact hxI) st.1.1 st.1.2 (by simp) fun h' he' => hQ h' s.toks fun b o hb e => he' b o (fun h => hb (by simp [h])) e
  self := fun _ _ _ _ st hQ => wpAny_pyIter_tupleiter st.1.1 hQ
section
variable {prog : Program} {w : World} {A : Around} {E : Value → Shared → Prop} {s : Shared} {env : Env} {h₀ : Heap} {x : Str} {body : List Stmt} {Q : Flow → Shared → Prop}
theorem for_tupH {D y : Addr} {oy : Obj} {vy : Array Value} {vs : List Value} {m₀ : Str → Option Value} {news : List (Addr × Obj)} (J : (Str → Option Value) → Nat → (Str → Option Value) → List (Addr × Obj) → Prop)
    (hA : A.handled = some (.ref y)) (hy : s.heap.get? y = some oy) (hdy : oy.data = .fields vy) (hcy : vy[2]? = some .none) (hyL : y ≠ env.locals)
    (F : Fr h₀ env.locals s.heap m₀) (N : News h₀ env.locals s.heap news) (hD : s.heap.IsTuple D vs.toArray) (hDL : D ≠ env.locals) (hj : J m₀ 0 m₀ news)
    (turn : ∀ I i v m₁ nx h tk own, vs[i]? = some v → (∃ o, (I, o) ∈ own) → (∀ p ∈ nx, p.1 ∉ [I]) → J m₀ i m₁ nx → Fr h₀ env.locals h (fun y => if y = x then some v else m₁ y) → News h₀ env.locals h (own ++ nx) →
      wpAny (model prog w) A (execs body env) (TurnEnd h₀ env.locals [I] own (J m₀ (i + 1)) s Q) E { s with heap := h, toks := tk })
    (done : ∀ m₁ nx h tk, J m₀ vs.length m₁ nx → Fr h₀ env.locals h m₁ → News h₀ env.locals h nx → Q .next { s with heap := h, toks := tk }) :
    wpAny (model prog w) A (pyIter (.ref D)) (fun it s₂ => LoopAtV prog w A h₀ env x body Q E it s₂) E s := by
  obtain ⟨oD, hoD, hr⟩ := id hD
  have hne : D ≠ s.heap.objs.size := lt_ne_size hoD
  refine wpAny_pyIter_tuple hD ?_
  have W := walks_tuple (prog := prog) (w := w) s.heap.objs.size D hne vs.toArray hA hdy hcy (lt_ne_size hy)
  have hlen : vs.toArray.size = vs.length := by simp
  rw [hlen] at W
  refine for_walk (J m₀) W ?_ ?_ ?_ ?_ ⟨⟨⟨_, Heap.get?_push_size _ rfl, rfl, rfl⟩, ⟨oD, Heap.get?_push_of_some _ hoD, hr⟩⟩, Heap.get?_push_of_some _ hy⟩ (F.push _) (fun p hp => ⟨Heap.get?_push_of_some _ (N p hp).1, (N p hp).2⟩) hj ?_ ?_
  · intro hm
    rcases List.mem_cons.mp hm with e | hm
    · exact absurd F.ns.lt (e ▸ Nat.lt_irrefl _)
    · rcases List.mem_cons.mp hm with e | hm
      · exact hDL e.symm
      · exact hyL (List.mem_singleton.mp hm).symm
  · intro b hb; rw [List.mem_singleton.mp hb]; exact next_is_new F
  · intro p hp hI; exact absurd (Heap.lt_size (N p hp).1) ((List.mem_singleton.mp hI) ▸ Nat.lt_irrefl _)
  · intro i h hi b hb; rw [List.mem_singleton.mp hb]; obtain ⟨⟨⟨o, ho, _⟩, _⟩, _⟩ := hi; exact ⟨o, ho⟩
  · intro i v m₁ nx h tk own hi hP hI ho hJ F₁ N₁
    exact turn _ i v m₁ nx h tk own (by simpa using hP) (hI _ (.head _)) ho hJ F₁ N₁
  · exact fun m₁ nx h tk hJ F₁ N₁ => done m₁ nx h tk hJ F₁ N₁
end
end
end Mine
namespace Mine
section
open PySem.Calls
section
variable {M : Model} {A : Around} {E : Value → Shared → Prop} {s : Shared}
theorem excFrom_ok {cls : String} (F : ExcRaiseFacts cls) {e : Addr} {dd : Option Addr} {vs : Array Value} {sl : Array (Option Value)} {msg : String} {Q : Value → Shared → Prop} (he : s.heap.get? e = some ⟨.type cls, dd, .fields vs, sl⟩) (h : Q (.ref e) s) : wpAny M A (excFromValue (.ref e) msg) Q E s := by
  obtain ⟨hp, g, d, tk, os⟩ := s
  have hsub := F.isExc
  have hmeta := F.plainMeta
  have hT : (⟨hp, g, d, tk, os⟩ : Shared).TypeIs (.ref e) cls := ⟨_, he, rfl⟩
  repeat (first | assumption | refine wpAny_loadPart he ?_ | wp_step)
theorem isType_exc {cls : String} {e : Addr} {dd : Option Addr} {vs : Array Value} {sl : Array (Option Value)} {Q : Bool → Shared → Prop} (he : s.heap.get? e = some ⟨.type cls, dd, .fields vs, sl⟩) (h : Q false s) : wpAny M A (isType (.ref e)) Q E s := by
  obtain ⟨hp, g, d, tk, os⟩ := s
  repeat (first | assumption | refine wpAny_loadPart he ?_ | wp_step)
theorem raisedInst_ok {cls : String} (F : ExcRaiseFacts cls) {e : Addr} {dd : Option Addr} {vs : Array Value} {sl : Array (Option Value)} {Q : Value → Shared → Prop} (he : s.heap.get? e = some ⟨.type cls, dd, .fields vs, sl⟩) (h : Q (.ref e) s) : wpAny M A (raisedInstance (.ref e)) Q E s := by
  obtain ⟨hp, g, d, tk, os⟩ := s
  have hmeta := F.plainMeta
  have hT : (⟨hp, g, d, tk, os⟩ : Shared).TypeIs (.ref e) cls := ⟨_, he, rfl⟩
  repeat (first | assumption | (rw [if_pos hmeta]) | refine wpAny_loadPart he ?_ | wp_step)
end
section
variable {prog : Program} {w : World} {A : Around} {E : Value → Shared → Prop} {s : Shared} {env : Env}
theorem raise_fromNone {cls : String} (F : ExcRaiseFacts cls) {x c : Sem Value} {Q : Flow → Shared → Prop}
    (h : wpAny (model prog w) A x (fun v s₁ => ∃ e t, v = .ref e ∧ s₁.heap.get? e = some { cls := .type cls, data := .fields #[.ref t, .none, .none, .none, .bool false, .none] } ∧ HOk A s₁.heap ∧ (∀ x, A.handled = some (.ref x) → x ≠ e) ∧
      wpAny (model prog w) A c (fun n s₂ => n = .none ∧ s₂.heap = s₁.heap ∧ ∀ h' k, (∀ b, b ≠ e → h'.get? b = s₁.heap.get? b) → (∃ o', h'.get? e = some o' ∧ o'.cls = .type cls ∧ o'.data = .fields #[.ref t, .none, k, .none, .bool true, .none]) → E (.ref e) { s₂ with heap := h' }) E s₁) E s) :
    wpAny (model prog w) A (raiseStmt env (some x) (some c)) Q E s := by
  unfold raiseStmt
  refine wpAny_bind (wpAny_mono h (fun v s₁ h₁ => ?_) fun _ _ x => x)
  obtain ⟨e, t, rfl, he, hok, hne, hc⟩ := h₁
  dsimp only
  refine wpAny_bind (wpAny_holding (wpAny_mono hc (fun n s₂ h₂ => wpAny_bind (wpAny_pure ?_)) fun _ _ x => x))
  obtain ⟨rfl, hh, hE⟩ := h₂
  rw [← hh] at he hok hE
  refine wpAny_bind (wpAny_holding (excFrom_ok F he ?_))
  dsimp only
  rw [if_pos (by decide)]
  refine wpAny_bind (wpAny_pure ?_)
  refine wpAny_bind (wpAny_setField he rfl (by show 3 < 6; (first | lia | omega)) ?_)
  have he1 := Heap.get?_update_self (Obj.mapFields (·.setIfInBounds 3 (Value.none))) he rfl
  refine wpAny_bind (wpAny_setField he1 rfl (by show 4 < 6; (first | lia | omega)) ?_)
  have he2 := Heap.get?_update_self (Obj.mapFields (·.setIfInBounds 4 (Value.bool true))) he1 rfl
  refine wpAny_bind (isType_exc he2 ?_)
  rw [if_neg (by decide)]
  refine wpAny_bind (raisedInst_ok F he2 ?_)
  unfold setFlight
  refine wpAny_bind (wpAny_bind (wpAny_field he2 rfl (x := .none) rfl ?_))
  rw [if_neg (by decide)]
  refine wpAny_pure ?_
  have ok2 : HOk A ((s₂.heap.update e (Obj.mapFields (·.setIfInBounds 3 (Value.none)))).update e (Obj.mapFields (·.setIfInBounds 4 (Value.bool true)))) := by
    rcases hok with hn | ⟨x, ox, vx, hy, hg, r⟩
    · exact .inl hn
    · exact .inr ⟨x, ox, vx, hy, (Heap.get?_update_ne _ _ _ _ (hne x hy)).trans ((Heap.get?_update_ne _ _ _ _ (hne x hy)).trans hg), r⟩
  refine raiseNew_ok ok2 hne he2 rfl (by show 2 < 6; (first | lia | omega)) rfl fun h' k k2 ⟨o', a1, a2, a3⟩ => hE h' k (fun b hb => (k2 b hb).trans ((Heap.get?_update_ne _ _ _ _ hb).trans (Heap.get?_update_ne _ _ _ _ hb))) ⟨o', a1, a2, a3⟩
end
section
variable {prog : Program} {w : World} {A : Around} {E : Value → Shared → Prop} {s : Shared} {env : Env}
theorem evalOpt_some (e : Expr) (env : Env) : evalOpt (some e) env = some (eval e env) := rfl
theorem Raise_none {cls newId initId : String} (F : ExcCallFacts cls newId initId) (G : ExcRaiseFacts cls) {x : Str} {np cpos pos kp : Pos} {kk : Nat} {args : List Expr} {Q : Flow → Shared → Prop}
    (hplain : (backTo cpos (starEach args env)).any (·.1) = false)
    (h : wpAny (model prog w) A (eval (.Name x np) env) (fun f s₁ => f = .type cls ∧ wpAny (model prog w) A (evalArgs (.type cls) true (backTo cpos (starEach args env)) [])
      (fun a s₂ => a.kw = [] ∧ a.pos.length ≤ sizeLine ∧ HOk A s₂.heap ∧ ∀ h' e c, Kp s₂.heap h' → Exc [] s₂.heap h' e (.type cls) c false → E (.ref e) { s₂ with heap := h' }) E s₁) E s) :
    wpAny (model prog w) A (exec (.Raise (some (.Call (.Name x np) args [] cpos)) (some (.Constant .none kk kp)) pos) env) Q E s := by
  rw [arm_exec_Raise]
  rw [evalOpt_some, evalOpt_some, Option.map_some, Option.map_some]
  refine wpAny_bind (wpAny_standAt (raise_fromNone G (wpAny_bind (wpAny_mono (wpAny_Call_ofName (keywords := []) (wpAny_mono h (fun f s₁ h₁ => ?_) fun _ _ x => x)) (fun v s₁ h₁ => wpAny_bind (wpAny_standAt (wpAny_pure h₁))) fun _ _ x => x))))
  obtain ⟨rfl, h₁⟩ := h₁
  refine callWith_excType hplain (wpAny_mono h₁ (fun a s₂ h₂ => ?_) fun _ _ x => x)
  obtain ⟨apos, akw⟩ := a
  obtain ⟨hkw, hlen, hok, h₂⟩ := h₂
  obtain rfl : akw = [] := hkw
  obtain ⟨hp, g, d, tk, os⟩ := s₂
  refine wpAny_call_exc F (hrest := hlen) fun h' e hm => ?_
  obtain ⟨t, ht, _, _⟩ := hm.there
  refine ⟨e, t, rfl, ht, hok.keeps hm.keeps, fun x hx q => ?_, ?_⟩
  · rcases hok with hn | ⟨y, ox, vx, hy, hg, _⟩
    · rw [hn] at hx; cases hx
    · rw [hy] at hx; cases hx
      have := hm.new
      rw [← q] at this
      have hg' : hp.get? x = some ox := hg
      rw [hg'] at this; cases this
  · refine wpAny_bind (wpAny_pure (wpAny_bind (wpAny_standAt (wpAny_pure ⟨rfl, rfl, fun h'' k k2 ⟨o', a1, a2, a3⟩ => ?_⟩))))
    have kk2 : Kp hp h'' := fun b o q => (k2 b fun z => by rw [z, hm.new] at q; cases q).trans (hm.keeps b o q)
    exact h₂ h'' e k kk2 ⟨.of_kp kk2, hm.new, o', _, a1, a2, a3, rfl, rfl, .inl ⟨rfl, rfl⟩⟩
end
theorem evalArgs_c {M : Model} {A : Around} {E : Value → Shared → Prop} {s : Shared} {env : Env} {pos : Pos} {f : Value} {e : Expr} {rest : List Expr} {Q : Args → Shared → Prop}
    (h : wpAny M A (spliced (backTo pos (starEach (e :: rest) env))) (fun vs s₁ => Q ⟨vs, []⟩ s₁) E s) (he : starEach (e :: rest) env = (false, eval e env) :: starEach rest env := by rfl) :
    wpAny M A (evalArgs f true (backTo pos (starEach (e :: rest) env)) []) Q E s := by
  rw [he] at h ⊢
  exact evalArgs_plain h
end
end Mine
namespace Mine
section
open PySem.Calls
theorem str_no_buffer : typeLookup (.type "str") "__buffer__" = pure none := by rw [typeLookup_type, builtinLookup_eq_fast]; kernel_rfl
section
open Builtin
end
section
variable {prog : Program} {w : World} {A : Around} {E : Value → Shared → Prop} {s : Shared} {t u : Tok} {x : Str} {c : Array UInt8} {Q : Value → Shared → Prop}
end
end
end Mine
namespace Mine
section
open PySem.Calls
structure Gnd (base : Heap) (fs : List Env) (h g : Heap) (fobs : List (Addr × Obj)) : Prop where
  bg : Kp base g
  gh : Kp g h
  size : g.objs.size = h.objs.size
  split : ∀ b o, h.get? b = some o → g.get? b = some o ∨ (b ∈ fs.filterMap (·.frame) ∧ ∃ sl, (b, ({ o with slots := sl } : Obj)) ∈ fobs)
  fob : ∀ p ∈ fobs, g.get? p.1 = none ∧ p.1 ∈ fs.filterMap (·.frame) ∧ p.1 < h.objs.size
  hid : ∀ b ∈ fs.filterMap (·.frame), g.get? b = none
  funs : ∀ h' : Heap, (∀ p ∈ fobs, ∃ sl, h'.get? p.1 = some { p.2 with slots := sl }) → h'.FunFrames base fs
theorem funs_of {base h : Heap} : ∀ {fs : List Env}, h.FunFrames base fs → ∀ h' : Heap, (∀ L ∈ fs.filterMap (·.frame), ∀ o, h.get? L = some o → ∃ sl, h'.get? L = some { o with slots := sl }) → h'.FunFrames base fs
  | [], _, _, _ => trivial
  | env :: fs, ⟨hk, ⟨L, o, hf, hn, ho, hd⟩, hr⟩, h', k => by
    obtain ⟨sl, e1⟩ := k L (List.mem_filterMap.mpr ⟨env, .head _, hf⟩) o ho
    exact ⟨hk, ⟨L, _, hf, hn, e1, hd⟩, funs_of hr h' fun L' hL' o' e => k L' (by
      obtain ⟨e', he', hf'⟩ := List.mem_filterMap.mp hL'
      exact List.mem_filterMap.mpr ⟨e', .tail _ he', hf'⟩) o' e⟩
theorem gnd {A : Around} {base h : Heap} {fs : List Env} (B : Below A base fs h) : ∃ g fobs, Gnd base fs h g fobs ∧ ∀ p ∈ fobs, h.get? p.1 = some p.2 := by
  have key : ∀ p ∈ (fs.filterMap (·.frame)).filterMap (fun L => (h.get? L).map fun o => (L, o)), h.get? p.1 = some p.2 ∧ p.1 ∈ fs.filterMap (·.frame) := fun p hp => by
    obtain ⟨L, hL, e⟩ := List.mem_filterMap.mp hp
    cases q : h.get? L with
    | none => rw [q] at e; cases e
    | some o => rw [q] at e; cases e; exact ⟨q, hL⟩
  refine ⟨hideAll h (fs.filterMap (·.frame)), (fs.filterMap (·.frame)).filterMap fun L => (h.get? L).map fun o => (L, o), ⟨?_, fun b o e => of_hideAll _ e, hideAll_size _ _, fun b o e => ?_, fun p hp => ?_, fun b hb => hideAll_none _ hb, fun h' k => ?_⟩, fun p hp => (key p hp).1⟩
  · intro b o e
    refine hideAll_get _ (B.stays b o e) fun hm => ?_
    have := (B.frames.mem hm).1
    rw [e] at this; cases this
  · by_cases hb : b ∈ fs.filterMap (·.frame)
    · exact .inr ⟨hb, o.slots, List.mem_filterMap.mpr ⟨b, hb, by rw [e]; rfl⟩⟩
    · exact .inl (hideAll_get _ e hb)
  · exact ⟨hideAll_none _ (key p hp).2, (key p hp).2, Heap.lt_size (key p hp).1⟩
  · exact funs_of B.frames h' fun L hL o e => k (L, o) (List.mem_filterMap.mpr ⟨L, hL, by rw [e]; rfl⟩)
section
variable {base h g h₁ : Heap} {fs : List Env} {fobs news : List (Addr × Obj)} {L : Addr} {m : MapS}
theorem Gnd.fr (G : Gnd base fs h g fobs) (F : Fr h L h₁ m) : Fr g L h₁ m := ⟨F.ns, fun b o e => F.keep b o (G.gh b o e), by rw [G.size]; exact F.above⟩
theorem Gnd.led (G : Gnd base fs h g fobs) (k : ∀ p ∈ fobs, h.get? p.1 = some p.2) (F : Fr h L h₁ m) (N : News h L h₁ news) : News g L h₁ (news ++ fobs) := fun p hp => by
  rcases List.mem_append.mp hp with hp | hp
  · refine ⟨(N p hp).1, (N p hp).2.1, ?_⟩
    cases q : g.get? p.1 with
    | none => rfl
    | some o => have := G.gh _ _ q; rw [(N p hp).2.2] at this; cases this
  · obtain ⟨b, _, lt⟩ := G.fob p hp
    exact ⟨F.keep _ _ (k p hp), Nat.ne_of_lt (Nat.lt_of_lt_of_le lt F.above), b⟩
theorem Gnd.kf (G : Gnd base fs h g fobs) (F : Fr g L h₁ m) (k : ∀ p ∈ fobs, h₁.get? p.1 = some p.2) : KfS (fs.filterMap (·.frame)) h h₁ := fun b o e => by
  rcases G.split b o e with q | ⟨hm, sl, q⟩
  · exact ⟨o.slots, F.keep b o q, fun _ => rfl⟩
  · exact ⟨sl, k _ q, fun hn => absurd hm hn⟩
theorem Gnd.below {A : Around} {env : Env} (G : Gnd base fs h g fobs) (B : Below A base fs h) (F : Fr g L h₁ m) (k : ∀ p ∈ fobs, h₁.get? p.1 = some p.2) (hf : env.frame = some L) (hk : env.scope.kind = .function) : Below (A.deeper env) base (env :: fs) h₁ := by
  have hb : Below A base fs h₁ := ⟨B.stack, fun b o e => F.keep b o (G.bg b o e), G.funs _ fun p hp => ⟨p.2.slots, k p hp⟩⟩
  have hnew : base.get? L = none := by
    cases q : base.get? L with
    | none => rfl
    | some o => have := G.bg _ _ q; rw [fr_none F] at this; cases this
  exact ⟨Around.frames_deeper B.stack, hb.stays, .cons (by rw [hk]; decide) hf F.ns hnew hb.frames⟩
theorem Gnd.turn {S : List Addr} {h₂ : Heap} (G : Gnd base fs h g fobs) (k : ∀ p ∈ fobs, h₁.get? p.1 = some p.2) (x : KfS S h₁ h₂) : ∃ fobs', Gnd base fs h g fobs' ∧ ∀ p ∈ fobs', h₂.get? p.1 = some p.2 := by
  have key : ∀ p ∈ fobs.filterMap (fun q => (h₂.get? q.1).map fun o => (q.1, o)), h₂.get? p.1 = some p.2 ∧ ∃ q ∈ fobs, p.1 = q.1 ∧ ∃ sl, p.2 = { q.2 with slots := sl } := fun p hp => by
    obtain ⟨q, hq, e⟩ := List.mem_filterMap.mp hp
    obtain ⟨sl, e1, _⟩ := x _ _ (k q hq)
    rw [e1] at e; cases e
    exact ⟨e1, q, hq, rfl, sl, rfl⟩
  have back : ∀ q ∈ fobs, ∃ sl, (q.1, ({ q.2 with slots := sl } : Obj)) ∈ fobs.filterMap (fun q => (h₂.get? q.1).map fun o => (q.1, o)) := fun q hq => by
    obtain ⟨sl, e1, _⟩ := x _ _ (k q hq)
    exact ⟨sl, List.mem_filterMap.mpr ⟨q, hq, by rw [e1]; rfl⟩⟩
  refine ⟨_, ⟨G.bg, G.gh, G.size, fun b o e => ?_, fun p hp => ?_, G.hid, fun h' k' => G.funs h' fun q hq => ?_⟩, fun p hp => (key p hp).1⟩
  · rcases G.split b o e with q | ⟨hm, sl, q⟩
    · exact .inl q
    · obtain ⟨sl', z⟩ := back _ q
      exact .inr ⟨hm, sl', z⟩
  · obtain ⟨_, q, hq, e, _⟩ := key p hp
    rw [e]; exact G.fob q hq
  · obtain ⟨sl, z⟩ := back q hq
    obtain ⟨sl2, e2⟩ := k' _ z
    exact ⟨sl2, e2⟩
end
noncomputable def ExcOb (e T : Addr) (oe oT : Obj) (cls c : Value) : Prop := ∃ vs ts, oe.cls = cls ∧ oe.data = .fields vs ∧ vs.size = 6 ∧ vs[2]? = some c ∧ vs[1]? = some (.ref T) ∧ T ≠ e ∧ oT.data = .fields ts ∧ 3 < ts.size
section
variable {prog : Program} {w : World} {A : Around} {E : Value → Shared → Prop} {s : Shared} {base h g h₃ : Heap} {fs : List Env} {fobs led : List (Addr × Obj)} {L a e : Addr} {m mg mb : MapS} {K : Frag} {p : Program} {loose : List Str}
  {name : Str} {scope : Scope} {cd c : Value} {cls : String} {S : List Addr} {t : Expr} {b₀ : Stmt} {suite : List Stmt} {pos : Pos} {rest : List ExceptHandler} {Q : Flow → Shared → Prop}
end
noncomputable def TB.len : TB → Nat
  | .t x => x.length
  | .b x => x.size
noncomputable def lensT (xs : List TB) : Nat := (xs.map fun y => y.len + 1).sum
theorem lensT_snoc (xs : List TB) (b : TB) : lensT (xs ++ [b]) = lensT xs + (b.len + 1) := by simp [lensT]
theorem lensT_take (xs : List TB) (i : Nat) : lensT (xs.take i) ≤ lensT xs := by
  have h2 : ∀ a b : List TB, lensT (a ++ b) = lensT a + lensT b := fun a b => by simp [lensT]
  have h2 := h2 (xs.take i) (xs.drop i)
  rw [List.take_append_drop] at h2; (first | lia | omega)
theorem lensT_ge (xs : List TB) : xs.length ≤ lensT xs := by
  induction xs with
  | nil => simp [lensT]
  | cons b r ih => have h3 : lensT (b :: r) = (b.len + 1) + lensT r := by simp [lensT]
                   simp only [List.length_cons]; (first | lia | omega)
section
variable {M : Model} {A : Around} {E : Value → Shared → Prop} {s : Shared} {base h g h₃ : Heap} {fs : List Env} {fobs : List (Addr × Obj)} {L e : Addr} {m : MapS} {env : Env} {cls c : Value} {tb : Bool} {v : Option Value}
theorem handler_out (B3 : Below (A.deeper env) base (env :: fs) h₃) (hf : env.frame = some L) (x : Exc ((env :: fs).filterMap (·.frame)) h₃ s.heap e cls c tb)
    (hE : ∀ h', Exc ((env :: fs).filterMap (·.frame)) h₃ h' e cls c true → E (.ref e) { s with heap := h' }) :
    notedBy M ((A.deeper env).mark v) env (cameBackBy M (A.deeper env) env E) (.ref e) s :=
  note_ok (show ((A.deeper env).mark v).frames = _ from B3.stack) hf B3.frames (fun _ hb => hb) x fun h' x' => came_ok (s := { s with heap := h' }) x' hE
theorem leave_gnd {Q : Unit → Shared → Prop} (B3 : Below (A.deeper env) base (env :: fs) h₃) (G : Gnd base fs h g fobs) (F : Fr g L h₃ m) (k : ∀ p ∈ fobs, h₃.get? p.1 = some p.2) (hL : h.get? L = none) (hf : env.frame = some L) (x : Exc ((env :: fs).filterMap (·.frame)) h₃ s.heap e cls c tb)
    (hQ : ∀ h', Exc (fs.filterMap (·.frame)) h h' e cls c true → Q () { s with heap := h' }) : wpAny M (A.deeper env) (leaving env (.ref e)) Q E s := by
  refine leave_ok B3.stack hf B3.frames (fun _ hb => hb) x fun h' x' => hQ h' ?_
  have e2 : (env :: fs).filterMap (·.frame) = L :: fs.filterMap (·.frame) := by rw [List.filterMap_cons, hf]
  have x2 := x'.ground ((G.kf F k).mono fun b hb => by rw [e2]; exact .tail _ hb)
  rw [e2] at x2
  exact x2.drop hL
end
theorem below_mark {A : Around} {base h : Heap} {l : List Env} {v : Option Value} (B : Below A base l h) : Below (A.mark v) base l h := ⟨B.stack, B.stays, B.frames⟩
end
end Mine
namespace Mine
section
open PySem.Calls
section
variable {prog : Program} {w : World} {A : Around} {E : Value → Shared → Prop} {R : Result → Shared → Prop} {s : Shared}
theorem compLoop_gen {elt target iter : Expr} {ifs : List Expr} {scope : Scope} {pos : Pos} {it acc : Value} {env : Env} (I : Nat → Shared → Prop)
    (turn : ∀ n s, I n s → wpAny (model prog w) A (pyNext it) (fun r s₁ => match r with
      | none => R (.ok .next) s₁
      | some v => wpAny (model prog w) A (letOwnedTupleGo target it v) (fun _ s₁' => wpAny (model prog w) A (assign target env v) (fun _ s₂ =>
          wpAny (model prog w) A (forIn ifs true fun c r => if r = true then do let ok ← isTrue c env (eval c env); pure (ForInStep.yield ok) else pure (ForInStep.yield r)) (fun ok s₃ =>
            if ok = true then wpAny (model prog w) A (eval elt env) (fun x s₄ =>
              wpAny (model prog w) A (call (.builtin "list.append") [acc, x]) (fun _ s₅ => ∃ m, m < n ∧ I m s₅) (notedBy (model prog w) A env fun e s' => R (.error e) s') s₄) (notedBy (model prog w) A env fun e s' => R (.error e) s') s₃
            else ∃ m, m < n ∧ I m s₃) (notedBy (model prog w) A env fun e s' => R (.error e) s') s₂) (notedBy (model prog w) A env fun e s' => R (.error e) s') s₁') (notedBy (model prog w) A env fun e s' => R (.error e) s') s₁) (notedBy (model prog w) A env fun e s' => R (.error e) s') s)
    (n : Nat) (h : I n s) :
    codeAny (model prog w) A (.compLoop (.ListComp elt [⟨target, iter, ifs, 0⟩] scope pos) 0 it acc env) R s := by
  refine codeAny_loop rfl I (fun n s hI => ?_) n h
  show wpAny _ A ((compTurn (.ListComp elt [⟨target, iter, ifs, 0⟩] scope pos) 0 it acc env).onRaise (fun x => do noteFrame x env; theTreesLotGoes x)) _ _ s
  refine wpAny_noted ?_
  rw [compTurn_list]
  refine wpAny_bind (wpAny_standAt (wpAny_bind (wpAny_mono (turn n s hI) (fun r s₁ h₁ => ?_) fun _ _ h' => h')))
  cases r with
  | none => exact wpAny_pure h₁
  | some v =>
    refine wpAny_bind (wpAny_mono h₁ (fun _ s₁' h₁' => ?_) fun _ _ h' => h')
    refine wpAny_bind (wpAny_mono h₁' (fun _ s₂ h₂ => wpAny_bind (wpAny_mono h₂ (fun ok s₃ h₃ => ?_) fun _ _ h' => h')) fun _ _ h' => h')
    cases ok with
    | false => exact wpAny_pure ⟨rfl, h₃⟩
    | true =>
      exact wpAny_bind (wpAny_bind (wpAny_mono h₃ (fun x s₄ h₄ => wpAny_bind (wpAny_mono h₄ (fun _ s₅ h₅ => wpAny_pure (wpAny_pure ⟨rfl, h₅⟩)) fun _ _ h' => h')) fun _ _ h' => h'))
end
open LCg in
inductive EltSt (h₀ : Heap) (L : Addr) (m : Str → Option Value) (own : List (Addr × Obj)) (C D : Addr) (oC oD : Obj) (wr : List Addr) (J : List (Addr × Obj) → Prop) (gn : Array GenState) (dr : Drawn) (os : OsState) (s₂ : Shared) : Prop
  | mk (h' : Heap) (tk : Nat) (nx : List (Addr × Obj)) (hs : s₂ = ⟨h', gn, dr, tk, os⟩) (hF : Fr h₀ L h' m) (hN : News h₀ L h' (own ++ ((C, oC) :: (D, oD) :: nx))) (off : ∀ p ∈ nx, p.1 ∉ wr ∧ p.1 ≠ C ∧ p.1 ≠ D) (hJ : J nx)
noncomputable def EltEnd (h₀ : Heap) (L : Addr) (m : Str → Option Value) (own : List (Addr × Obj)) (C D : Addr) (oC oD : Obj) (wr : List Addr) (J : List (Addr × Obj) → Prop) (s s₂ : Shared) : Prop := EltSt h₀ L m own C D oC oD wr J s.gens s.drawn s.os s₂
noncomputable def testsOf (ifs : List Expr) (env : Env) : Sem Bool := forIn ifs true fun c r => if r = true then do let ok ← isTrue c env (eval c env); pure (ForInStep.yield ok) else pure (ForInStep.yield r)
structure Steps (prog : Program) (w : World) (A : Around) (env : Env) (scope : Scope) (cl : List (Str × Addr)) (target : Expr) (I : Addr) (fp wr : List Addr) (n : Nat) (P : Nat → (Str → Option Value) → Prop) (St : Nat → Heap → Prop) : Prop where
  sub : ∀ b ∈ wr, b ∈ fp
  frame : ∀ i h h', St i h → (∀ b ∈ fp, ∀ o, h.get? b = some o → h'.get? b = some o) → St i h'
  self : ∀ i (s : Shared) (Q : Value → Shared → Prop) (E : Value → Shared → Prop), St i s.heap → Q (.ref I) s → wpAny (model prog w) A (pyIter (.ref I)) Q E s
  done : ∀ (s : Shared) (Q : Option Value → Shared → Prop) (E : Value → Shared → Prop), St n s.heap →
    (∀ h' tk, (∀ b o, b ∉ wr → s.heap.get? b = some o → h'.get? b = some o) → Q none { s with heap := h', toks := tk }) → wpAny (model prog w) A (pyNext (.ref I)) Q E s
  step : ∀ i C m' (s : Shared) (K Z : Shared → Prop) (E : Value → Shared → Prop), i < n → St i s.heap → s.heap.Ns C m' → C ∉ fp →
    (∀ m₂ h' tk, P i m₂ → St (i + 1) h' → h'.Ns C m₂ → (∀ b o, b ∉ wr → b ≠ C → s.heap.get? b = some o → h'.get? b = some o) → K { s with heap := h', toks := tk }) →
    wpAny (model prog w) A (pyNext (.ref I)) (fun r s₁ => match r with
      | none => Z s₁
      | some v => wpAny (model prog w) A (letOwnedTupleGo target (.ref I) v) (fun _ s₁' => wpAny (model prog w) A (assign target (compEnvC scope cl C env) v) (fun _ s₂ => K s₂) E s₁') E s₁) E s
  some' : ∀ i h, St i h → ∀ b ∈ wr, ∃ o, h.get? b = some o
noncomputable def ownOf (h₀ h : Heap) (fp : List Addr) : List (Addr × Obj) := fp.filterMap fun b => match h₀.get? b, h.get? b with | none, some o => some (b, o) | _, _ => none
theorem ownOf_in {h₀ h : Heap} {fp : List Addr} {b : Addr} {o : Obj} (hb : b ∈ fp) (h1 : h₀.get? b = none) (h2 : h.get? b = some o) : (b, o) ∈ ownOf h₀ h fp :=
  List.mem_filterMap.mpr ⟨b, hb, by simp [h1, h2]⟩
theorem ownOf_out {h₀ h : Heap} {fp : List Addr} {p : Addr × Obj} (hp : p ∈ ownOf h₀ h fp) : p.1 ∈ fp ∧ h₀.get? p.1 = none ∧ h.get? p.1 = some p.2 := by
  obtain ⟨b, hb, e⟩ := List.mem_filterMap.mp hp
  cases h1 : h₀.get? b with
  | some o => rw [h1] at e; cases e
  | none =>
    cases h2 : h.get? b with
    | none => rw [h1, h2] at e; cases e
    | some o => rw [h1, h2] at e; cases e; exact ⟨hb, h1, h2⟩
section
variable {prog : Program} {w : World} {A : Around} {E : Value → Shared → Prop} {h₀ : Heap} {L : Addr} {m : Str → Option Value} {env : Env}
open LCg in
inductive CompSt (h₀ : Heap) (L D C : Addr) (m : Str → Option Value) (wr : List Addr) (J : Nat → List Value → List (Addr × Obj) → Prop) (St : Nat → Heap → Prop) (n : Nat) (s₂ : Shared) (k : Nat) (s' : Shared) : Prop
  | mk (h' : Heap) (tk i : Nat) (ys : List Value) (m' : Str → Option Value) (nx : List (Addr × Obj)) (hs : s' = { s₂ with heap := h', toks := tk }) (hi : i ≤ n) (hk : k = n + 1 - i) (hy : ys.length ≤ i) (hst : St i h') (hF : Fr h₀ L h' m) (hn : h'.Ns C m')
    (hN : News h₀ L h' ((D, lst ys) :: nx)) (off : ∀ p ∈ nx, p.1 ∉ wr ∧ p.1 ≠ C ∧ p.1 ≠ D) (hJ : J i ys nx)
open LCg in
theorem block_GE {elt target iter : Expr} {ifs : List Expr} {scope : Scope} {cl : List (Str × Addr)} {pos : Pos} {s₂ : Shared} {I : Addr} {fp wr : List Addr} {n : Nat} {P : Nat → (Str → Option Value) → Prop} {St : Nat → Heap → Prop} {news : List (Addr × Obj)}
    {RR : Value → Addr → Result → Shared → Prop} (Err : Addr → Addr → Value → Shared → Prop) (J : Nat → List Value → List (Addr × Obj) → Prop)
    (W : Steps prog w A env scope cl target I fp wr n P St) (hsz : n ≤ sizeLine) (hcell : ∀ y ∈ scope.names, y.2 ≠ .cell) (hkind : scope.kind = .function)
    (hst : St 0 s₂.heap) (hfp : ∀ b ∈ fp, b < s₂.heap.objs.size) (hwr : ∀ b ∈ wr, h₀.get? b = none) (hLf : L ∉ fp)
    (F : Fr h₀ L s₂.heap m) (N : News h₀ L s₂.heap news) (off : ∀ p ∈ news, p.1 ∉ wr) (hJ : J 0 [] news)
    (turn : ∀ i C oC D m₂ h tk own ys nx (E' : Value → Shared → Prop), (∀ e s', Err D C e s' → E' e s') → i < n → J i ys nx → P i m₂ → NsObj oC m₂ → Fr h₀ L h m → News h₀ L h (own ++ ((C, oC) :: (D, lst ys) :: nx)) → (∀ b ∈ wr, ∃ o, (b, o) ∈ own) → (∀ p ∈ nx, p.1 ∉ wr ∧ p.1 ≠ C ∧ p.1 ≠ D) → C ≠ D →
      wpAny (model prog w) A (testsOf ifs (compEnvC scope cl C env)) (fun ok s₃ =>
        if ok = true then wpAny (model prog w) A (eval elt (compEnvC scope cl C env)) (fun y s₄ => EltEnd h₀ L m own C D oC (lst ys) wr (J (i + 1) (ys ++ [y])) s₂ s₄) E' s₃
        else EltEnd h₀ L m own C D oC (lst ys) wr (J (i + 1) ys) s₂ s₃) E' { s₂ with heap := h, toks := tk })
    (hErr : ∀ D C e s', Err D C e s' → notedBy (model prog w) A (compEnvC scope cl C env) (fun e s' => RR (.ref D) C (.error e) s') e s')
    (hRR : ∀ D C h tk m' ys nx, Fr h₀ L h m → News h₀ L h ((D, lst ys) :: nx) → (∀ p ∈ nx, p.1 ≠ D) → h.Ns C m' → h₀.get? C = none → h₀.get? D = none → C ≠ L → D ≠ L → C ≠ D → (∀ p ∈ nx, p.1 ≠ C) → J n ys nx → RR (.ref D) C (.ok .next) { s₂ with heap := h, toks := tk }) :
    wpAny (model prog w) A (newList []) (fun acc s₃ => wpAny (model prog w) A (newFunctionEnv scope env.globals cl [] env.qual none .none (some env)) (fun cenv s₄ =>
      codeAny (model prog w) A (.compStart (.ListComp elt [⟨target, iter, ifs, 0⟩] scope pos) 0 (.ref I) acc { cenv with scope := relabel scope env }) (RR acc cenv.locals) s₄) E s₃) E s₂ := by
  refine wpAny_newObj_type (wpAny_newFunctionEnv hcell (by intro y hy; simp at hy) (fun h₁ hns₁ hsb₁ => ?_) hkind)
  dsimp only at hns₁ hsb₁ ⊢
  generalize hH2 : s₂.heap.push { cls := .type "list", dict := none, data := .seq ([] : List Value).toArray } = H2 at hns₁ hsb₁ ⊢
  have hC : H2.objs.size = s₂.heap.objs.size + 1 := by rw [← hH2, Heap.size_push]
  have hDC : s₂.heap.objs.size ≠ H2.objs.size := by rw [hC]; exact Nat.ne_of_lt (Nat.lt_succ_self _)
  have below : ∀ b, b < s₂.heap.objs.size → b ≠ H2.objs.size ∧ b ≠ s₂.heap.objs.size := fun b hb => ⟨by rw [hC]; exact Nat.ne_of_lt (Nat.lt_succ_of_lt hb), Nat.ne_of_lt hb⟩
  have hDf : s₂.heap.objs.size ∉ fp := fun hm => Nat.lt_irrefl _ (hfp _ hm)
  have hCf : H2.objs.size ∉ fp := fun hm => by have := hfp _ hm; rw [hC] at this; exact Nat.lt_irrefl _ (Nat.lt_of_succ_lt this)
  have old : ∀ b o, s₂.heap.get? b = some o → h₁.get? b = some o := fun b o e => hsb₁.extBut b o (below b (Heap.lt_size e)).1 (Heap.get?_push_of_some _ (hH2 ▸ Heap.get?_push_of_some _ e))
  have hacc : h₁.get? s₂.heap.objs.size = some (lst []) := hsb₁.extBut _ _ hDC (Heap.get?_push_of_some _ (hH2 ▸ Heap.get?_push_size _ rfl))
  have hst₁ : St 0 h₁ := W.frame _ _ _ hst fun b _ o e => old b o e
  have fresh : ∀ a, s₂.heap.objs.size ≤ a → s₂.heap.get? a = none := fun a ha => none_size ha
  have fresh₀ : ∀ a, s₂.heap.objs.size ≤ a → h₀.get? a = none := fun a ha => by
    cases e : h₀.get? a with
    | none => rfl
    | some o' => have := F.keep a o' e; rw [fresh a ha] at this; cases this
  have hD₀ : h₀.get? s₂.heap.objs.size = none := fresh₀ _ (Nat.le_refl _)
  have hC₀ : h₀.get? H2.objs.size = none := fresh₀ _ (by rw [hC]; exact Nat.le_succ _)
  have hLlt : L < s₂.heap.objs.size := F.ns.lt
  have hDL : s₂.heap.objs.size ≠ L := Ne.symm (below L hLlt).2
  have hCL : H2.objs.size ≠ L := Ne.symm (below L hLlt).1
  have hDw : s₂.heap.objs.size ∉ wr := fun hm => hDf (W.sub _ hm)
  have hCw : H2.objs.size ∉ wr := fun hm => hCf (W.sub _ hm)
  have hLw : L ∉ wr := fun hm => hLf (W.sub _ hm)
  have off₀ : ∀ p ∈ news, p.1 ∉ wr ∧ p.1 ≠ H2.objs.size ∧ p.1 ≠ s₂.heap.objs.size := fun p hp => ⟨off p hp, (below _ (Heap.lt_size (N p hp).1)).1, (below _ (Heap.lt_size (N p hp).1)).2⟩
  have loop : ∀ s₃ : Shared, s₃ = { s₂ with heap := h₁, toks := s₂.toks + ([] : List (Str × Value)).length } →
      codeAny (model prog w) A (.compLoop (.ListComp elt [⟨target, iter, ifs, 0⟩] scope pos) 0 (.ref I) (.ref s₂.heap.objs.size) (compEnvC scope cl H2.objs.size env))
        (RR (.ref s₂.heap.objs.size) H2.objs.size) s₃ := by
    intro s₃ e3
    subst e3
    refine compLoop_gen
      (CompSt h₀ L s₂.heap.objs.size H2.objs.size m wr J St n s₂) ?_ (n + 1)
      ⟨h₁, _, 0, [], _, news, rfl, Nat.zero_le _, rfl, Nat.le_refl _, hst₁, F.keeps old, hns₁, fun p hp => ?_, off₀, hJ⟩
    · rintro k s' ⟨h', tk, i, ys, m', nx, rfl, hi, rfl, hyl, hst', F', hn', N', off', hJ'⟩
      by_cases hlt : i < n
      · refine W.step i H2.objs.size m' _ _ _ _ hlt hst' hn' hCf fun m₂ h₃ tk₃ hPv hst₃ hn₃ hk₃ => ?_
        · obtain ⟨oC, heC, hoC⟩ := ns_obj hn₃
          have F₃ : Fr h₀ L h₃ m := ⟨F'.ns.at' fun o e => hk₃ L o hLw (Ne.symm hCL) e, fun b o e => hk₃ b o (fun hm => by rw [hwr b hm] at e; cases e) (fun q => by rw [q, hC₀] at e; cases e) (F'.keep b o e), F'.above⟩
          have N₃ : News h₀ L h₃ (ownOf h₀ h₃ fp ++ ((H2.objs.size, oC) :: (s₂.heap.objs.size, lst ys) :: nx)) := fun p hp => by
            rcases List.mem_append.mp hp with hp | hp
            · obtain ⟨a, b, c⟩ := ownOf_out hp
              exact ⟨c, fun q => hLf (q ▸ a), b⟩
            rcases List.mem_cons.mp hp with rfl | hp
            · exact ⟨heC, hCL, hC₀⟩
            rcases List.mem_cons.mp hp with rfl | hp
            · exact ⟨hk₃ _ _ hDw hDC (N' _ List.mem_cons_self).1, hDL, hD₀⟩
            · exact ⟨hk₃ _ _ (off' p hp).1 (off' p hp).2.1 (N' p (List.mem_cons_of_mem _ hp)).1, (N' p (List.mem_cons_of_mem _ hp)).2⟩
          have keepSt : ∀ h₄ nx₄, Fr h₀ L h₄ m → News h₀ L h₄ (ownOf h₀ h₃ fp ++ nx₄) → St (i + 1) h₄ := fun h₄ nx₄ F₄ N₄ => by
            refine W.frame _ _ _ hst₃ fun b hb o e => ?_
            cases e0 : h₀.get? b with
            | some o0 => rw [F₃.keep b o0 e0] at e; cases e; exact F₄.keep b _ e0
            | none => exact (N₄ _ (List.mem_append_left _ (ownOf_in hb e0 e))).1
          refine wpAny_mono (turn i H2.objs.size oC s₂.heap.objs.size m₂ h₃ _ (ownOf h₀ h₃ fp) ys nx _ (fun e s' he => hErr _ _ e s' he) hlt hJ' hPv hoC F₃ N₃ (fun b hb => ?_) off' (Ne.symm hDC)) (fun ok s₄ h₄ => ?_) fun _ _ e => e
          · obtain ⟨o, ho⟩ := W.some' _ _ hst₃ b hb
            exact ⟨o, ownOf_in (W.sub b hb) (hwr b hb) ho⟩
          · cases ok with
            | true =>
              simp only [if_true] at h₄ ⊢
              refine wpAny_mono h₄ (fun y s₅ h₅ => ?_) fun _ _ e => e
              obtain ⟨h₅, tk₅, nx₅, rfl, F₅, N₅, off₅, hJ₅⟩ := h₅
              have hst₅ := keepSt _ _ F₅ N₅
              have N₅' := fun p hp => N₅ p (List.mem_append_right _ hp)
              refine append_at (hsz := by show ys.toArray.size ≤ sizeLine; rw [List.size_toArray]; exact Nat.le_trans hyl (Nat.le_trans hi hsz)) (N₅' (s₂.heap.objs.size, lst ys) (by simp)).1 fun h₆ hs₆ hD₆ => ?_
              refine ⟨n + 1 - (i + 1), by (first | lia | omega), h₆, tk₅, i + 1, ys ++ [y], _, nx₅, rfl, hlt, rfl, by rw [List.length_append, List.length_singleton]; exact Nat.succ_le_succ hyl,
                W.frame _ _ _ hst₅ fun b hb o e => hs₆.extBut b o (fun q => hDf (q ▸ hb)) e, F₅.change hs₆ hDL hD₀, (hoC.ns (N₅' (H2.objs.size, oC) (by simp)).1).sameBut hs₆ (Ne.symm hDC), fun p hp => ?_, off₅, hJ₅⟩
              rcases List.mem_cons.mp hp with rfl | hp
              · exact ⟨hD₆.trans (congrArg some (lst_snoc ys y)), hDL, hD₀⟩
              · have z := N₅' p (by simp [hp])
                exact ⟨hs₆.extBut _ _ (off₅ p hp).2.2 z.1, z.2⟩
            | false =>
              simp only [Bool.false_eq_true, if_false] at h₄ ⊢
              obtain ⟨h₅, tk₅, nx₅, rfl, F₅, N₅, off₅, hJ₅⟩ := h₄
              have N₅' := fun p hp => N₅ p (List.mem_append_right _ hp)
              exact ⟨n + 1 - (i + 1), by (first | lia | omega), h₅, tk₅, i + 1, ys, _, nx₅, rfl, hlt, rfl, Nat.le_succ_of_le hyl, keepSt _ _ F₅ N₅, F₅, hoC.ns (N₅' (H2.objs.size, oC) (by simp)).1, fun p hp => N₅' p (List.mem_cons_of_mem _ hp), off₅, hJ₅⟩
      · obtain rfl : i = n := Nat.le_antisymm hi (Nat.not_lt.mp hlt)
        refine W.done _ _ _ hst' fun h₂ tk₂ hk₂ => ?_
        have F₂ : Fr h₀ L h₂ m := ⟨F'.ns.at' fun o e => hk₂ L o hLw e, fun b o e => hk₂ b o (fun hm => by rw [hwr b hm] at e; cases e) (F'.keep b o e), F'.above⟩
        exact hRR _ _ h₂ tk₂ _ ys nx F₂ (fun p hp => by
          refine ⟨hk₂ _ _ ?_ (N' p hp).1, (N' p hp).2⟩
          rcases List.mem_cons.mp hp with rfl | hp
          · exact hDw
          · exact (off' p hp).1) (fun p hp => (off' p hp).2.2) (hn'.at' fun o e => hk₂ _ o hCw e) hC₀ hD₀ hCL hDL (Ne.symm hDC) (fun p hp => (off' p hp).2.1) hJ'
    · rcases List.mem_cons.mp hp with rfl | hp
      · exact ⟨hacc, hDL, hD₀⟩
      · exact ⟨old _ _ (N p hp).1, (N p hp).2⟩
  exact codeAny_compStart_list (loop _ rfl) (W.self 0 _ _ _ hst₁ (loop _ rfl))
open LCg in
theorem block_G {elt target iter : Expr} {ifs : List Expr} {scope : Scope} {cl : List (Str × Addr)} {pos : Pos} {s₂ : Shared} {I : Addr} {fp wr : List Addr} {n : Nat} {P : Nat → (Str → Option Value) → Prop} {St : Nat → Heap → Prop} {news : List (Addr × Obj)}
    {RR : Value → Addr → Result → Shared → Prop} (J : Nat → List Value → List (Addr × Obj) → Prop)
    (W : Steps prog w A env scope cl target I fp wr n P St) (hsz : n ≤ sizeLine) (hcell : ∀ y ∈ scope.names, y.2 ≠ .cell) (hkind : scope.kind = .function)
    (hst : St 0 s₂.heap) (hfp : ∀ b ∈ fp, b < s₂.heap.objs.size) (hwr : ∀ b ∈ wr, h₀.get? b = none) (hLf : L ∉ fp)
    (F : Fr h₀ L s₂.heap m) (N : News h₀ L s₂.heap news) (off : ∀ p ∈ news, p.1 ∉ wr) (hJ : J 0 [] news)
    (turn : ∀ i C oC D m₂ h tk own ys nx (E' : Value → Shared → Prop), i < n → J i ys nx → P i m₂ → NsObj oC m₂ → Fr h₀ L h m → News h₀ L h (own ++ ((C, oC) :: (D, lst ys) :: nx)) → (∀ b ∈ wr, ∃ o, (b, o) ∈ own) → (∀ p ∈ nx, p.1 ∉ wr ∧ p.1 ≠ C ∧ p.1 ≠ D) → C ≠ D →
      wpAny (model prog w) A (testsOf ifs (compEnvC scope cl C env)) (fun ok s₃ =>
        if ok = true then wpAny (model prog w) A (eval elt (compEnvC scope cl C env)) (fun y s₄ => EltEnd h₀ L m own C D oC (lst ys) wr (J (i + 1) (ys ++ [y])) s₂ s₄) E' s₃
        else EltEnd h₀ L m own C D oC (lst ys) wr (J (i + 1) ys) s₂ s₃) E' { s₂ with heap := h, toks := tk })
    (hRR : ∀ D C h tk m' ys nx, Fr h₀ L h m → News h₀ L h ((D, lst ys) :: nx) → (∀ p ∈ nx, p.1 ≠ D) → h.Ns C m' → h₀.get? C = none → h₀.get? D = none → C ≠ L → D ≠ L → C ≠ D → (∀ p ∈ nx, p.1 ≠ C) → J n ys nx → RR (.ref D) C (.ok .next) { s₂ with heap := h, toks := tk }) :
    wpAny (model prog w) A (newList []) (fun acc s₃ => wpAny (model prog w) A (newFunctionEnv scope env.globals cl [] env.qual none .none (some env)) (fun cenv s₄ =>
      codeAny (model prog w) A (.compStart (.ListComp elt [⟨target, iter, ifs, 0⟩] scope pos) 0 (.ref I) acc { cenv with scope := relabel scope env }) (RR acc cenv.locals) s₄) E s₃) E s₂ :=
  block_GE (fun _ _ _ _ => False) J W hsz hcell hkind hst hfp hwr hLf F N off hJ (fun i C oC D m₂ h tk own ys nx E' _ => turn i C oC D m₂ h tk own ys nx E') (fun _ _ _ _ h => h.elim) hRR
end
end
end Mine
namespace Mine
section
open PySem.Calls
open LCg
inductive CompIn (prog : Program) (w : World) (A : Around) (h₀ : Heap) (L : Addr) (m : Str → Option Value) (env : Env) (target elt : Expr) (ifs : List Expr) (scope : Scope) (cl : List (Str × Addr)) (Fin : Shared → List Value → List (Addr × Obj) → Prop) (it : Value) (s₂ : Shared) : Prop
  | mk (I : Addr) (fp wr : List Addr) (n : Nat) (P : Nat → (Str → Option Value) → Prop) (St : Nat → Heap → Prop) (news : List (Addr × Obj)) (J : Nat → List Value → List (Addr × Obj) → Prop)
    (hI : it = .ref I) (W : Steps prog w A env scope cl target I fp wr n P St) (hsz : n ≤ sizeLine) (hst : St 0 s₂.heap) (hfp : ∀ b ∈ fp, b < s₂.heap.objs.size) (hwr : ∀ b ∈ wr, h₀.get? b = none) (hLf : L ∉ fp)
    (F : Fr h₀ L s₂.heap m) (N : News h₀ L s₂.heap news) (off : ∀ p ∈ news, p.1 ∉ wr) (hJ : J 0 [] news)
    (turn : ∀ i C oC D m₂ h tk own ys nx (E' : Value → Shared → Prop), i < n → J i ys nx → P i m₂ → NsObj oC m₂ → Fr h₀ L h m → News h₀ L h (own ++ ((C, oC) :: (D, lst ys) :: nx)) → (∀ b ∈ wr, ∃ o, (b, o) ∈ own) → (∀ p ∈ nx, p.1 ∉ wr ∧ p.1 ≠ C ∧ p.1 ≠ D) → C ≠ D →
      wpAny (model prog w) A (testsOf ifs (compEnvC scope cl C env)) (fun ok s₃ =>
        if ok = true then wpAny (model prog w) A (eval elt (compEnvC scope cl C env)) (fun y s₄ => EltEnd h₀ L m own C D oC (lst ys) wr (J (i + 1) (ys ++ [y])) s₂ s₄) E' s₃
        else EltEnd h₀ L m own C D oC (lst ys) wr (J (i + 1) ys) s₂ s₃) E' { s₂ with heap := h, toks := tk })
    (fin : ∀ ys nx, J n ys nx → Fin s₂ ys nx)
noncomputable def CompAt (prog : Program) (w : World) (A : Around) (h₀ : Heap) (L : Addr) (m : Str → Option Value) (env : Env) (target elt : Expr) (ifs : List Expr) (scope : Scope) (cl : List (Str × Addr)) (E : Value → Shared → Prop) (Fin : Shared → List Value → List (Addr × Obj) → Prop) (xv : Value) (s₁ : Shared) : Prop :=
  wpAny (model prog w) A (pyIter xv) (CompIn prog w A h₀ L m env target elt ifs scope cl Fin) E s₁
noncomputable def EndE (h₀ : Heap) (L : Addr) (m : Str → Option Value) (Q : Value → Shared → Prop) (s : Shared) (ys : List Value) (news : List (Addr × Obj)) : Prop :=
  ∀ D h tk, Fr h₀ L h m → News h₀ L h ((D, lst ys) :: news) → (∀ p ∈ news, p.1 ≠ D) → Q (.ref D) { s with heap := h, toks := tk }
noncomputable def EndA (h₀ : Heap) (L : Addr) (m : Str → Option Value) (y : Str) (Q : Flow → Shared → Prop) (s : Shared) (ys : List Value) (news : List (Addr × Obj)) : Prop :=
  ∀ D h tk, Fr h₀ L h (fun z => if z = y then some (.ref D) else m z) → News h₀ L h ((D, lst ys) :: news) → (∀ p ∈ news, p.1 ≠ D) → Q .next { s with heap := h, toks := tk }
section
variable {prog : Program} {w : World} {A : Around} {E : Value → Shared → Prop} {s : Shared} {h₀ : Heap} {L : Addr} {m : Str → Option Value} {env : Env}
theorem ListComp_G {elt target iter : Expr} {ifs : List Expr} {scope : Scope} {cl : List (Str × Addr)} {pos : Pos} {Q : Value → Shared → Prop} (F₀ : Fr h₀ L s.heap m)
    (hclos : closureFor scope env = pure cl) (hcell : ∀ y ∈ scope.names, y.2 ≠ .cell) (hkind : scope.kind = .function)
    (hnames : ∀ y ∈ scope.names, y.2 = .local → scope.names.lookup y.1 = some .local)
    (h : wpAny (model prog w) A (eval iter env) (CompAt prog w A h₀ L m env target elt ifs scope cl E (EndE h₀ L m Q)) E s)
    (hs : ∀ x, foldedSetIterable iter env x = pure x := by intro _; rfl) :
    wpAny (model prog w) A (eval (.ListComp elt [⟨target, iter, ifs, 0⟩] scope pos) env) Q E s := by
  rw [eval_ListComp]
  refine wpAny_comprehension_free (use := none) rfl hs hclos hkind hnames (wpAny_mono h (fun xv s₁ h₁ => wpAny_mono h₁ (fun it s₂ h₂ => ?_) fun _ _ e => e) fun _ _ e => e)
  obtain ⟨I, fp, wr, n, P, St, news, J, rfl, W, hsz, hst, hfp, hwr, hLf, F, N, off, hJ, turn, fin⟩ := h₂
  refine block_G J W hsz hcell hkind hst hfp hwr hLf F N off hJ turn ?_
  intro D C h tk m' ys nx F' N' o1 hn hC₀ hD₀ hCL hDL hCD offC hJ'
  refine ⟨m', hn, fun h'' hs'' => fin _ _ hJ' D h'' tk (F'.change hs'' hCL hC₀) (fun p hp => ?_) o1⟩
  refine ⟨hs''.extBut _ _ ?_ (N' p hp).1, (N' p hp).2⟩
  rcases List.mem_cons.mp hp with rfl | hp
  · exact Ne.symm hCD
  · exact offC p hp
theorem Assign_ListComp_G {elt target iter : Expr} {ifs : List Expr} {y : Str} {py : Pos} {scope : Scope} {cl : List (Str × Addr)} {pos spos : Pos} {Q : Flow → Shared → Prop} (F₀ : Fr h₀ L s.heap m) (hLe : env.locals = L)
    (hsw : swapsWith (.ListComp elt [⟨target, iter, ifs, 0⟩] scope pos) (some (.Name y py)) spos.line env = pure true)
    (hclos : closureFor scope env = pure cl) (hcell : ∀ z ∈ scope.names, z.2 ≠ .cell) (hkind : scope.kind = .function)
    (hnames : ∀ z ∈ scope.names, z.2 = .local → scope.names.lookup z.1 = some .local)
    (hy : env.kindOf y = some .local) (hp : (env.scope.kind == .class || (env.scope.kind == .module && env.locals != env.globals)) = false)
    (h : wpAny (model prog w) A (eval iter env) (CompAt prog w A h₀ L m env target elt ifs scope cl E (EndA h₀ L m y Q)) E s)
    (hs : ∀ x, foldedSetIterable iter env x = pure x := by intro _; rfl) :
    wpAny (model prog w) A (exec (.Assign [.Name y py] (.ListComp elt [⟨target, iter, ifs, 0⟩] scope pos) spos) env) Q E s := by
  subst hLe
  rw [exec_Assign_Name_used _ _ _ _ hsw]
  refine wpAny_bind (wpAny_standAt (wpAny_bind ?_))
  show wpAny _ A (do let _ ← comprehension (.ListComp elt [⟨target, iter, ifs, 0⟩] scope pos) scope env _ (newList []) false (eval iter env) (some (assign (.Name y py) env))) _ _ s
  refine wpAny_bind (wpAny_mono (wpAny_comprehension_free (use := some (assign (.Name y py) env)) (Q := fun _ s' => Q .next s') rfl hs hclos hkind hnames
    (wpAny_mono h (fun xv s₁ h₁ => wpAny_mono h₁ (fun it s₂ h₂ => ?_) fun _ _ e => e) fun _ _ e => e)) (fun _ s' hq => wpAny_pure (wpAny_pure hq)) fun _ _ e => e)
  obtain ⟨I, fp, wr, n, P, St, news, J, rfl, W, hsz, hst, hfp, hwr, hLf, F, N, off, hJ, turn, fin⟩ := h₂
  refine block_G J W hsz hcell hkind hst hfp hwr hLf F N off hJ turn ?_
  intro D C h' tk m' ys news' F' N' o1 hn hC₀ hD₀ hCL hDL hCD offC hJ'
  show wpAny _ A (assign (.Name y py) env (.ref D)) _ _ _
  refine wpAny_assign_Name (wpAny_storeName_local hy F'.ns (fun h₂ hn₂ hs₂ => ?_) hp)
  have hL₀ : h₀.get? env.locals = none := Heap.get?_none_of_le F'.above
  have F₂ : Fr h₀ env.locals h₂ (fun z => if z = y then some (.ref D) else m z) := ⟨hn₂, fun b o e => hs₂.extBut b o (fun q => by rw [q, hL₀] at e; cases e) (F'.keep b o e), F'.above⟩
  refine ⟨m', hn.sameBut hs₂ hCL, fun h'' hs'' => fin _ _ hJ' D h'' _ (F₂.change hs'' hCL hC₀) (fun p hp => ?_) o1⟩
  have z : h₂.get? p.1 = some p.2 := hs₂.extBut _ _ (N' p hp).2.1 (N' p hp).1
  refine ⟨hs''.extBut _ _ ?_ z, (N' p hp).2⟩
  rcases List.mem_cons.mp hp with rfl | hp
  · exact Ne.symm hCD
  · exact offC p hp

theorem steps_name {x : Str} {px : Pos} {scope : Scope} {cl : List (Str × Addr)} {I : Addr} {fp wr : List Addr} {n : Nat} {P : Nat → Value → Prop} {St : Nat → Heap → Prop} (W : Walks prog w A I fp wr n P St)
    (hkind : scope.kind = .function) (hx : scope.names.lookup x = some .local) (hob : ∀ i h, St i h → ∀ b ∈ wr, ∃ o, h.get? b = some o) :
    Steps prog w A env scope cl (.Name x px) I fp wr n (fun i m₂ => ∃ v, P i v ∧ m₂ x = some v) St where
  sub := W.sub
  frame := W.frame
  self := W.self
  done := W.done
  some' := hob
  step := fun i C m' s K Z E hi hst hn hC hK => by
    refine W.item i _ _ _ hi hst fun v h₂ tk₂ hPv hst₂ hk₂ => ?_
    have hCw : C ∉ wr := fun q => hC (W.sub _ q)
    dsimp only
    show wpAny _ A (pure () : Sem Unit) _ _ _
    refine wpAny_pure ?_
    refine wpAny_assign_Name (wpAny_storeName_local (lookup_relabel_local hx) (hn.at' fun o e => hk₂ _ o hCw e) (fun h₃ hn₃ hs₃ => ?_) (by simp [compEnvC, relabel, hkind]))
    exact hK _ h₃ _ ⟨v, hPv, by simp⟩ (W.frame _ _ _ hst₂ fun b hb o e => hs₃.extBut b o (fun q => hC (by have q' : b = C := q; rw [← q']; exact hb)) e) hn₃ fun b o hb hbC e => hs₃.extBut b o hbC (hk₂ b o hb e)

end
end
end Mine
namespace Mine
section
open PySem.Calls
open LCg
section
variable {prog : Program} {w : World} {A : Around} {E : Value → Shared → Prop} {s : Shared} {h₀ : Heap} {L : Addr} {m : Str → Option Value} {env : Env} {elt : Expr} {ifs : List Expr} {scope : Scope} {cl : List (Str × Addr)} {Fin : Shared → List Value → List (Addr × Obj) → Prop}
theorem tests0 {cenv : Env} {Q : Value → Shared → Prop} {Z : Shared → Prop} {E' : Value → Shared → Prop} (h : wpAny (model prog w) A (eval elt cenv) Q E' s) :
    wpAny (model prog w) A (testsOf [] cenv) (fun ok s₃ => if ok = true then wpAny (model prog w) A (eval elt cenv) Q E' s₃ else Z s₃) E' s := wpAny_tests_nil (by simpa using h)
theorem tests1 {cenv : Env} {c : Expr} {Q : Value → Shared → Prop} {Z : Shared → Prop} {E' : Value → Shared → Prop}
    (h : wpAny (model prog w) A (isTrue c cenv (eval c cenv)) (fun ok s₃ => if ok = true then wpAny (model prog w) A (eval elt cenv) Q E' s₃ else Z s₃) E' s) :
    wpAny (model prog w) A (testsOf [c] cenv) (fun ok s₃ => if ok = true then wpAny (model prog w) A (eval elt cenv) Q E' s₃ else Z s₃) E' s := wpAny_tests_one h
theorem src_list {x : Str} {px : Pos} {ax : Addr} {vs : List Value} {news : List (Addr × Obj)} (J : Nat → List Value → List (Addr × Obj) → Prop)
    (hh : A.handled = none) (F : Fr h₀ L s.heap m) (N : News h₀ L s.heap news) (hD : s.heap.IsList ax vs.toArray) (haL : ax ≠ L) (hsz : vs.length ≤ sizeLine)
    (hkind : scope.kind = .function) (hx : scope.names.lookup x = some .local) (hJ : J 0 [] news)
    (turn : ∀ I i v C oC D m₂ h tk own ys nx (E' : Value → Shared → Prop), vs[i]? = some v → J i ys nx → m₂ x = some v → NsObj oC m₂ → Fr h₀ L h m → News h₀ L h (own ++ ((C, oC) :: (D, lst ys) :: nx)) → (∀ p ∈ nx, p.1 ∉ [I] ∧ p.1 ≠ C ∧ p.1 ≠ D) → (∃ o, (I, o) ∈ own) → C ≠ D →
      wpAny (model prog w) A (testsOf ifs (compEnvC scope cl C env)) (fun ok s₃ =>
        if ok = true then wpAny (model prog w) A (eval elt (compEnvC scope cl C env)) (fun y s₄ => EltEnd h₀ L m own C D oC (lst ys) [I] (J (i + 1) (ys ++ [y])) s s₄) E' s₃
        else EltEnd h₀ L m own C D oC (lst ys) [I] (J (i + 1) ys) s s₃) E' { s with heap := h, toks := tk })
    (fin : ∀ g tk ys nx, J vs.length ys nx → Fin { s with heap := g, toks := tk } ys nx) :
    CompAt prog w A h₀ L m env (.Name x px) elt ifs scope cl E Fin (.ref ax) s := by
  obtain ⟨oD, hoD, hr⟩ := id hD
  have hne : ax ≠ s.heap.objs.size := lt_ne_size hoD
  refine wpAny_pyIter_list hD ?_
  have W := Walks.list (prog := prog) (w := w) hh s.heap.objs.size ax hne vs.toArray
  have hlen : vs.toArray.size = vs.length := by simp
  rw [hlen] at W
  have W2 := steps_name (env := env) (cl := cl) (px := px) W hkind hx fun i h hi b hb => by rw [List.mem_singleton.mp hb]; obtain ⟨⟨o, ho, _⟩, _⟩ := hi; exact ⟨o, ho⟩
  refine ⟨_, _, _, _, _, _, news, J, rfl, W2, hsz, ⟨⟨_, Heap.get?_push_size _ rfl, rfl, rfl⟩, ⟨oD, Heap.get?_push_of_some _ hoD, hr⟩⟩, ?_, ?_, ?_, F.push _, fun p hp => ⟨Heap.get?_push_of_some _ (N p hp).1, (N p hp).2⟩, ?_, hJ, ?_, fun ys nx hj => fin _ _ ys nx hj⟩
  · intro b hb
    show b < (s.heap.push _).objs.size
    rw [Heap.size_push]
    rcases List.mem_cons.mp hb with rfl | hb
    · exact Nat.lt_succ_self _
    · rw [List.mem_singleton.mp hb]; exact Nat.lt_succ_of_lt (Heap.lt_size hoD)
  · intro b hb; rw [List.mem_singleton.mp hb]; exact next_is_new F
  · intro hm
    rcases List.mem_cons.mp hm with e | hm
    · exact absurd F.ns.lt (e ▸ Nat.lt_irrefl _)
    · exact haL (List.mem_singleton.mp hm).symm
  · intro p hp hI; exact absurd (Heap.lt_size (N p hp).1) ((List.mem_singleton.mp hI) ▸ Nat.lt_irrefl _)
  · intro i C oC D m₂ h tk own ys nx E' hi hj hP hC F₁ N₁ hI ho hne
    obtain ⟨v, hv, hm⟩ := hP
    exact turn _ i v C oC D m₂ h tk own ys nx E' (by simpa using hv) hj hm hC F₁ N₁ ho (hI _ (.head _)) hne
theorem src_range {x : Str} {px : Pos} {r : Addr} {a b : Int} {t u v : Tok} {n : Nat} {news : List (Addr × Obj)} (J : Nat → List Value → List (Addr × Obj) → Prop)
    (hh : A.handled = none) (F : Fr h₀ L s.heap m) (N : News h₀ L s.heap news) (hr : IsRange s.heap r a b 1 t u v) (hsm : Builtin.Range.small a b 1 = true) (hn : Builtin.Range.rangeSize a b 1 = ((n : Nat) : Int)) (hsz : n ≤ sizeLine)
    (hkind : scope.kind = .function) (hx : scope.names.lookup x = some .local) (hJ : J 0 [] news)
    (turn : ∀ I i tv C oC D m₂ h tk own ys nx (E' : Value → Shared → Prop), i < n → J i ys nx → m₂ x = some (.int (a + (i : Int)) tv) → NsObj oC m₂ → Fr h₀ L h m → News h₀ L h (own ++ ((C, oC) :: (D, lst ys) :: nx)) → (∀ p ∈ nx, p.1 ∉ [I] ∧ p.1 ≠ C ∧ p.1 ≠ D) → (∃ o, (I, o) ∈ own) → C ≠ D →
      wpAny (model prog w) A (testsOf ifs (compEnvC scope cl C env)) (fun ok s₃ =>
        if ok = true then wpAny (model prog w) A (eval elt (compEnvC scope cl C env)) (fun y s₄ => EltEnd h₀ L m own C D oC (lst ys) [I] (J (i + 1) (ys ++ [y])) s s₄) E' s₃
        else EltEnd h₀ L m own C D oC (lst ys) [I] (J (i + 1) ys) s s₃) E' { s with heap := h, toks := tk })
    (fin : ∀ g tk ys nx, J n ys nx → Fin { s with heap := g, toks := tk } ys nx) :
    CompAt prog w A h₀ L m env (.Name x px) elt ifs scope cl E Fin (.ref r) s := by
  refine wpAny_pyIter_range hr hsm ?_
  have W2 := steps_name (env := env) (cl := cl) (px := px) (range_walks (prog := prog) (w := w) (I := s.heap.objs.size) hh a n) hkind hx fun i h hi b hb => by rw [List.mem_singleton.mp hb]; exact ⟨_, hi⟩
  refine ⟨_, _, _, _, _, _, news, J, rfl, W2, hsz, (by show IsRangeIter _ _ _ _ _; rw [hn]; simpa using Heap.get?_push_size _ rfl), ?_, ?_, ?_, F.push _, fun p hp => ⟨Heap.get?_push_of_some _ (N p hp).1, (N p hp).2⟩, ?_, hJ, ?_, fun ys nx hj => fin _ _ ys nx hj⟩
  · intro b hb
    show b < (s.heap.push _).objs.size
    rw [Heap.size_push, List.mem_singleton.mp hb]; exact Nat.lt_succ_self _
  · intro b hb; rw [List.mem_singleton.mp hb]; exact next_is_new F
  · intro hm; exact absurd F.ns.lt ((List.mem_singleton.mp hm) ▸ Nat.lt_irrefl _)
  · intro p hp hI; exact absurd (Heap.lt_size (N p hp).1) ((List.mem_singleton.mp hI) ▸ Nat.lt_irrefl _)
  · intro i C oC D m₂ h tk own ys nx E' hi hj hP hC F₁ N₁ hI ho hne
    obtain ⟨v, ⟨tv, rfl⟩, hm⟩ := hP
    exact turn _ i tv C oC D m₂ h tk own ys nx E' hi hj hm hC F₁ N₁ ho (hI _ (.head _)) hne
end
end
end Mine
namespace Mine
section
open PySem.Calls
open LCg
section
variable {prog : Program} {w : World} {A : Around} {E : Value → Shared → Prop} {s : Shared} {h₀ : Heap} {L : Addr} {m : Str → Option Value} {env : Env} {elt : Expr} {ifs : List Expr} {scope : Scope} {cl : List (Str × Addr)} {Fin : Shared → List Value → List (Addr × Obj) → Prop}
theorem src_listS {x : Str} {px : Pos} {ax : Addr} {vs : List Value} {news : List (Addr × Obj)} (J : List (Addr × Obj) → Nat → List Value → List (Addr × Obj) → Prop)
    (hh : A.handled = none) (F : Fr h₀ L s.heap m) (N : News h₀ L s.heap news) (hD : s.heap.IsList ax vs.toArray) (haL : ax ≠ L) (hsz : vs.length ≤ sizeLine)
    (hkind : scope.kind = .function) (hx : scope.names.lookup x = some .local) (hJ : J news 0 [] news)
    (turn : ∀ I i v C oC D m₂ h tk own ys nx (E' : Value → Shared → Prop), vs[i]? = some v → J news i ys nx → m₂ x = some v → NsObj oC m₂ → Fr h₀ L h m → News h₀ L h (own ++ ((C, oC) :: (D, lst ys) :: nx)) → (∀ p ∈ nx, p.1 ∉ [I] ∧ p.1 ≠ C ∧ p.1 ≠ D) → (∃ o, (I, o) ∈ own) → C ≠ D →
      wpAny (model prog w) A (testsOf ifs (compEnvC scope cl C env)) (fun ok s₃ =>
        if ok = true then wpAny (model prog w) A (eval elt (compEnvC scope cl C env)) (fun y s₄ => EltEnd h₀ L m own C D oC (lst ys) [I] (J news (i + 1) (ys ++ [y])) s s₄) E' s₃
        else EltEnd h₀ L m own C D oC (lst ys) [I] (J news (i + 1) ys) s s₃) E' { s with heap := h, toks := tk })
    (fin : ∀ g tk ys nx, J news vs.length ys nx → Fin { s with heap := g, toks := tk } ys nx) :
    CompAt prog w A h₀ L m env (.Name x px) elt ifs scope cl E Fin (.ref ax) s := src_list (J news) hh F N hD haL hsz hkind hx hJ turn fin
end
section
variable {prog : Program} {w : World} {A : Around} {E : Value → Shared → Prop} {s : Shared} {env : Env} {h₀ : Heap} {x : Str} {body : List Stmt} {Q : Flow → Shared → Prop}
end
end
end Mine
namespace Mine
section
open PySem.Calls
section
variable {prog : Program} {w : World} {A : Around} {E : Value → Shared → Prop} {s : Shared} {env : Env} {h₀ : Heap} {x : Str} {body : List Stmt} {Q : Flow → Shared → Prop}
theorem for_walkO {I : Addr} {fp wr : List Addr} {n : Nat} {P : Nat → Value → Prop} {St : Nat → Heap → Prop} {m₀ : Str → Option Value} {news : List (Addr × Obj)} (J : Nat → (Str → Option Value) → List (Addr × Obj) → Prop)
    (W : Walks prog w A I fp wr n P St) (hLf : env.locals ∉ fp) (hwr : ∀ b ∈ wr, h₀.get? b = none) (hnw : ∀ p ∈ news, p.1 ∉ wr) (hob : ∀ i h, St i h → ∀ b ∈ wr, ∃ o, h.get? b = some o)
    (hst : St 0 s.heap) (F : Fr h₀ env.locals s.heap m₀) (N : News h₀ env.locals s.heap news) (hj : J 0 m₀ news)
    (turn : ∀ i v m₁ nx h tk own, i < n → P i v → (∀ b ∈ wr, ∃ o, (b, o) ∈ own) → (∀ b ∈ fp, h₀.get? b = none → (∀ i h, St i h → ∃ o, h.get? b = some o) → ∃ o, (b, o) ∈ own) → (∀ p ∈ own, p.1 ∈ fp) → (∀ p ∈ nx, p.1 ∉ wr) → J i m₁ nx → Fr h₀ env.locals h (fun y => if y = x then some v else m₁ y) → News h₀ env.locals h (own ++ nx) →
      wpAny (model prog w) A (execs body env) (TurnEnd h₀ env.locals wr own (J (i + 1)) s Q) E { s with heap := h, toks := tk })
    (done : ∀ m₁ nx h tk, J n m₁ nx → Fr h₀ env.locals h m₁ → News h₀ env.locals h nx → Q .next { s with heap := h, toks := tk }) :
    LoopAtV prog w A h₀ env x body Q E (.ref I) s := by
  refine ⟨I, fp, wr, n, P, St, m₀, news, J, rfl, W, hLf, hwr, hnw, hst, F, N, hj, ?_, ?_⟩
  · rintro i v m₁ nx s₁ own ⟨h, tk, rfl⟩ hi hP hJ hoff hown hget hall hst' F₁ N₁
    refine wpAny_mono (turn i v m₁ nx h tk own hi hP (fun b hb => ?_) (fun b hb h0 hs => by obtain ⟨o, ho⟩ := hs _ _ hst'; exact ⟨o, hall b hb h0 o ho⟩) hown hoff hJ F₁ N₁) (fun f s₂ q => ?_) fun _ _ e => e
    · obtain ⟨o, ho⟩ := hob _ _ hst' b hb
      exact ⟨o, hall b (W.sub b hb) (hwr b hb) o ho⟩
    · cases f with
      | ret v => exact .ret q
      | brk => exact .brk q
      | next => obtain ⟨h', tk', m', nx', rfl, F', N', ho, hJ'⟩ := q; exact .next ⟨rfl, h', tk', m', nx', rfl, F', N', ho, hJ'⟩
      | cont => obtain ⟨h', tk', m', nx', rfl, F', N', ho, hJ'⟩ := q; exact .cont ⟨rfl, h', tk', m', nx', rfl, F', N', ho, hJ'⟩
  · rintro h' tk m' nx F' N' _ hJ
    exact done m' nx h' tk hJ F' N'
theorem for_listO {D : Addr} {vs : List Value} {m₀ : Str → Option Value} {news : List (Addr × Obj)} (J : List (Addr × Obj) → (Str → Option Value) → Nat → (Str → Option Value) → List (Addr × Obj) → Prop)
    (hh : A.handled = none) (F : Fr h₀ env.locals s.heap m₀) (N : News h₀ env.locals s.heap news) (hD : s.heap.IsList D vs.toArray) (hDL : D ≠ env.locals) (hj : J news m₀ 0 m₀ news)
    (turn : ∀ I i v m₁ nx h tk own, vs[i]? = some v → (∃ o, (I, o) ∈ own) → (h₀.get? D = none → ∃ o, (D, o) ∈ own) → (∀ p ∈ own, p.1 = I ∨ p.1 = D) → (∀ p ∈ nx, p.1 ∉ [I]) → J news m₀ i m₁ nx → Fr h₀ env.locals h (fun y => if y = x then some v else m₁ y) → News h₀ env.locals h (own ++ nx) →
      wpAny (model prog w) A (execs body env) (TurnEnd h₀ env.locals [I] own (J news m₀ (i + 1)) s Q) E { s with heap := h, toks := tk })
    (done : ∀ m₁ nx h tk, J news m₀ vs.length m₁ nx → Fr h₀ env.locals h m₁ → News h₀ env.locals h nx → Q .next { s with heap := h, toks := tk }) :
    wpAny (model prog w) A (pyIter (.ref D)) (fun it s₂ => LoopAtV prog w A h₀ env x body Q E it s₂) E s := by
  obtain ⟨oD, hoD, hr⟩ := id hD
  have hne : D ≠ s.heap.objs.size := lt_ne_size hoD
  refine wpAny_pyIter_list hD ?_
  have W := Walks.list (prog := prog) (w := w) hh s.heap.objs.size D hne vs.toArray
  have hlen : vs.toArray.size = vs.length := by simp
  rw [hlen] at W
  refine for_walkO (J news m₀) W ?_ ?_ ?_ ?_ ⟨⟨_, Heap.get?_push_size _ rfl, rfl, rfl⟩, ⟨oD, Heap.get?_push_of_some _ hoD, hr⟩⟩ (F.push _) (fun p hp => ⟨Heap.get?_push_of_some _ (N p hp).1, (N p hp).2⟩) hj ?_ ?_
  · intro hm
    rcases List.mem_cons.mp hm with e | hm
    · exact absurd F.ns.lt (e ▸ Nat.lt_irrefl _)
    · exact hDL (List.mem_singleton.mp hm).symm
  · intro b hb; rw [List.mem_singleton.mp hb]; exact next_is_new F
  · intro p hp hI; exact absurd (Heap.lt_size (N p hp).1) ((List.mem_singleton.mp hI) ▸ Nat.lt_irrefl _)
  · intro i h hi b hb; rw [List.mem_singleton.mp hb]; obtain ⟨⟨o, ho, _⟩, _⟩ := hi; exact ⟨o, ho⟩
  · intro i v m₁ nx h tk own hi hP hI hfo hown ho hJ F₁ N₁
    exact turn _ i v m₁ nx h tk own (by simpa using hP) (hI _ (.head _)) (fun h0 => hfo D (.tail _ (.head _)) h0 fun i h q => by obtain ⟨_, o, ho, _⟩ := q; exact ⟨o, ho⟩) (fun p hp => by simpa using hown p hp) ho hJ F₁ N₁
  · exact fun m₁ nx h tk hJ F₁ N₁ => done m₁ nx h tk hJ F₁ N₁
end
end
end Mine
namespace Mine
section
open PySem.Calls
theorem ints_snoc {vs : List Value} {ns : List Int} {n : Int} {t : Tok} (h : IntsAre vs ns) : IntsAre (vs ++ [.int n t]) (ns ++ [n]) := h.append (.cons n t .nil)
theorem strs_snoc {vs : List Value} {ns : List Str} {n : Str} {t : Tok} (h : StrsAre vs ns) : StrsAre (vs ++ [.str n t]) (ns ++ [n]) := h.append' (.cons n t .nil)
theorem ints_step {α : Type} {f : α → Int} {vs : List Value} {xs : List α} {i : Nat} {a : α} {n : Int} {t : Tok} (ha : xs[i]? = some a) (h : IntsAre vs ((xs.take i).map f)) (e : f a = n) : IntsAre (vs ++ [.int n t]) ((xs.take (i + 1)).map f) := by
  rw [take_snoc ha, List.map_append, List.map_singleton, e]; exact ints_snoc h
theorem strs_step {α : Type} {f : α → Str} {vs : List Value} {xs : List α} {i : Nat} {a : α} {n : Str} {t : Tok} (ha : xs[i]? = some a) (h : StrsAre vs ((xs.take i).map f)) (e : f a = n) : StrsAre (vs ++ [.str n t]) ((xs.take (i + 1)).map f) := by
  rw [take_snoc ha, List.map_append, List.map_singleton, e]; exact strs_snoc h
theorem le_size {n k : Nat} (h : n ≤ k) (hk : k ≤ 16777216 := by decide) : n ≤ sizeLine := by rw [show sizeLine = 16777216 from rfl]; exact Nat.le_trans h hk
theorem ints_item : ∀ {vs : List Value} {ns : List Int}, IntsAre vs ns → ∀ {i : Nat} {v : Value}, vs[i]? = some v → ∃ n t, v = .int n t ∧ ns[i]? = some n
  | _, _, .nil, i, v, h => by simp at h
  | _, _, .cons n t r, 0, v, h => by simp at h; exact ⟨n, t, h.symm, by simp⟩
  | _, _, .cons n t r, i + 1, v, h => by simp at h; simpa using ints_item r h
theorem all_snoc {α : Type} {P : α → Prop} {xs : List α} {x : α} (h : ∀ y ∈ xs, P y) (hx : P x) : ∀ y ∈ xs ++ [x], P y := fun y hy => by
  rcases List.mem_append.mp hy with hy | hy
  · exact h y hy
  · rw [List.mem_singleton.mp hy]; exact hx
end
end Mine
namespace Mine
section
open PySem.Calls
open LCg
section
variable {prog : Program} {w : World} {A : Around} {E : Value → Shared → Prop} {s : Shared} {h₀ : Heap} {L : Addr} {m : Str → Option Value} {env : Env} {elt : Expr} {ifs : List Expr} {scope : Scope} {cl : List (Str × Addr)} {Fin : Shared → List Value → List (Addr × Obj) → Prop}
theorem len_any {l : Addr} {vs : List Value} {Q : Value → Shared → Prop} (hl : s.heap.IsList l vs.toArray) (hz : vs.length ≤ sizeLine) (h : Q (.int (vs.length : Nat) (s.toks + 1)) { s with toks := s.toks + 1 + 1 }) : wpAny (model prog w) A (call (.builtin "len") [.ref l]) Q E s :=
  len_list hl (by rw [List.size_toArray]; have := hz; rw [sizeLine_eq] at this; (first | lia | omega)) (by rw [List.size_toArray]; exact h)
theorem item_nat {value slice : Expr} {l : Addr} {vs : List Value} {i : Nat} {u : Tok} {v : Value} {Q : Value → Shared → Prop} (hl : s.heap.IsList l vs.toArray) (hx : vs[i]? = some v) (hz : vs.length ≤ sizeLine) (h : Q v s)
    (hs : subscripted slice false (.ref l) (.int (i : Int) u) = operate [.ref l, .int (i : Int) u] (getItem (.ref l) (.int (i : Int) u)) := by with_unfolding_all rfl) (hg : ∀ r, letTemporaryGo value (.ref l) r = pure () := by intro _; with_unfolding_all rfl) :
    wpAny (model prog w) A (subscriptTail value slice (.ref l) (.int (i : Int) u)) Q E s :=
  item_list hl (Int.natCast_nonneg _) (by
    have h1 : i < vs.length := by
      rcases Nat.lt_or_ge i vs.length with h | h
      · exact h
      · rw [List.getElem?_eq_none h] at hx; cases hx
    rw [sizeLine_eq] at hz; (first | lia | omega)) (by rw [Int.toNat_natCast, List.getElem?_toArray]; exact hx) h hs hg
theorem range_small {n : Nat} (h : n ≤ sizeLine) : Builtin.Range.small 0 (n : Int) 1 = true := by
  rw [sizeLine_eq] at h
  exact small_one (by decide) (by decide) (by (first | lia | omega)) (by (first | lia | omega))
theorem range_len {n : Nat} : Builtin.Range.rangeSize 0 (n : Int) 1 = ((n : Nat) : Int) := by
  rw [rangeSize_one]; split <;> (first | lia | omega)
theorem comp_range {x : Str} {px : Pos} {n : Nat} {t : Tok} {news : List (Addr × Obj)} (J : List (Addr × Obj) → Nat → List Value → List (Addr × Obj) → Prop)
    (hh : A.handled = none) (F : Fr h₀ L s.heap m) (N : News h₀ L s.heap news) (hsz : n ≤ sizeLine)
    (hkind : scope.kind = .function) (hx : scope.names.lookup x = some .local) (hJ : J news 0 [] news)
    (turn : ∀ I i tv C oC D m₂ h tk own ys nx (E' : Value → Shared → Prop), i < n → J news i ys nx → m₂ x = some (.int (i : Int) tv) → NsObj oC m₂ → Fr h₀ L h m → News h₀ L h (own ++ ((C, oC) :: (D, lst ys) :: nx)) → (∀ p ∈ nx, p.1 ∉ [I] ∧ p.1 ≠ C ∧ p.1 ≠ D) → (∃ o, (I, o) ∈ own) → C ≠ D →
      wpAny (model prog w) A (testsOf ifs (compEnvC scope cl C env)) (fun ok s₃ =>
        if ok = true then wpAny (model prog w) A (eval elt (compEnvC scope cl C env)) (fun y s₄ => EltEnd h₀ L m own C D oC (lst ys) [I] (J news (i + 1) (ys ++ [y])) s s₄) E' s₃
        else EltEnd h₀ L m own C D oC (lst ys) [I] (J news (i + 1) ys) s s₃) E' { s with heap := h, toks := tk })
    (fin : ∀ g tk ys nx, J news n ys nx → Fin { s with heap := g, toks := tk } ys nx) :
    wpAny (model prog w) A (call (.type "range") [.int (n : Int) t]) (CompAt prog w A h₀ L m env (.Name x px) elt ifs scope cl E Fin) E s :=
  range1_rows F N fun h' tk t₁ u₁ v₁ R F' N' _ => src_range (s := { s with heap := h', toks := tk }) (J news) hh F' N' R (range_small hsz) range_len hsz hkind hx hJ
    (fun I i tv C oC D m₂ h tk own ys nx E' hi hj hm => turn I i tv C oC D m₂ h tk own ys nx E' hi hj (by rw [hm, Int.zero_add])) fin
theorem add_any {l b : Addr} {vs ws : List Value} {news : List (Addr × Obj)} {Q : Value → Shared → Prop} (F : Fr h₀ L s.heap m) (N : News h₀ L s.heap news) (hl : s.heap.IsList l vs.toArray) (hb : s.heap.IsList b ws.toArray)
    (hsz : vs.length + ws.length ≤ sizeLine)
    (h : ∀ D h', Fr h₀ L h' m → News h₀ L h' ((D, listOf (vs ++ ws).toArray 0) :: news) → (∀ p ∈ news, p.1 < D) → Q (.ref D) { s with heap := h' }) :
    wpAny (model prog w) A (binaryOp .Add (.ref l) (.ref b)) Q E s :=
  add_lists (hsz := hsz) F N hl hb fun h' F' N' => h _ h' F' N' fun p hp => Heap.lt_size (N p hp).1
theorem item_last {value slice : Expr} {l : Addr} {vs : List Value} {u : Tok} {v : Value} {Q : Value → Shared → Prop} (hl : s.heap.IsList l vs.toArray) (hx : vs[vs.length - 1]? = some v) (hz : vs.length ≤ sizeLine) (h : Q v s)
    (hs : subscripted slice false (.ref l) (.int (-1) u) = operate [.ref l, .int (-1) u] (getItem (.ref l) (.int (-1) u)) := by with_unfolding_all rfl) :
    wpAny (model prog w) A (subscriptTail value slice (.ref l) (.int (-1) u)) Q E s := by
  have h1 : 0 < vs.length := by
    rcases Nat.eq_zero_or_pos vs.length with q | q
    · rw [List.eq_nil_of_length_eq_zero q] at hx; cases hx
    · exact q
  exact kde_neg hl (by decide) (by decide) (seqIndex?_neg_one h1) hx h hs
end
end
end Mine
namespace Mine
section
open PySem.Calls
theorem bytes_sub_str : isSubtype (.type "bytes") (.type "str") = pure false := by rw [isSubtype_type]; kernel_rfl
section
variable {prog : Program} {w : World} {A : Around} {E : Value → Shared → Prop} {s : Shared}
end
section
variable {prog : Program} {w : World} {A : Around} {E : Value → Shared → Prop} {s : Shared} {h₀ : Heap} {L : Addr} {m : MapS} {news : List (Addr × Obj)}
theorem append_led {a : Addr} {ys : List Value} {k : Nat} {v : Value} {Q : Value → Shared → Prop} (F : Fr h₀ L s.heap m) (N : News h₀ L s.heap news) (hm : (a, ({ cls := .type "list", data := .seq ys.toArray k } : Obj)) ∈ news) (hsz : ys.length ≤ sizeLine)
    (h : ∀ h' k', Fr h₀ L h' m → h'.get? a = some { cls := .type "list", data := .seq (ys ++ [v]).toArray k' } → (∀ b o, b ≠ a → s.heap.get? b = some o → h'.get? b = some o) → Q .none { s with heap := h' }) :
    wpAny (model prog w) A (call (.builtin "list.append") [.ref a, v]) Q E s := by
  refine append_at (hsz := by rw [List.size_toArray]; exact hsz) (N _ hm).1 fun h' hs hD => ?_
  exact h h' (k + 1) (F.change hs (N _ hm).2.1 (N _ hm).2.2) (by rw [hD, List.push_toArray]) fun b o hb e => hs.extBut b o hb e
end
end
end Mine
namespace Mine
section
open PySem.Calls
noncomputable abbrev lobj (us : List Value) (c : Nat) : Obj := { cls := .type "list", data := .seq us.toArray c }
inductive Row (nx : List (Addr × Obj)) (v : Value) (d : List Int) : Prop
  | mk (b : Addr) (c : Nat) (us : List Value) (hv : v = .ref b) (hm : (b, lobj us c) ∈ nx) (hu : IntsAre us d)
noncomputable abbrev Rows (nx : List (Addr × Obj)) (vs : List Value) (ds : List (List Int)) : Prop := Al (Row nx) vs ds
theorem Al.mono {α : Type} {R R' : Value → α → Prop} {vs : List Value} {xs : List α} (r : Al R vs xs) (h : ∀ v x, v ∈ vs → R v x → R' v x) : Al R' vs xs :=
  ⟨r.1, fun i v hv => by obtain ⟨a, ha, hr⟩ := r.2 i v hv; exact ⟨a, ha, h v a (List.mem_of_getElem? hv) hr⟩⟩
theorem Rows.sub {nx nx' : List (Addr × Obj)} {vs : List Value} {ds : List (List Int)} (r : Rows nx vs ds) (h : ∀ p ∈ nx, p ∈ nx') : Rows nx' vs ds :=
  r.mono fun v d _ ⟨b, c, us, e, hm, hi⟩ => ⟨b, c, us, e, h _ hm, hi⟩
theorem alnil {α : Type} {R : Value → α → Prop} : Al R [] ([] : List α) := ⟨rfl, fun i v h => by simp at h⟩
theorem alsnoc {α : Type} {R : Value → α → Prop} {v : Value} {x : α} {vs : List Value} {xs : List α} (r : Al R vs xs) (h : R v x) : Al R (vs ++ [v]) (xs ++ [x]) :=
  ⟨by simp [r.1], fun i u hu => by
    by_cases hi : i < vs.length
    · rw [List.getElem?_append_left hi] at hu
      obtain ⟨a, ha, hr⟩ := r.2 i u hu
      exact ⟨a, by rw [List.getElem?_append_left (by rw [← r.1]; exact hi)]; exact ha, hr⟩
    · rw [List.getElem?_append_right (by (first | lia | omega))] at hu
      rw [List.getElem?_append_right (by rw [← r.1]; (first | lia | omega)), ← r.1]
      cases hj : i - vs.length with
      | zero => rw [hj] at hu; cases hu; exact ⟨x, rfl, h⟩
      | succ j => rw [hj] at hu; cases hu⟩
section
variable {h₀ h h' : Heap} {L P : Addr} {m : MapS} {own : List (Addr × Obj)}
end
theorem al_head {α : Type} {R : Value → α → Prop} {vs : List Value} {x : α} {xs : List α} (r : Al R vs (x :: xs)) : ∃ v vr, vs = v :: vr ∧ R v x ∧ Al R vr xs := by
  obtain ⟨hl, hr⟩ := r
  match vs, hl, hr with
  | v :: vr, hl, hr =>
    obtain ⟨a, ha, h⟩ := hr 0 v rfl
    cases ha
    exact ⟨v, vr, rfl, h, by simpa using hl, fun i u hu => by obtain ⟨a, ha, h⟩ := hr (i + 1) u hu; exact ⟨a, ha, h⟩⟩
  | [], hl, _ => simp at hl
end
end Mine
namespace Mine
section
open PySem.Calls
section
variable {h₀ h h' : Heap} {L : Addr} {m : MapS} {news nw : List (Addr × Obj)}
theorem news_new (F : Fr h₀ L h m) (N : News h₀ L h news) (k : Kp h h') (new : ∀ p ∈ nw, h'.get? p.1 = some p.2 ∧ h.get? p.1 = none) : News h₀ L h' (nw ++ news) := fun p hp => by
  rcases List.mem_append.mp hp with hp | hp
  · obtain ⟨e1, e2⟩ := new p hp
    refine ⟨e1, fun q => ?_, ?_⟩
    · obtain ⟨o, _, _, e, _⟩ := F.ns
      rw [q, e] at e2; cases e2
    · cases q : h₀.get? p.1 with
      | none => rfl
      | some o => rw [F.keep _ _ q] at e2; cases e2
  · exact ⟨k _ _ (N p hp).1, (N p hp).2⟩
theorem new_ne {a : Addr} {o : Obj} (new : ∀ p ∈ nw, h'.get? p.1 = some p.2 ∧ h.get? p.1 = none) (e : h.get? a = some o) : ∀ p ∈ nw, p.1 ≠ a := fun p hp q => by
  have := (new p hp).2; rw [q, e] at this; cases this
end
section
variable {prog : Program} {w : World} {A : Around} {E : Value → Shared → Prop} {s : Shared}
theorem item_zero {value slice : Expr} {l : Addr} {v : Value} {vs : List Value} {u : Tok} {Q : Value → Shared → Prop} (hl : s.heap.IsList l (v :: vs).toArray) (h : Q v s)
    (hs : subscripted slice false (.ref l) (.int 0 u) = operate [.ref l, .int 0 u] (getItem (.ref l) (.int 0 u)) := by with_unfolding_all rfl) (hg : ∀ r, letTemporaryGo value (.ref l) r = pure () := by intro _; with_unfolding_all rfl) :
    wpAny (model prog w) A (subscriptTail value slice (.ref l) (.int 0 u)) Q E s :=
  item_list hl (Int.le_refl 0) (by decide) (by simp) h hs hg
end
theorem turn_news {h₀ h : Heap} {L I : Addr} {nw own nx : List (Addr × Obj)} (N : News h₀ L h (nw ++ (own ++ nx))) (hnx : ∀ r ∈ nx, r.1 ∉ [I]) (hI : ∃ o, (I, o) ∈ own) (lt : ∀ p ∈ nw, ∀ q ∈ own ++ nx, q.1 < p.1) :
    News h₀ L h (own ++ (nw ++ nx)) ∧ ∀ r ∈ nw ++ nx, r.1 ∉ [I] := by
  obtain ⟨o, ho⟩ := hI
  refine ⟨news_sub N fun p hp => ?_, fun r hr => ?_⟩
  · rcases List.mem_append.mp hp with hp | hp
    · exact List.mem_append_right _ (List.mem_append_left _ hp)
    · rcases List.mem_append.mp hp with hp | hp
      · exact List.mem_append_left _ hp
      · exact List.mem_append_right _ (List.mem_append_right _ hp)
  · rcases List.mem_append.mp hr with hr | hr
    · intro q
      exact Nat.lt_irrefl _ (List.mem_singleton.mp q ▸ lt r hr _ (List.mem_append_left _ ho))
    · exact hnx r hr
theorem news_swap {h₀ h : Heap} {L : Addr} {a b : List (Addr × Obj)} (N : News h₀ L h (a ++ b)) : News h₀ L h (b ++ a) := news_sub N fun p hp => by
  rcases List.mem_append.mp hp with hp | hp
  · exact List.mem_append_right _ hp
  · exact List.mem_append_left _ hp
end
end Mine
namespace Mine
section
open PySem.Calls
noncomputable def Cp (n : Int) : Prop := 1 ≤ n ∧ n ≤ 1114111
inductive PSt (P Kd : Addr) (nx : List (Addr × Obj)) (rs : List (List Int)) (r ks : List Int) : Prop
  | mk (vs : List Value) (a : Addr) (zs kvs : List Value) (c1 c2 c3 : Nat) (rest : List (Addr × Obj)) (hl : nx = (Kd, lobj kvs c3) :: (P, lobj (vs ++ [.ref a]) c1) :: (a, lobj zs c2) :: rest) (hr : Rows rest vs rs) (hz : IntsAre zs r) (hk : IntsAre kvs ks)
    (hd : ∀ p ∈ rest, p.1 ≠ P ∧ p.1 ≠ a ∧ p.1 ≠ Kd) (d1 : P ≠ a) (d2 : P ≠ Kd) (d3 : a ≠ Kd)
section
variable {h₀ h h' : Heap} {L P Kd a n : Addr} {own rest l l' : List (Addr × Obj)} {oK oP oA oP' oK' oA' on : Obj}
theorem led_upd {o o' : Obj} (N : News h₀ L h l) (ha : (a, o) ∈ l) (hA : h'.get? a = some o') (hk : ∀ b o, b ≠ a → h.get? b = some o → h'.get? b = some o) (hl : ∀ p ∈ l', p = (a, o') ∨ (p ∈ l ∧ p.1 ≠ a)) : News h₀ L h' l' := fun p hp => by
  rcases hl p hp with rfl | ⟨q, ne⟩
  · exact ⟨hA, (N _ ha).2⟩
  · exact ⟨hk _ _ ne (N p q).1, (N p q).2⟩
theorem st_row (N : News h₀ L h ((n, on) :: (own ++ ((Kd, oK) :: (P, oP) :: (a, oA) :: rest)))) (hP : h'.get? P = some oP') (hk : ∀ b o, b ≠ P → h.get? b = some o → h'.get? b = some o)
    (lt : ∀ p ∈ own ++ ((Kd, oK) :: (P, oP) :: (a, oA) :: rest), p.1 < n) (hown : ∀ p ∈ own, p.1 ≠ P) (hr : ∀ p ∈ rest, p.1 ≠ P) (d1 : P ≠ Kd) (d2 : P ≠ a) :
    News h₀ L h' (own ++ ((Kd, oK) :: (P, oP') :: (n, on) :: (a, oA) :: rest)) := by
  have ltP : P < n := lt (P, oP) (by simp)
  refine led_upd (o := oP) N (by simp) hP hk fun p hp => ?_
  rcases List.mem_append.mp hp with hp | hp
  · exact .inr ⟨by simp [hp], hown p hp⟩
  rcases List.mem_cons.mp hp with rfl | hp
  · exact .inr ⟨by simp, Ne.symm d1⟩
  rcases List.mem_cons.mp hp with rfl | hp
  · exact .inl rfl
  rcases List.mem_cons.mp hp with rfl | hp
  · exact .inr ⟨by simp, Nat.ne_of_gt ltP⟩
  rcases List.mem_cons.mp hp with rfl | hp
  · exact .inr ⟨by simp, Ne.symm d2⟩
  · exact .inr ⟨by simp [hp], hr p hp⟩
theorem st_kind (N : News h₀ L h (own ++ ((Kd, oK) :: rest))) (hK : h'.get? Kd = some oK') (hk : ∀ b o, b ≠ Kd → h.get? b = some o → h'.get? b = some o)
    (hown : ∀ p ∈ own, p.1 ≠ Kd) (hr : ∀ p ∈ rest, p.1 ≠ Kd) : News h₀ L h' (own ++ ((Kd, oK') :: rest)) := by
  refine led_upd (o := oK) N (by simp) hK hk fun p hp => ?_
  rcases List.mem_append.mp hp with hp | hp
  · exact .inr ⟨by simp [hp], hown p hp⟩
  rcases List.mem_cons.mp hp with rfl | hp
  · exact .inl rfl
  · exact .inr ⟨by simp [hp], hr p hp⟩
theorem st_sign (N : News h₀ L h (own ++ ((Kd, oK) :: (P, oP) :: (a, oA) :: rest))) (hA : h'.get? a = some oA') (hk : ∀ b o, b ≠ a → h.get? b = some o → h'.get? b = some o)
    (hown : ∀ p ∈ own, p.1 ≠ a) (hr : ∀ p ∈ rest, p.1 ≠ a) (d1 : a ≠ Kd) (d2 : P ≠ a) : News h₀ L h' (own ++ ((Kd, oK) :: (P, oP) :: (a, oA') :: rest)) := by
  refine led_upd (o := oA) N (by simp) hA hk fun p hp => ?_
  rcases List.mem_append.mp hp with hp | hp
  · exact .inr ⟨by simp [hp], hown p hp⟩
  rcases List.mem_cons.mp hp with rfl | hp
  · exact .inr ⟨by simp, Ne.symm d1⟩
  rcases List.mem_cons.mp hp with rfl | hp
  · exact .inr ⟨by simp, d2⟩
  rcases List.mem_cons.mp hp with rfl | hp
  · exact .inl rfl
  · exact .inr ⟨by simp [hp], hr p hp⟩
end
theorem off_row {Z : Addr → Prop} {P Kd a n : Addr} {rest : List (Addr × Obj)} {oK oP oA oK' oP' oA' on : Obj} (h : ∀ p ∈ (Kd, oK) :: (P, oP) :: (a, oA) :: rest, Z p.1) (hn : Z n) : ∀ p ∈ (Kd, oK') :: (P, oP') :: (n, on) :: (a, oA') :: rest, Z p.1 := fun p hp => by
  rcases List.mem_cons.mp hp with rfl | hp
  · exact h (Kd, oK) (by simp)
  rcases List.mem_cons.mp hp with rfl | hp
  · exact h (P, oP) (by simp)
  rcases List.mem_cons.mp hp with rfl | hp
  · exact hn
  rcases List.mem_cons.mp hp with rfl | hp
  · exact h (a, oA) (by simp)
  · exact h p (by simp [hp])
theorem off_sign {Z : Addr → Prop} {P Kd a : Addr} {rest : List (Addr × Obj)} {oK oP oA oK' oP' oA' : Obj} (h : ∀ p ∈ (Kd, oK) :: (P, oP) :: (a, oA) :: rest, Z p.1) : ∀ p ∈ (Kd, oK') :: (P, oP') :: (a, oA') :: rest, Z p.1 := fun p hp => by
  rcases List.mem_cons.mp hp with rfl | hp
  · exact h (Kd, oK) (by simp)
  rcases List.mem_cons.mp hp with rfl | hp
  · exact h (P, oP) (by simp)
  rcases List.mem_cons.mp hp with rfl | hp
  · exact h (a, oA) (by simp)
  · exact h p (by simp [hp])
theorem cp_menu {k : Int} (h0 : k ≠ 0) (h1 : 0 ≤ k) (h9 : k < 9) : Cp (([47, 46, 97, 47, 46, 98, 47, 46] : List Int).getD (k - 1).toNat 0) := by
  have : k = 1 ∨ k = 2 ∨ k = 3 ∨ k = 4 ∨ k = 5 ∨ k = 6 ∨ k = 7 ∨ k = 8 := by (first | lia | omega)
  rcases this with rfl | rfl | rfl | rfl | rfl | rfl | rfl | rfl <;> exact ⟨by decide, by decide⟩
end
end Mine
namespace Mine
section
open PySem.Calls
open LCg
section
variable {prog : Program} {w : World} {A : Around} {E : Value → Shared → Prop} {s : Shared} {env : Env} {h₀ : Heap} {x : Str} {body : List Stmt} {Q : Flow → Shared → Prop}
theorem for_rangeO {r : Addr} {a b : Int} {t u v : Tok} {n : Nat} {m₀ : Str → Option Value} {news : List (Addr × Obj)} (J : List (Addr × Obj) → (Str → Option Value) → Nat → (Str → Option Value) → List (Addr × Obj) → Prop)
    (hh : A.handled = none) (F : Fr h₀ env.locals s.heap m₀) (N : News h₀ env.locals s.heap news) (hr : IsRange s.heap r a b 1 t u v) (hsm : Builtin.Range.small a b 1 = true) (hn : Builtin.Range.rangeSize a b 1 = ((n : Nat) : Int)) (hj : J news m₀ 0 m₀ news)
    (turn : ∀ I i tv m₁ nx h tk own, i < n → (∃ o, (I, o) ∈ own) → (∀ p ∈ own, p.1 = I) → (∀ p ∈ nx, p.1 ∉ [I]) → J news m₀ i m₁ nx → Fr h₀ env.locals h (fun y => if y = x then some (.int (a + (i : Int)) tv) else m₁ y) → News h₀ env.locals h (own ++ nx) →
      wpAny (model prog w) A (execs body env) (TurnEnd h₀ env.locals [I] own (J news m₀ (i + 1)) s Q) E { s with heap := h, toks := tk })
    (done : ∀ m₁ nx h tk, J news m₀ n m₁ nx → Fr h₀ env.locals h m₁ → News h₀ env.locals h nx → Q .next { s with heap := h, toks := tk }) :
    wpAny (model prog w) A (pyIter (.ref r)) (fun it s₂ => LoopAtV prog w A h₀ env x body Q E it s₂) E s := by
  refine wpAny_pyIter_range hr hsm ?_
  refine for_walkO (J news m₀) (range_walks (prog := prog) (w := w) (I := s.heap.objs.size) hh a n) ?_ ?_ ?_ (fun i h hi b hb => by rw [List.mem_singleton.mp hb]; exact ⟨_, hi⟩) (by show IsRangeIter _ _ _ _ _; rw [hn]; simpa using Heap.get?_push_size _ rfl) (F.push _) (fun p hp => ⟨Heap.get?_push_of_some _ (N p hp).1, (N p hp).2⟩) hj ?_ ?_
  · intro hm; exact absurd F.ns.lt ((List.mem_singleton.mp hm) ▸ Nat.lt_irrefl _)
  · intro b hb; rw [List.mem_singleton.mp hb]; exact next_is_new F
  · intro p hp hI; exact absurd (Heap.lt_size (N p hp).1) ((List.mem_singleton.mp hI) ▸ Nat.lt_irrefl _)
  · intro i v m₁ nx h tk own hi hP hI hfo hown ho hJ F₁ N₁
    obtain ⟨tv, rfl⟩ := hP
    exact turn _ i tv m₁ nx h tk own hi (hI _ (.head _)) (fun p hp => by simpa using hown p hp) ho hJ F₁ N₁
  · exact fun m₁ nx h tk hJ F₁ N₁ => done m₁ nx h tk hJ F₁ N₁
theorem range_small2 {a n : Nat} (ha : a ≤ sizeLine) (h : n ≤ sizeLine) : Builtin.Range.small (a : Int) (n : Int) 1 = true := by
  rw [sizeLine_eq] at h ha
  exact small_one (by (first | lia | omega)) (by (first | lia | omega)) (by (first | lia | omega)) (by (first | lia | omega))
theorem range_len2 {a n : Nat} : Builtin.Range.rangeSize (a : Int) (n : Int) 1 = ((n - a : Nat) : Int) := by
  rw [rangeSize_one]; split <;> (first | lia | omega)
theorem for_range2 {a n : Nat} {t u : Tok} {m₀ : Str → Option Value} {news : List (Addr × Obj)} (J : List (Addr × Obj) → (Str → Option Value) → Nat → (Str → Option Value) → List (Addr × Obj) → Prop)
    (hh : A.handled = none) (F : Fr h₀ env.locals s.heap m₀) (N : News h₀ env.locals s.heap news) (ha : a ≤ n) (hz : n ≤ sizeLine) (hj : J news m₀ a m₀ news)
    (turn : ∀ I i tv m₁ nx h tk own, a ≤ i → i < n → (∃ o, (I, o) ∈ own) → (∀ p ∈ own, p.1 = I) → (∀ p ∈ nx, p.1 ∉ [I]) → J news m₀ i m₁ nx → Fr h₀ env.locals h (fun y => if y = x then some (.int (i : Int) tv) else m₁ y) → News h₀ env.locals h (own ++ nx) →
      wpAny (model prog w) A (execs body env) (TurnEnd h₀ env.locals [I] own (J news m₀ (i + 1)) s Q) E { s with heap := h, toks := tk })
    (done : ∀ m₁ nx h tk, J news m₀ n m₁ nx → Fr h₀ env.locals h m₁ → News h₀ env.locals h nx → Q .next { s with heap := h, toks := tk }) :
    wpAny (model prog w) A (call (.type "range") [.int (a : Int) t, .int (n : Int) u]) (fun xv s₁ => wpAny (model prog w) A (pyIter xv) (fun it s₂ => LoopAtV prog w A h₀ env x body Q E it s₂) E s₁) E s := by
  refine range2_rows F N fun h' tk t₁ u₁ v₁ R F' N' _ => ?_
  refine for_rangeO (s := { s with heap := h', toks := tk }) (fun n0 m0 i => J n0 m0 (a + i)) hh F' N' R (range_small2 (Nat.le_trans ha hz) hz) range_len2 hj ?_ ?_
  · intro I i tv m₁ nx h tk own hi hI hown ho hJ F₁ N₁
    exact turn I (a + i) tv m₁ nx h tk own (Nat.le_add_right _ _) (by (first | lia | omega)) hI hown ho hJ (by rw [Int.natCast_add]; exact F₁) N₁
  · intro m₁ nx h tk hJ F₁ N₁
    exact done m₁ nx h tk (by rw [show a + (n - a) = n by (first | lia | omega)] at hJ; exact hJ) F₁ N₁
theorem for_range1 {n : Nat} {t : Tok} {m₀ : Str → Option Value} {news : List (Addr × Obj)} (J : List (Addr × Obj) → (Str → Option Value) → Nat → (Str → Option Value) → List (Addr × Obj) → Prop)
    (hh : A.handled = none) (F : Fr h₀ env.locals s.heap m₀) (N : News h₀ env.locals s.heap news) (hz : n ≤ sizeLine) (hj : J news m₀ 0 m₀ news)
    (turn : ∀ I i tv m₁ nx h tk own, i < n → (∃ o, (I, o) ∈ own) → (∀ p ∈ own, p.1 = I) → (∀ p ∈ nx, p.1 ∉ [I]) → J news m₀ i m₁ nx → Fr h₀ env.locals h (fun y => if y = x then some (.int (i : Int) tv) else m₁ y) → News h₀ env.locals h (own ++ nx) →
      wpAny (model prog w) A (execs body env) (TurnEnd h₀ env.locals [I] own (J news m₀ (i + 1)) s Q) E { s with heap := h, toks := tk })
    (done : ∀ m₁ nx h tk, J news m₀ n m₁ nx → Fr h₀ env.locals h m₁ → News h₀ env.locals h nx → Q .next { s with heap := h, toks := tk }) :
    wpAny (model prog w) A (call (.type "range") [.int (n : Int) t]) (fun xv s₁ => wpAny (model prog w) A (pyIter xv) (fun it s₂ => LoopAtV prog w A h₀ env x body Q E it s₂) E s₁) E s := by
  refine range1_rows F N fun h' tk t₁ u₁ v₁ R F' N' _ => ?_
  refine for_rangeO (s := { s with heap := h', toks := tk }) J hh F' N' R (range_small hz) range_len hj ?_ ?_
  · intro I i tv m₁ nx h tk own hi hI hown ho hJ F₁ N₁
    exact turn I i tv m₁ nx h tk own hi hI hown ho hJ (by rw [Int.zero_add] at F₁; exact F₁) N₁
  · exact done
end
end
end Mine
namespace Mine
section
open PySem.Calls
open LCg
section
variable {prog : Program} {w : World} {A : Around} {E : Value → Shared → Prop} {s : Shared} {env : Env} {h₀ : Heap}
theorem forLoop_T {R : Result → Shared → Prop} {E₀ : Value → Shared → Prop} {Qn : Flow → Shared → Prop} {target : Expr} {body : List Stmt} {I : Addr} {fp wr : List Addr} {n : Nat} {P : Nat → Value → Prop} {St : Nat → Heap → Prop} {m : Str → Option Value}
    {news : List (Addr × Obj)} (J : Nat → (Str → Option Value) → List (Addr × Obj) → Prop) (W : Walks prog w A I fp wr n P St)
    (hLf : env.locals ∉ fp) (hwr : ∀ b ∈ wr, h₀.get? b = none) (hnw : ∀ p ∈ news, p.1 ∉ wr)
    (hst : St 0 s.heap) (F : Fr h₀ env.locals s.heap m) (N : News h₀ env.locals s.heap news) (hJ₀ : J 0 m news)
    (hgo : ∀ i v (s' : Shared) (Q' : Unit → Shared → Prop) (E' : Value → Shared → Prop), P i v → St (i + 1) s'.heap → Q' () s' → wpAny (model prog w) A (letOwnedTupleGo target (.ref I) v) Q' E' s')
    (turn : ∀ i v m₁ nx h tk own, i < n → P i v → (∀ p ∈ own, p.1 ∈ fp) → (∀ b ∈ wr, ∀ o, h.get? b = some o → (b, o) ∈ own) → St (i + 1) h → (∀ p ∈ nx, p.1 ∉ wr) → J i m₁ nx → Fr h₀ env.locals h m₁ → News h₀ env.locals h (own ++ nx) →
      wpAny (model prog w) A (assign target env v) (fun _ s₂ => wpAny (model prog w) A (execs body env) (TurnEnd h₀ env.locals wr own (J (i + 1)) s Qn) E₀ s₂) E₀ { s with heap := h, toks := tk })
    (hE : ∀ e s', E₀ e s' → notedBy (model prog w) A env (fun e s' => R (.error e) s') e s')
    (hQ : ∀ f s', Qn f s' → R (.ok f) s')
    (done : ∀ m₁ nx h tk, J n m₁ nx → Fr h₀ env.locals h m₁ → News h₀ env.locals h nx → R (.ok .next) { s with heap := h, toks := tk }) :
    codeAny (model prog w) A (.forLoop target (.ref I) body [] env) R s := by
  have hLw : env.locals ∉ wr := fun h => hLf (W.sub _ h)
  have old : ∀ b o, h₀.get? b = some o → b ∉ wr := fun b o e hb => by rw [hwr b hb] at e; cases e
  refine codeAny_forLoop_any
    (ForSt h₀ env.locals wr J St n s) ?_ (n + 1)
    ⟨s.heap, s.toks, m, news, 0, rfl, hst, F, N, hnw, hJ₀, Nat.zero_le _, rfl⟩
  rintro k s' ⟨h', tk, m', nx, i, rfl, hst', F', N', off', hJ, hi, rfl⟩
  have next : ∀ h₁ : Heap, (∀ b o, b ∉ wr → h'.get? b = some o → h₁.get? b = some o) → Fr h₀ env.locals h₁ m' ∧ News h₀ env.locals h₁ nx := fun h₁ hk₁ =>
    ⟨⟨F'.ns.at' fun o e => hk₁ _ o hLw e, fun b o e => hk₁ b o (old b o e) (F'.keep b o e), F'.above⟩, fun p hp => ⟨hk₁ _ _ (off' p hp) (N' p hp).1, (N' p hp).2⟩⟩
  by_cases hlt : i < n
  · refine W.item i _ _ _ hlt hst' fun v h₁ tk₁ hP hst₁ hk₁ => ?_
    obtain ⟨F₁, N₁⟩ := next h₁ hk₁
    have hown : ∀ p ∈ ownOf h₀ h₁ fp, p.1 ∈ fp := fun p hp => (ownOf_out hp).1
    have N₂ : News h₀ env.locals h₁ (ownOf h₀ h₁ fp ++ nx) := fun p hp => by
      rcases List.mem_append.mp hp with hp | hp
      · obtain ⟨a, b, c⟩ := ownOf_out hp
        exact ⟨c, fun q => hLf (q ▸ a), b⟩
      · exact N₁ p hp
    dsimp only
    refine hgo i v _ _ _ hP hst₁ ?_
    refine wpAny_mono (turn i v m' nx h₁ tk₁ (ownOf h₀ h₁ fp) hlt hP hown (fun b hb o e => ownOf_in (W.sub b hb) (hwr b hb) e) hst₁ off' hJ F₁ N₂) (fun _ s₂ h₂ => wpAny_mono h₂ (fun f s₃ h₃ => ?_) hE) hE
    have step : TurnSt h₀ env.locals wr (ownOf h₀ h₁ fp) (J (i + 1)) s.gens s.drawn s.os s₃ →
        ∃ m, m < n + 1 - i ∧ ForSt h₀ env.locals wr J St n s m s₃ := by
      rintro ⟨g₃, tk₃, m₃, nx₃, e₃, F₃, N₃, off₃, hJ₃⟩
      refine ⟨n + 1 - (i + 1), by (first | lia | omega), g₃, tk₃, m₃, nx₃, i + 1, e₃, ?_, F₃, fun p hp => N₃ p (List.mem_append_right _ hp), off₃, hJ₃, hlt, rfl⟩
      refine W.frame _ _ _ hst₁ fun b hb o e => ?_
      cases hn : h₀.get? b with
      | some o₀ =>
        have : o₀ = o := by have := F₁.keep b o₀ hn; rw [e] at this; exact (Option.some.inj this).symm
        exact this ▸ F₃.keep b o₀ hn
      | none => exact (N₃ _ (List.mem_append_left _ (ownOf_in hb hn e))).1
    cases f with
    | ret v => exact hQ _ _ h₃
    | brk => exact hQ _ _ h₃
    | cont => exact step h₃
    | next => exact step h₃
  · obtain rfl : i = n := Nat.le_antisymm hi (Nat.not_lt.mp hlt)
    refine W.done _ _ _ hst' fun h₁ tk₁ hk₁ => wpAny_execs_nil ?_
    obtain ⟨F₁, N₁⟩ := next h₁ hk₁
    exact done _ _ _ _ hJ F₁ N₁
noncomputable def LoopT (prog : Program) (w : World) (A : Around) (env : Env) (target : Expr) (body : List Stmt) (Q : Flow → Shared → Prop) (E : Value → Shared → Prop) (xv : Value) (s₁ : Shared) : Prop :=
  wpAny (model prog w) A (pyIter xv) (fun it s₂ => codeAny (model prog w) A (.forLoop target it body [] env) (fun r s' => match r with | .ok f => Q f s' | .error e => cameBackBy (model prog w) A env E e s') s₂) E s₁
theorem For_T {target iter : Expr} {body : List Stmt} {pos : Pos} {Q : Flow → Shared → Prop} (h : wpAny (model prog w) A (eval iter env) (LoopT prog w A env target body Q E) E s)
    (hs : ∀ x, foldedSetIterable iter env x = pure x := by intro _; rfl) : wpAny (model prog w) A (exec (.For target iter body [] pos) env) Q E s := wpAny_For h hs
theorem rangeT {target : Expr} {body : List Stmt} {Q : Flow → Shared → Prop} {n : Nat} {t : Tok} {m₀ : Str → Option Value} {news : List (Addr × Obj)} (J : List (Addr × Obj) → (Str → Option Value) → Nat → (Str → Option Value) → List (Addr × Obj) → Prop)
    (hh : A.handled = none) (F : Fr h₀ env.locals s.heap m₀) (N : News h₀ env.locals s.heap news) (hz : n ≤ sizeLine) (hj : J news m₀ 0 m₀ news) (hgo : ∀ a v, letOwnedTupleGo target (.ref a) v = pure ())
    (turn : ∀ I i tv m₁ nx h tk own, i < n → (∃ o, (I, o) ∈ own) → (∀ p ∈ own, p.1 = I) → (∀ p ∈ nx, p.1 ∉ [I]) → J news m₀ i m₁ nx → Fr h₀ env.locals h m₁ → News h₀ env.locals h (own ++ nx) →
      wpAny (model prog w) A (assign target env (.int (i : Int) tv)) (fun _ s₂ => wpAny (model prog w) A (execs body env) (TurnEnd h₀ env.locals [I] own (J news m₀ (i + 1)) s Q) E s₂) E { s with heap := h, toks := tk })
    (done : ∀ m₁ nx h tk, J news m₀ n m₁ nx → Fr h₀ env.locals h m₁ → News h₀ env.locals h nx → Q .next { s with heap := h, toks := tk })
    (hE : PassesOwn (model prog w) A env E := by passes_own) :
    wpAny (model prog w) A (call (.type "range") [.int (n : Int) t]) (LoopT prog w A env target body Q E) E s := by
  refine range1_rows F N fun h' tk t₁ u₁ v₁ R F' N' _ => ?_
  refine wpAny_pyIter_range R (range_small hz) ?_
  refine forLoop_T (E₀ := E) (Qn := Q) (J news m₀) (range_walks (prog := prog) (w := w) hh 0 n) ?_ ?_ ?_ (by show IsRangeIter _ _ _ _ _; rw [range_len]; simpa using Heap.get?_push_size _ rfl) (F'.push _) (fun p hp => ⟨Heap.get?_push_of_some _ (N' p hp).1, (N' p hp).2⟩) hj (fun i v s' Q' E' _ _ q => wpAny_of_eq (hgo _ v) q) ?_ ?_ (fun f s' q => q) ?_
  · intro hm; exact absurd F'.ns.lt ((List.mem_singleton.mp hm) ▸ Nat.lt_irrefl _)
  · intro b hb; rw [List.mem_singleton.mp hb]; exact next_is_new F'
  · intro p hp hI; exact absurd (Heap.lt_size (N' p hp).1) ((List.mem_singleton.mp hI) ▸ Nat.lt_irrefl _)
  · rintro i v m₁ nx h tk own hi ⟨tv, rfl⟩ hown hwr hst off hJ F₁ N₁
    rw [Int.zero_add]
    exact turn _ i tv m₁ nx h tk own hi ⟨_, hwr _ (.head _) _ hst⟩ (fun p hp => List.mem_singleton.mp (hown p hp)) off hJ F₁ N₁
  · exact hE
  · exact fun m₁ nx h tk hJ F₁ N₁ => done m₁ nx h tk hJ F₁ N₁
theorem TurnEnd.own {L I : Addr} {oI : Obj} {own : List (Addr × Obj)} {J : (Str → Option Value) → List (Addr × Obj) → Prop} {Q : Flow → Shared → Prop} {f : Flow} {s₂ : Shared} (hown : ∀ p ∈ own, p = (I, oI)) (h : TurnEnd h₀ L [I] [(I, oI)] J s Q f s₂) : TurnEnd h₀ L [I] own J s Q f s₂ := by
  have key : TurnSt h₀ L [I] [(I, oI)] J s.gens s.drawn s.os s₂ → TurnSt h₀ L [I] own J s.gens s.drawn s.os s₂ := by
    rintro ⟨h', tk, m', nx, e, F, N, off, hJ⟩
    refine ⟨h', tk, m', nx, e, F, fun p hp => ?_, off, hJ⟩
    rcases List.mem_append.mp hp with hp | hp
    · rw [hown p hp]; exact N _ (.head _)
    · exact N _ (.tail _ hp)
  cases f with
  | ret v => exact h
  | brk => exact h
  | cont => exact key h
  | next => exact key h
theorem rangeU {target : Expr} {body : List Stmt} {Q : Flow → Shared → Prop} {n : Nat} {t : Tok} {m₀ : Str → Option Value} {news : List (Addr × Obj)} (J : List (Addr × Obj) → (Str → Option Value) → Nat → (Str → Option Value) → List (Addr × Obj) → Prop)
    (hh : A.handled = none) (F : Fr h₀ env.locals s.heap m₀) (N : News h₀ env.locals s.heap news) (hz : n ≤ sizeLine) (hj : J news m₀ 0 m₀ news) (hgo : ∀ a v, letOwnedTupleGo target (.ref a) v = pure ())
    (turn : ∀ I oI i tv m₁ nx h tk, i < n → (∀ p ∈ nx, p.1 ≠ I) → J news m₀ i m₁ nx → Fr h₀ env.locals h m₁ → News h₀ env.locals h ((I, oI) :: nx) →
      wpAny (model prog w) A (assign target env (.int (i : Int) tv)) (fun _ s₂ => wpAny (model prog w) A (execs body env) (TurnEnd h₀ env.locals [I] [(I, oI)] (J news m₀ (i + 1)) s Q) E s₂) E { s with heap := h, toks := tk })
    (done : ∀ m₁ nx h tk, J news m₀ n m₁ nx → Fr h₀ env.locals h m₁ → News h₀ env.locals h nx → Q .next { s with heap := h, toks := tk })
    (hE : PassesOwn (model prog w) A env E := by passes_own) :
    wpAny (model prog w) A (call (.type "range") [.int (n : Int) t]) (LoopT prog w A env target body Q E) E s :=
  rangeT J hh F N hz hj hgo (fun I i tv m₁ nx h tk own hi hI hown off hJ F₁ N₁ => by
    obtain ⟨oI, ho⟩ := hI
    have eI := (N₁ _ (List.mem_append_left _ ho)).1
    refine wpAny_mono (turn I oI i tv m₁ nx h tk hi (fun p hp q => off p hp (List.mem_singleton.mpr q)) hJ F₁ fun p hp => ?_) (fun _ s₂ h₂ => wpAny_mono h₂ (fun f s₃ h₃ => TurnEnd.own (fun p hp => ?_) h₃) fun _ _ e => e) fun _ _ e => e
    · rcases List.mem_cons.mp hp with rfl | hp
      · exact N₁ _ (List.mem_append_left _ ho)
      · exact N₁ _ (List.mem_append_right _ hp)
    · have e1 := (N₁ _ (List.mem_append_left _ hp)).1
      have e2 := hown p hp
      obtain ⟨a, o⟩ := p
      dsimp only at e1 e2
      subst e2
      rw [eI] at e1
      have e3 : oI = o := Option.some.inj e1
      rw [e3]) done hE
end
end
end Mine
namespace Mine
section
open PySem.Calls
open LCg
theorem map2k {m : MapS} {a b : Str} {v u : Value} (h1 : m a = some v) (h2 : m b = some u) : m = fun y => if y = a then some v else if y = b then some u else m y := by
  funext y
  by_cases h : y = a
  · subst h; rw [if_pos rfl, h1]
  · rw [if_neg h]
    by_cases h : y = b
    · subst h; rw [if_pos rfl, h2]
    · rw [if_neg h]
section
variable {prog : Program} {w : World} {A : Around} {E : Value → Shared → Prop} {s : Shared} {env : Env} {h₀ : Heap} {x : Str} {body : List Stmt} {Q : Flow → Shared → Prop}
theorem for_listK {L : Addr} {D : Addr} {vs : List Value} {m₀ : MapS} {news : List (Addr × Obj)} (J : Nat → MapS → List (Addr × Obj) → Prop)
    (hh : A.handled = none) (F : Fr h₀ L s.heap m₀) (N : News h₀ L s.heap news) (hL : env.locals = L) (hD : s.heap.IsList D vs.toArray) (hDL : D ≠ L) (hj : J 0 m₀ news)
    (turn : ∀ I i v m₁ nx h tk own (K : Flow → Shared → Prop), vs[i]? = some v → (∃ o, (I, o) ∈ own) → (∀ p ∈ nx, p.1 ∉ [I]) → J i m₁ nx → Fr h₀ L h (fun y => if y = x then some v else m₁ y) → News h₀ L h (own ++ nx) →
      (∀ f h' tk' m' nx', f = .next ∨ f = .cont → Fr h₀ L h' m' → News h₀ L h' (own ++ nx') → (∀ p ∈ nx', p.1 ∉ [I]) → J (i + 1) m' nx' → K f { s with heap := h', toks := tk' }) →
      wpAny (model prog w) A (execs body env) K E { s with heap := h, toks := tk })
    (done : ∀ m₁ nx h tk, J vs.length m₁ nx → Fr h₀ L h m₁ → News h₀ L h nx → Q .next { s with heap := h, toks := tk }) :
    wpAny (model prog w) A (pyIter (.ref D)) (fun it s₂ => LoopAtV prog w A h₀ env x body Q E it s₂) E s := by
  subst hL
  refine for_list J hh hD hDL F N hj (fun I i v m₁ nx h tk own hv hI off hJ F₁ N₁ => turn I i v m₁ nx h tk own _ hv hI off hJ F₁ N₁ fun f h' tk' m' nx' hf F₂ N₂ off₂ hJ₂ => ?_) done
  rcases hf with rfl | rfl
  · exact ⟨h', tk', m', nx', rfl, F₂, N₂, off₂, hJ₂⟩
  · exact ⟨h', tk', m', nx', rfl, F₂, N₂, off₂, hJ₂⟩
theorem lt_nil {l : List (Addr × Obj)} : ∀ p ∈ ([] : List (Addr × Obj)), ∀ q ∈ l, q.1 < p.1 := fun _ h => nomatch h
theorem lt_cons {a : Addr × Obj} {w l : List (Addr × Obj)} (h : ∀ q ∈ l, q.1 < a.1) (t : ∀ p ∈ w, ∀ q ∈ l, q.1 < p.1) : ∀ p ∈ a :: w, ∀ q ∈ l, q.1 < p.1 := fun p hp => by
  rcases List.mem_cons.mp hp with rfl | hp
  · exact h
  · exact t p hp
end
section
variable {prog : Program} {w : World} {A : Around} {E : Value → Shared → Prop} {s : Shared} {h₀ : Heap} {L : Addr} {m : MapS} {env : Env} {elt : Expr} {scope : Scope} {cl : List (Str × Addr)} {Fin : Shared → List Value → List (Addr × Obj) → Prop}
theorem src_listP {x : Str} {px : Pos} {ax : Addr} {vs : List Value} {news : List (Addr × Obj)} (J : Nat → List Value → Prop)
    (hh : A.handled = none) (F : Fr h₀ L s.heap m) (N : News h₀ L s.heap news) (hD : s.heap.IsList ax vs.toArray) (haL : ax ≠ L) (hsz : vs.length ≤ sizeLine)
    (hkind : scope.kind = .function) (hx : scope.names.lookup x = some .local) (hJ : J 0 [])
    (turn : ∀ i v C oC D m₂ h tk own ys (K : Value → Shared → Prop) (E' : Value → Shared → Prop), vs[i]? = some v → J i ys → m₂ x = some v → NsObj oC m₂ → Fr h₀ L h m → News h₀ L h (own ++ ((C, oC) :: (D, lst ys) :: news)) →
      (∀ y h' tk', Fr h₀ L h' m → News h₀ L h' (own ++ ((C, oC) :: (D, lst ys) :: news)) → J (i + 1) (ys ++ [y]) → K y { s with heap := h', toks := tk' }) →
      wpAny (model prog w) A (eval elt (compEnvC scope cl C env)) K E' { s with heap := h, toks := tk })
    (fin : ∀ g tk ys, J vs.length ys → Fin { s with heap := g, toks := tk } ys news) :
    CompAt prog w A h₀ L m env (.Name x px) elt [] scope cl E Fin (.ref ax) s := by
  refine src_listS (fun n0 i ys nx => nx = n0 ∧ J i ys) hh F N hD haL hsz hkind hx ⟨rfl, hJ⟩ ?_ fun g tk ys nx hj => hj.1 ▸ fin g tk ys hj.2
  rintro I i v C oC D m₂ h tk own ys nx E' hv ⟨rfl, hj⟩ hm hC F₁ N₁ hoff _ _
  exact tests0 (turn i v C oC D m₂ h tk own ys _ E' hv hj hm hC F₁ N₁ fun y h' tk' F₂ N₂ hj₂ => ⟨h', tk', nx, rfl, F₂, N₂, hoff, rfl, hj₂⟩)
end
section
variable {prog : Program} {w : World} {A : Around} {E : Value → Shared → Prop} {s : Shared} {env : Env} {h₀ : Heap}
theorem rangeK {L : Addr} {target : Expr} {body : List Stmt} {Q : Flow → Shared → Prop} {n : Nat} {t : Tok} {m₀ : MapS} {news : List (Addr × Obj)} (J : Nat → MapS → List (Addr × Obj) → Prop)
    (hh : A.handled = none) (F : Fr h₀ L s.heap m₀) (N : News h₀ L s.heap news) (hL : env.locals = L) (hz : n ≤ sizeLine) (hj : J 0 m₀ news) (hgo : ∀ a v, letOwnedTupleGo target (.ref a) v = pure ())
    (turn : ∀ I oI i tv m₁ nx h tk (K : Flow → Shared → Prop), i < n → (∀ p ∈ nx, p.1 ≠ I) → J i m₁ nx → Fr h₀ L h m₁ → News h₀ L h ((I, oI) :: nx) →
      (∀ h' tk' m' nx', Fr h₀ L h' m' → News h₀ L h' ((I, oI) :: nx') → (∀ p ∈ nx', p.1 ≠ I) → J (i + 1) m' nx' → K .next { s with heap := h', toks := tk' }) →
      wpAny (model prog w) A (assign target env (.int (i : Int) tv)) (fun _ s₂ => wpAny (model prog w) A (execs body env) K E s₂) E { s with heap := h, toks := tk })
    (done : ∀ m₁ nx h tk, J n m₁ nx → Fr h₀ L h m₁ → News h₀ L h nx → Q .next { s with heap := h, toks := tk })
    (hE : PassesOwn (model prog w) A env E := by passes_own) :
    wpAny (model prog w) A (call (.type "range") [.int (n : Int) t]) (LoopT prog w A env target body Q E) E s := by
  subst hL
  refine rangeU (fun _ _ => J) hh F N hz hj hgo (fun I oI i tv m₁ nx h tk hi hoff hJ F₁ N₁ => turn I oI i tv m₁ nx h tk _ hi hoff hJ F₁ N₁ fun h' tk' m' nx' F₂ N₂ off₂ hJ₂ => ?_) done hE
  exact ⟨h', tk', m', nx', rfl, F₂, N₂, fun p hp q => off₂ p hp (List.mem_singleton.mp q), hJ₂⟩
end
section
variable {g h h' : Heap} {L Cc I : Addr} {oC oC' : Obj} {a b x : Addr × Obj} {w T l rest nx : List (Addr × Obj)}
theorem led_drop2 (N : News g L h (a :: b :: l)) : News g L h (a :: l) := fun p hp => N p (by
  rcases List.mem_cons.mp hp with rfl | hp
  · exact .head _
  · exact .tail _ (.tail _ hp))
theorem led_rest (N : News g L h (T ++ rest)) (hs : ∀ p ∈ nx, p ∈ rest) : News g L h (T ++ nx) := fun p hp => N p (by
  rcases List.mem_append.mp hp with hp | hp
  · exact List.mem_append_left _ hp
  · exact List.mem_append_right _ (hs p hp))
theorem led1 (N : News g L h (a :: l)) : News g L h l := fun p hp => N p (.tail _ hp)
theorem off_same (hf : ∀ p ∈ (Cc, oC) :: l, p.1 ≠ I) : ∀ p ∈ (Cc, oC') :: l, p.1 ≠ I := fun p hp => by
  rcases List.mem_cons.mp hp with rfl | hp
  · exact hf (Cc, oC) (.head _)
  · exact hf p (.tail _ hp)
theorem all_lt {n : Nat} (hl : AllLt n l) : ∀ p ∈ l, p.1 ≠ n := fun p hp => Nat.ne_of_lt (ktn_ltOf hl p hp)
theorem off_in (hf : ∀ p ∈ T ++ rest, p.1 ≠ I) (hw : ∀ p ∈ w, p.1 ≠ I) : ∀ p ∈ T ++ (w ++ rest), p.1 ≠ I := fun p hp => by
  rcases List.mem_append.mp hp with hp | hp
  · exact hf p (List.mem_append_left _ hp)
  · rcases List.mem_append.mp hp with hp | hp
    · exact hw p hp
    · exact hf p (List.mem_append_right _ hp)
theorem off_one {o : Obj} (hn : Cc ≠ I) : ∀ p ∈ [(Cc, o)], p.1 ≠ I := fun p hp => by rw [List.mem_singleton.mp hp]; exact hn
theorem off_nil : ∀ p ∈ ([] : List (Addr × Obj)), p.1 ≠ I := fun _ hp => nomatch hp
theorem app_turn (N : News g L h (w ++ (x :: (Cc, oC) :: (T ++ rest)))) (hA : h'.get? Cc = some oC') (hk : ∀ b o, b ≠ Cc → h.get? b = some o → h'.get? b = some o)
    (hx : Cc ≠ x.1) (hw : ∀ p ∈ w, p.1 ≠ Cc) (hn : ∀ p ∈ T ++ rest, p.1 ≠ Cc) : News g L h' (x :: (Cc, oC') :: (T ++ (w ++ rest))) :=
  led_upd (o := oC) N (by simp) hA hk fun p hp => by
    rcases List.mem_cons.mp hp with rfl | hp
    · exact .inr ⟨by simp, Ne.symm hx⟩
    rcases List.mem_cons.mp hp with rfl | hp
    · exact .inl rfl
    rcases List.mem_append.mp hp with hp | hp
    · exact .inr ⟨List.mem_append_right _ (.tail _ (.tail _ (List.mem_append_left _ hp))), hn p (List.mem_append_left _ hp)⟩
    rcases List.mem_append.mp hp with hp | hp
    · exact .inr ⟨List.mem_append_left _ hp, hw p hp⟩
    · exact .inr ⟨List.mem_append_right _ (.tail _ (.tail _ (List.mem_append_right _ hp))), hn p (List.mem_append_right _ hp)⟩
end
section
variable {prog : Program} {w : World} {A : Around} {E : Value → Shared → Prop} {s : Shared} {env : Env} {h₀ : Heap} {x : Str} {body : List Stmt} {Q : Flow → Shared → Prop}
theorem for_listB {L : Addr} {D : Addr} {vs : List Value} {m₀ : MapS} {news : List (Addr × Obj)} (J : Nat → MapS → List (Addr × Obj) → Prop)
    (hh : A.handled = none) (F : Fr h₀ L s.heap m₀) (N : News h₀ L s.heap news) (hL : env.locals = L) (hD : h₀.IsList D vs.toArray) (hDL : D ≠ L) (hj : J 0 m₀ news)
    (turn : ∀ I oI i v m₁ nx h tk (K : Flow → Shared → Prop), vs[i]? = some v → (∀ p ∈ nx, p.1 ≠ I) → J i m₁ nx → Fr h₀ L h (fun y => if y = x then some v else m₁ y) → News h₀ L h ((I, oI) :: nx) →
      (∀ f h' tk' m' nx', f = .next ∨ f = .cont → Fr h₀ L h' m' → News h₀ L h' ((I, oI) :: nx') → (∀ p ∈ nx', p.1 ≠ I) → J (i + 1) m' nx' → K f { s with heap := h', toks := tk' }) →
      wpAny (model prog w) A (execs body env) K E { s with heap := h, toks := tk })
    (done : ∀ m₁ nx h tk, J vs.length m₁ nx → Fr h₀ L h m₁ → News h₀ L h nx → Q .next { s with heap := h, toks := tk }) :
    wpAny (model prog w) A (pyIter (.ref D)) (fun it s₂ => LoopAtV prog w A h₀ env x body Q E it s₂) E s := by
  subst hL
  refine for_listO (fun _ _ => J) hh F N (hD.at fun o e => F.keep _ o e) hDL hj (fun I i v m₁ nx h tk own hv hI _ hown off hJ F₁ N₁ => ?_) done
  obtain ⟨oI, ho⟩ := hI
  have eI := (N₁ _ (List.mem_append_left _ ho)).1
  have eo : ∀ p ∈ own, p = (I, oI) := fun p hp => by
    have e1 := N₁ p (List.mem_append_left _ hp)
    rcases hown p hp with e | e
    · obtain ⟨a, o⟩ := p
      dsimp only at e e1
      subst e
      rw [eI] at e1
      have e3 : oI = o := Option.some.inj e1.1
      rw [e3]
    · obtain ⟨o, e2, _⟩ := hD
      have := e1.2.2
      rw [e, e2] at this; cases this
  refine turn I oI i v m₁ nx h tk _ hv (fun p hp q => off p hp (List.mem_singleton.mpr q)) hJ F₁ (fun p hp => ?_) fun f h' tk' m' nx' hf F₂ N₂ off₂ hJ₂ => ?_
  · rcases List.mem_cons.mp hp with rfl | hp
    · exact N₁ _ (List.mem_append_left _ ho)
    · exact N₁ _ (List.mem_append_right _ hp)
  · have N₃ : News h₀ env.locals h' (own ++ nx') := fun p hp => by
      rcases List.mem_append.mp hp with hp | hp
      · rw [eo p hp]; exact N₂ _ (.head _)
      · exact N₂ _ (.tail _ hp)
    have off₃ : ∀ p ∈ nx', p.1 ∉ [I] := fun p hp q => off₂ p hp (List.mem_singleton.mp q)
    rcases hf with rfl | rfl
    · exact ⟨h', tk', m', nx', rfl, F₂, N₃, off₃, hJ₂⟩
    · exact ⟨h', tk', m', nx', rfl, F₂, N₃, off₃, hJ₂⟩
end
section
variable {prog : Program} {w : World} {A : Around} {E : Value → Shared → Prop} {Q : Flow → Shared → Prop} {s : Shared} {env : Env} {h₀ : Heap} {L : Addr}
theorem while_invK {test : Expr} {body : List Stmt} {pos : Pos} {m : MapS} {news : List (Addr × Obj)} (J : Nat → MapS → List (Addr × Obj) → Prop) (J' : MapS → List (Addr × Obj) → Prop) (n₀ : Nat)
    (F : Fr h₀ L s.heap m) (N : News h₀ L s.heap news) (hJ : J n₀ m news)
    (turn : ∀ n m₁ nx h₁ tk₁ (K : Flow → Shared → Prop) (Z : Shared → Prop), J n m₁ nx → Fr h₀ L h₁ m₁ → News h₀ L h₁ nx →
      (∀ f h' tk m₂ nx₂ n', f = .next ∨ f = .cont → Fr h₀ L h' m₂ → News h₀ L h' nx₂ → n' < n → J n' m₂ nx₂ → K f { s with heap := h', toks := tk }) →
      (∀ h' tk m₂ nx₂, Fr h₀ L h' m₂ → News h₀ L h' nx₂ → J' m₂ nx₂ → K .brk { s with heap := h', toks := tk }) →
      (∀ h' tk m₂ nx₂, Fr h₀ L h' m₂ → News h₀ L h' nx₂ → J' m₂ nx₂ → Z { s with heap := h', toks := tk }) →
      wpAny (model prog w) A (isTrue test env (eval test env)) (fun b s₂ =>
        if b = true then wpAny (model prog w) A (execs body env) K E s₂ else Z s₂) E { s with heap := h₁, toks := tk₁ })
    (done : ∀ m₂ nx₂ h' tk, J' m₂ nx₂ → Fr h₀ L h' m₂ → News h₀ L h' nx₂ → Q .next { s with heap := h', toks := tk })
    (hE : PassesOwn (model prog w) A env E := by passes_own) :
    wpAny (model prog w) A (exec (.While test body [] pos) env) Q E s :=
  while_inv (fun _ => J) n₀ F N hJ (fun n m₁ nx h₁ tk₁ a b c => turn n m₁ nx h₁ tk₁ _ _ a b c
    (fun f h' tk m₂ nx₂ n' hf F₂ N₂ hn hJ₂ => by
      rcases hf with rfl | rfl
      · exact ⟨h', tk, m₂, nx₂, n', rfl, F₂, N₂, hn, hJ₂⟩
      · exact ⟨h', tk, m₂, nx₂, n', rfl, F₂, N₂, hn, hJ₂⟩)
    (fun h' tk m₂ nx₂ F₂ N₂ hJ₂ => done m₂ nx₂ h' tk hJ₂ F₂ N₂) fun h' tk m₂ nx₂ F₂ N₂ hJ₂ => done m₂ nx₂ h' tk hJ₂ F₂ N₂) hE
end
theorem map4k {m : MapS} {a b c d : Str} {v u t r : Value} (h1 : m a = some v) (h2 : m b = some u) (h3 : m c = some t) (h4 : m d = some r) : m = fun y => if y = a then some v else if y = b then some u else if y = c then some t else if y = d then some r else m y := by
  funext y
  by_cases h : y = a
  · subst h; rw [if_pos rfl, h1]
  · rw [if_neg h]
    by_cases h : y = b
    · subst h; rw [if_pos rfl, h2]
    · rw [if_neg h]; exact congrFun (map2k h3 h4) y
theorem map3k {m : MapS} {a b c : Str} {v u t : Value} (h1 : m a = some v) (h2 : m b = some u) (h3 : m c = some t) : m = fun y => if y = a then some v else if y = b then some u else if y = c then some t else m y := by
  funext y
  by_cases h : y = a
  · subst h; rw [if_pos rfl, h1]
  · rw [if_neg h]; exact congrFun (map2k h2 h3) y
theorem lt_three {n : Nat} {a b c : Addr × Obj} (h : a.1 < n ∧ b.1 < n ∧ c.1 < n) : ∀ p ∈ [a, b, c], p.1 < n := ktn_ltOf (l := [a, b, c]) ⟨h.1, h.2.1, h.2.2, trivial⟩
theorem off_two {a b c : Addr} {o1 o2 : Obj} (h1 : a ≠ c) (h2 : b ≠ c) : ∀ p ∈ [(a, o1), (b, o2)], p.1 ≠ c := fun p hp => by
  rcases List.mem_cons.mp hp with rfl | hp
  · exact h1
  · rw [List.mem_singleton.mp hp]; exact h2
theorem off_kind {P a Kd : Addr} {o1 o2 : Obj} {rest : List (Addr × Obj)} (d2 : P ≠ Kd) (d3 : a ≠ Kd) (hd : ∀ p ∈ rest, p.1 ≠ P ∧ p.1 ≠ a ∧ p.1 ≠ Kd) : ∀ p ∈ (P, o1) :: (a, o2) :: rest, p.1 ≠ Kd := fun p hp => by
  rcases List.mem_cons.mp hp with rfl | hp
  · exact d2
  rcases List.mem_cons.mp hp with rfl | hp
  · exact d3
  · exact (hd p hp).2.2
theorem off_own {I K : Addr} {oI o : Obj} {l : List (Addr × Obj)} (h : ∀ p ∈ (K, o) :: l, p.1 ≠ I) : ∀ p ∈ [(I, oI)], p.1 ≠ K := fun p hp => by
  rw [List.mem_singleton.mp hp]; exact Ne.symm (h _ (.head _))
theorem off_own3 {I K : Addr} {oI o : Obj} {a b : Addr × Obj} {l : List (Addr × Obj)} (h : ∀ p ∈ a :: b :: (K, o) :: l, p.1 ≠ I) : ∀ p ∈ [(I, oI)], p.1 ≠ K := fun p hp => by
  rw [List.mem_singleton.mp hp]; exact Ne.symm (h _ (.tail _ (.tail _ (.head _))))
inductive MergeExpr : Prop
  | mk
section
variable {M : Model} {A : Around} {E : Value → Shared → Prop} {Q : Flow → Shared → Prop} {s : Shared} {env : Env} {body : List Stmt}
theorem hide2 (h : ∀ (K : Flow → Shared → Prop) (E' : Value → Shared → Prop), (∀ f s', Q f s' → K f s') → (∀ e s', E e s' → E' e s') → wpAny M A (execs body env) K E' s) : wpAny M A (execs body env) Q E s := h Q E (fun _ _ x => x) fun _ _ x => x
theorem hide2P (hP : PassesOwn M A env E) (h : ∀ (K : Flow → Shared → Prop) (E' : Value → Shared → Prop), (∀ f s', Q f s' → K f s') → (∀ e s', E e s' → E' e s') → PassesOwn M A env E' → wpAny M A (execs body env) K E' s) : wpAny M A (execs body env) Q E s := h Q E (fun _ _ x => x) (fun _ _ x => x) hP
end
theorem len_small (b : TB) {n m : Nat} (h : n + (b.len + 1) ≤ m) (hz : m ≤ 1000) : b.len ≤ 1000 := by (first | lia | omega)
theorem fr_six {h₀ h : Heap} {L : Addr} {m : MapS} {a b c d e f : Str} {i j k l : Int} {t1 t2 t3 t4 : Tok} {v u : Value} (F : Fr h₀ L h m) (h1 : m a = some (.int i t1)) (h2 : m b = some (.int j t2)) (h3 : m c = some (.int k t3)) (h4 : m d = some (.int l t4)) (h5 : m e = some v) (h6 : m f = some u) :
    ∃ (t1 t2 t3 t4 : Tok) (m' : MapS), Fr h₀ L h (fun y => if y = a then some (.int i t1) else if y = b then some (.int j t2) else if y = c then some (.int k t3) else if y = d then some (.int l t4) else if y = e then some v else if y = f then some u else m' y) := by
  refine ⟨t1, t2, t3, t4, m, ?_⟩
  have e0 : m = fun y => if y = a then some (.int i t1) else if y = b then some (.int j t2) else if y = c then some (.int k t3) else if y = d then some (.int l t4) else if y = e then some v else if y = f then some u else m y := by
    funext y
    by_cases q : y = a
    · subst q; rw [if_pos rfl, h1]
    · rw [if_neg q]
      by_cases q : y = b
      · subst q; rw [if_pos rfl, h2]
      · rw [if_neg q]; exact congrFun (map4k h3 h4 h5 h6) y
  rw [← e0]; exact F
theorem fr_at {h₀ h : Heap} {L a : Addr} {m : MapS} (_F : Fr h₀ L h m) (x : Str) (_h : m x = some (.ref a)) : ∃ P, P = a := ⟨a, rfl⟩
end
end Mine
namespace Mine
section
open PySem.Calls
section
variable {prog : Program} {w : World} {A : Around} {E : Value → Shared → Prop} {s : Shared} {base h g h₃ : Heap} {fs : List Env} {fobs led : List (Addr × Obj)} {L a e : Addr} {m mg mb : MapS} {K : Frag} {p : Program} {loose : List Str}
  {name : Str} {scope : Scope} {cd c : Value} {cls : String} {S : List Addr} {t : Expr} {b₀ : Stmt} {suite : List Stmt} {pos : Pos} {rest : List ExceptHandler} {Q : Flow → Shared → Prop}
theorem catch_hitE {env : Env} {tb : Bool} (B : Below A base fs h) (G : Gnd base fs h g fobs) (F : Fr g L h₃ m) (N : News g L h₃ (led ++ fobs)) (hled : ∀ q ∈ led, q.1 ∉ fs.filterMap (·.frame)) (hf : env.frame = some L) (hk : env.scope.kind = .function)
    (x : Exc S h₃ s.heap e (.type cls) c tb) (hS : ∀ b ∈ S, b ∈ L :: fs.filterMap (·.frame)) (hT : ∀ (A : Around) (E : Value → Shared → Prop) (Q : Bool → Shared → Prop) (s : Shared) (m : MapS), Fr g L s.heap m → Looks (model prog w) s.heap (typeOf (.ref e)) (.type cls) → (∀ h', Kp s.heap h' → Q true { s with heap := h' }) → wpAny (model prog w) A (eval t env) (fun c s₁ => wpAny (model prog w) A (excMatches (.ref e) c) Q E s₁) E s)
    (cont : ∀ h₈ oe T oT fobs', Gnd base fs h g fobs' → Fr g L h₈ m → News g L h₈ ((e, oe) :: (T, oT) :: (led ++ fobs')) → ExcOb e T oe oT (.type cls) c →
      wpAny (model prog w) ((A.deeper env).mark (some (.ref e))) (execs (b₀ :: suite) env) Q (notedBy (model prog w) ((A.deeper env).mark (some (.ref e))) env (cameBackBy (model prog w) (A.deeper env) env E)) { s with heap := h₈ }) :
    wpAny (model prog w) (A.deeper env) (noteFrame (.ref e) env) (fun _ s₂ => wpAny (model prog w) (A.deeper env) (setFlight (.ref e) none) (fun _ s₃ => wpAny (model prog w) (A.deeper env) (handleBy (.ref e) env (.ExceptHandler (some t) none (b₀ :: suite) pos :: rest)) Q E s₃) E s₂) E s := by
  have kf : ∀ p ∈ fobs, h₃.get? p.1 = some p.2 := fun p hp => (N p (List.mem_append_right _ hp)).1
  have B3 := G.below B F kf (env := env) hf hk
  have e2 : (env :: fs).filterMap (·.frame) = L :: fs.filterMap (·.frame) := by rw [List.filterMap_cons, hf]
  refine note_ok B3.stack hf B3.frames (fun b hb => hb) (x.mono fun b hb => by rw [e2]; exact hS b hb) fun h6 x6 => ?_
  refine flight_none (s := { s with heap := h6 }) x6 fun h7 x7 => ?_
  have hid : ∀ b ∈ (env :: fs).filterMap (·.frame), g.get? b = none := fun b hb => by
    rw [e2] at hb
    rcases List.mem_cons.mp hb with q | q
    · rw [q]; exact fr_none F
    · exact G.hid b q
  have F7 := x7.kf.fr F hid
  have ty7 : Looks (model prog w) h7 (typeOf (.ref e)) (.type cls) := by
    obtain ⟨oe, vs, a1, a2, _⟩ := x7.ob
    rw [← a2]
    exact (Looks.ld a1).andThen .now
  refine wpAny_handleBy_cons (codeAny_handlers_test (hT _ _ _ { s with heap := h7 } m F7 ty7 fun h8 k8 => ?_)) (by intro q; cases q)
  have x8 := x7.later k8
  refine codeAny_handlers_suite (flight_none (s := { s with heap := h8 }) x8 fun h9 x9 => ?_)
  obtain ⟨fobs', G', kf'⟩ := G.turn kf x9.kf
  obtain ⟨oe, vs, a1, a2, a3, a4, a5, a6⟩ := x9.ob
  rcases a6 with ⟨q, _⟩ | ⟨_, T', oT, ts, b1, b2, b3, b4, b5, b6⟩
  · cases q
  · have F9 := x9.kf.fr F hid
    have gone : ∀ b, h₃.get? b = none → b ≠ L ∧ g.get? b = none := by
      intro b hb
      refine ⟨?_, ?_⟩
      · intro q
        obtain ⟨oL, _, _, hL, _⟩ := F.ns
        rw [q, hL] at hb
        cases hb
      · cases q : g.get? b with
        | none => rfl
        | some o => have := F.keep _ _ q; rw [hb] at this; cases this
    refine cont h9 oe T' oT fobs' G' F9 (fun q hq => ?_) ⟨vs, ts, a2, a3, a4, a5, b1, b2, b5, b6⟩
    rcases List.mem_cons.mp hq with rfl | hq
    · exact ⟨a1, gone _ x9.new⟩
    · rcases List.mem_cons.mp hq with rfl | hq
      · exact ⟨b4, gone _ b3⟩
      · rcases List.mem_append.mp hq with hq | hq
        · have hN := N q (List.mem_append_left _ hq)
          refine ⟨x9.kf.get hN.1 fun hm => ?_, hN.2⟩
          rw [e2] at hm
          rcases List.mem_cons.mp hm with z | z
          · exact hN.2.1 z
          · exact hled q hq z
        · obtain ⟨w1, w2, w3⟩ := G'.fob q hq
          exact ⟨kf' q hq, Nat.ne_of_lt (Nat.lt_of_lt_of_le w3 (by rw [← G'.size]; exact F.above)), w1⟩
end
end
end Mine
namespace Mine
section
open PySem.Calls
theorem pick_from {l : List Value} {x : Int} (h : 0 ≤ x) : kms_pick l (some x) none = l.drop x.toNat := by
  have e : ¬ x < 0 := by (first | lia | omega)
  simp only [kms_pick, kms_lo, kms_hi, if_neg e]
  by_cases q : x.toNat ≤ l.length
  · rw [Nat.min_eq_left q, List.take_of_length_le (by simp)]
  · rw [Nat.min_eq_right (by (first | lia | omega)), List.drop_of_length_le (Nat.le_refl _), List.drop_of_length_le (by (first | lia | omega))]; simp
theorem pick_upto {l : List Value} {y : Int} (h : 0 ≤ y) : kms_pick l none (some y) = l.take y.toNat := by
  have e : ¬ y < 0 := by (first | lia | omega)
  simp only [kms_pick, kms_lo, kms_hi, if_neg e, List.drop_zero, Nat.sub_zero]
  by_cases q : y.toNat ≤ l.length
  · rw [Nat.min_eq_left q]
  · rw [Nat.min_eq_right (by (first | lia | omega)), List.take_of_length_le (Nat.le_refl _), List.take_of_length_le (by (first | lia | omega))]
section
variable {prog : Program} {w : World} {A : Around} {E : Value → Shared → Prop} {s : Shared} {h₀ : Heap} {L l : Addr} {m : Str → Option Value} {news : List (Addr × Obj)} {value slice : PySem.Expr} {vs : List Value} {vl vu : Value} {lo hi : Option Int} {Q : Value → Shared → Prop}
theorem slice_any (F : Fr h₀ L s.heap m) (N : News h₀ L s.heap news) (hl : s.heap.IsList l vs.toArray) (pl : IsPart vl lo) (pu : IsPart vu hi)
    (h : ∀ D h', Fr h₀ L h' m → News h₀ L h' ((D, listOf (kms_pick vs lo hi).toArray 0) :: news) → (∀ p ∈ news, p.1 < D) → Q (.ref D) { s with heap := h' })
    (hs : subscripted slice false (.ref l) (.ref s.heap.objs.size) = operate [.ref s.heap.objs.size, .ref l] (getItem (.ref l) (.ref s.heap.objs.size))) (ht : ∀ r, letTemporaryGo value (.ref l) r = pure ()) (hz : vs.length ≤ sizeLine) :
    wpAny (model prog w) A (subscriptTail value slice (.ref l) (.ref s.heap.objs.size)) Q E { s with heap := s.heap.push { cls := .type "slice", data := .fields #[vl, vu, .none] } } :=
  kms_slice_lit F N hl pl pu rfl h hs ht (by rw [List.size_toArray]; exact hz)
end
end
end Mine
namespace Mine
section
open PySem.Calls
noncomputable abbrev cpl (x : Str) : List Nat := x.cps.toList
theorem cpl_app (x y : Str) : cpl (x ++ y) = cpl x ++ cpl y := by simp [cpl, Str.cps_append]
theorem cpl_len (x : Str) : (cpl x).length = x.length := by simp [cpl, Str.length]
theorem cpl_inj {x y : Str} (h : cpl x = cpl y) : x = y := by
  cases x; cases y; simp [cpl] at h; rw [h]
theorem sl_eq : sl = ⟨#[47]⟩ := by decide
theorem starts_sl (b : Str) : Txt.startswith b sl = ((cpl b).head? == some 47) := by
  obtain ⟨⟨l⟩⟩ := b
  rw [sl_eq]
  cases l with
  | nil => decide
  | cons c r =>
    simp [Txt.startswith, Str.length, Builtin.Str.subAt, cpl]
end
end Mine
namespace Mine
section
open PySem.Calls
theorem str_beq (x y : Str) : (x == y) = (cpl x == cpl y) := by
  rw [Bool.eq_iff_iff, beq_iff_eq, beq_iff_eq]
  exact ⟨fun h => by rw [h], cpl_inj⟩
end
end Mine
namespace Mine
section
open PySem.Calls
section
variable {prog : Program} {w : World} {A : Around} {s : Shared} {K : Frag} {mg mb : Str → Option Value} {p : Program} {loose : List Str} {mean : ExcName → Option Value}
theorem enterC {R : Result → Shared → Prop} {name qual : Str} {params : Arguments} {body : List Stmt} {scope : Scope} {dV kV doc pm cdv ct oc : Value} {an od : Option Addr} {osl : Array (Option Value)} {f : Addr} {args : Args} {binds : List (Str × Value)}
    (X : K.In s.heap) (T : Top p loose mean mg mb s.heap) (hroom : A.depth < recursionLimit)
    (ho : K.lookup f = some ⟨oc, od, .func (fnOf name qual params body scope dV kV doc pm an cdv ct), osl⟩) (hcd : codeIn K cdv qual = true)
    (hbind : BindsTo s (fnOf name qual params body scope dV kV doc pm an cdv ct) args binds)
    (hkind : ∀ n, ∀ x ∈ binds, scope.names.lookup x.1 = some .local ∨ (scope.names.lookup x.1 = some .cell ∧ ((cellsFrom n scope.names []).lookup x.1).isSome = true))
    (hnd : ((cellsFrom 0 scope.names []).map (·.1)).Nodup)
    (h : ∀ L h₁ tk cells, Fr s.heap L h₁ (bindL (envOfC qual scope L f cdv).kindOf binds fun _ => none) → News s.heap L h₁ cells →
      CellsAre (bindC (envOfC qual scope L f cdv).kindOf binds fun _ => none) (cellsFrom (L + 1) scope.names []) cells →
      wpAny (model prog w) (A.deeper (envOfC qual scope L f cdv)) (execs body (envOfC qual scope L f cdv))
        (fun fl s' => R (.ok (.ret (match fl with | .ret v => v | _ => .none))) s')
        (fun e s' => wpAny (model prog w) (A.deeper (envOfC qual scope L f cdv)) (leaving (envOfC qual scope L f cdv) e) (fun _ s'' => R (.error e) s'') (fun e' s'' => R (.error e') s'') s')
        { s with heap := h₁, toks := tk })
    (hco : scope.isCoroutine = false) (hgen : scope.isGenerator = false) (hk : scope.kind = .function) :
    codeAny (model prog w) A (.call (.ref f) args) R s := by
  refine codeAny_call_function (fd := fnOf name qual params body scope dV kV doc pm an cdv ct) (body := body) hroom (X _ _ ho) rfl hco hgen rfl (codeRec_of X hcd) (hbind _ _ _ _ ?_)
  refine wpAny_newFunctionEnv_cells hk (hkind _) fun env' he s' x => ?_
  subst he
  refine ⟨T.nolimit.keeps x.toInCall.keep, codeAny_func ?_⟩
  obtain ⟨h₁, tk, rfl, _⟩ := x.done
  have hk₁ := x.toInCall.keep
  obtain ⟨cells, NC, Y⟩ := Cl.news (h₀ := s.heap) (Nat.le_refl _) fun n c hm => ⟨x.cell n c (lookup_of_mem_nodup (cellsFrom_names scope.names 0 (s.heap.objs.size + 1) [] [] rfl ▸ hnd) hm), x.above n c hm⟩
  exact h s.heap.objs.size h₁ tk cells ⟨x.toInCall.ns, hk₁, Nat.le_refl _⟩ NC Y
end
section
variable {prog : Program} {w : World} {A : Around} {E : Value → Shared → Prop} {s : Shared} {h₀ : Heap} {L a : Addr} {m : MapS} {news : List (Addr × Obj)}
end
end
end Mine
namespace Mine
section
open PySem.Calls
noncomputable def rowsP (ds : List (List Int)) : PyData := .list (ds.map fun d => PyData.list (d.map PyData.int))
theorem rowsP_lay (ds : List (List Int)) : (rowsP ds).canLay0 = true ∧ (rowsP ds).depth ≤ 2 := by
  have h : ∀ ds : List (List Int), PyData.canLayAll0 (ds.map fun d => PyData.list (d.map PyData.int)) = true ∧ PyData.depthAll (ds.map fun d => PyData.list (d.map PyData.int)) ≤ 1 := fun ds => by
    induction ds with
    | nil => simp [PyData.canLayAll0, PyData.depthAll]
    | cons d r ih =>
      have h1 := ih.1
      have h2 := ih.2
      simp only [List.map_cons, PyData.canLayAll0, PyData.depthAll, PyData.canLay0, PyData.depth, ke_canLayAll0, ke_depthAll, h1, Bool.and_self, true_and]
      (first | lia | omega)
  have h1 := (h ds).1
  have h2 := (h ds).2
  simp only [rowsP, PyData.canLay0, PyData.depth, h1, true_and]
  (first | lia | omega)
theorem reads_rows {h : Heap} : ∀ {vs : List Value} {ds : List (List Int)}, Al (fun v d => ∃ b us, v = .ref b ∧ h.IsList b us.toArray ∧ IntsAre us d) vs ds → ∃ as, ReadsAll h vs (ds.map fun d => PyData.list (d.map PyData.int)) as
  | [], [], _ => ⟨_, .nil⟩
  | _, d :: ds, r => by
    obtain ⟨v, vr, rfl, ⟨b, us, rfl, hl, hi⟩, r'⟩ := al_head r
    obtain ⟨as, q⟩ := reads_rows r'
    exact ⟨_, .cons (reads_newData hl (ke_carried hi)) q⟩
  | v :: vs, [], r => by have := r.1; simp at this
section
variable {prog : Program} {w : World} {A : Around} {E : Value → Shared → Prop} {s : Shared} {h₀ : Heap} {L a b : Addr} {news : List (Addr × Obj)} {xs ys : List Value} {ka kb : Nat} {ds : List (List Int)} {Q : Value → Shared → Prop}
theorem rows_at (N : News h₀ L s.heap news) (r : Rows news xs ds) : Al (fun v d => ∃ b us, v = .ref b ∧ s.heap.IsList b us.toArray ∧ IntsAre us d) xs ds :=
  r.mono fun v d _ ⟨b, c, us, e, hm, hi⟩ => ⟨b, us, e, ⟨_, (N _ hm).1, rfl, c, rfl⟩, hi⟩
end
end
end Mine
namespace Mine
section
open PySem.Calls
section
variable {α : Type} [DecidableEq α]
noncomputable def spl1 (a : α) : List (List α) → List (List α)
  | [] => [[a]]
  | p :: r => (a :: p) :: r
noncomputable def spl (c : α) : List α → List (List α)
  | [] => [[]]
  | a :: l => if a = c then [] :: spl c l else spl1 a (spl c l)
theorem spl_cons (c a : α) (l : List α) : spl c (a :: l) = if a = c then [] :: spl c l else spl1 a (spl c l) := rfl
theorem spl_ne (c : α) (l : List α) : spl c l ≠ [] := by
  cases l with
  | nil => exact List.cons_ne_nil _ _
  | cons a l =>
    rw [spl_cons]
    by_cases h : a = c
    · rw [if_pos h]; exact List.cons_ne_nil _ _
    · rw [if_neg h]
      cases spl c l <;> exact List.cons_ne_nil _ _
noncomputable def ijoin (c : α) : List (List α) → List α
  | [] => []
  | [p] => p
  | p :: q :: r => p ++ c :: ijoin c (q :: r)
theorem spl_app (c : α) (p l : List α) (h : c ∉ p) : spl c (p ++ c :: l) = p :: spl c l := by
  induction p with
  | nil => exact if_pos rfl
  | cons a p ih =>
    have ha : a ≠ c := fun q => h (q ▸ .head _)
    rw [List.cons_append, spl_cons, if_neg ha, ih fun q => h (.tail _ q)]; rfl
theorem spl_free (c : α) (p : List α) (h : c ∉ p) : spl c p = [p] := by
  induction p with
  | nil => rfl
  | cons a p ih =>
    have ha : a ≠ c := fun q => h (q ▸ .head _)
    rw [spl_cons, if_neg ha, ih fun q => h (.tail _ q)]; rfl
theorem spl_ijoin (c : α) : ∀ ps : List (List α), ps ≠ [] → (∀ p ∈ ps, c ∉ p) → spl c (ijoin c ps) = ps
  | [], h, _ => absurd rfl h
  | [p], _, h => spl_free c p (h p (.head _))
  | p :: q :: r, _, h => by
    show spl c (p ++ c :: ijoin c (q :: r)) = _
    rw [spl_app c p _ (h p (.head _)), spl_ijoin c (q :: r) (List.cons_ne_nil _ _) fun x hx => h x (.tail _ hx)]
theorem spl_split (c : α) (u v : List α) : spl c (u ++ c :: v) = spl c u ++ spl c v := by
  induction u with
  | nil => exact if_pos rfl
  | cons a u ih =>
    rw [List.cons_append, spl_cons, spl_cons, ih]
    by_cases ha : a = c
    · rw [if_pos ha, if_pos ha]; rfl
    · rw [if_neg ha, if_neg ha]
      cases hu : spl c u with
      | nil => exact absurd hu (spl_ne c u)
      | cons p r => rfl
end
noncomputable abbrev ch (c : Nat) : Str := ⟨#[c]⟩
theorem cpl_join (c : Nat) : ∀ ps : List Str, cpl (Str.join (ch c) ps) = ijoin c (ps.map cpl)
  | [] => rfl
  | [p] => rfl
  | p :: q :: r => by
    show cpl (p ++ ch c ++ Str.join (ch c) (q :: r)) = cpl p ++ c :: ijoin c (cpl q :: r.map cpl)
    rw [cpl_app, cpl_app, cpl_join c (q :: r), List.append_assoc]
    rfl
theorem cpl_split (x : Str) (c : Nat) : (Txt.split x (ch c)).map cpl = spl c (cpl x) := by
  have h1 := StrLaws.join_split x (ch c)
  have h2 := StrLaws.split_free x c
  have h3 : (Txt.split x (ch c)).map cpl ≠ [] := by
    intro q
    have : Txt.split x (ch c) = [] := by simpa using q
    unfold Txt.split at this
    split at this
    · cases this
    · split at this
      · cases this
      · rw [StrLaws.partsBetween_eq] at this
        obtain ⟨p, r, e⟩ := StrLaws.partsFrom_ne x (ch c).length 0 (PySem.Builtin.Str.occurrences x (ch c) 0 x.length (x.length + 1))
        rw [e] at this; cases this
  rw [← spl_ijoin c _ h3 (fun p hp => ?_), ← cpl_join, h1]
  obtain ⟨q, hq, rfl⟩ := List.mem_map.mp hp
  exact h2 q hq
theorem spl_len {α : Type} [DecidableEq α] (c : α) : ∀ l : List α, (spl c l).length ≤ l.length + 1
  | [] => Nat.le_refl _
  | a :: l => by
    have ih := spl_len c l
    rw [spl_cons]
    by_cases h : a = c
    · rw [if_pos h]; exact Nat.succ_le_succ ih
    · rw [if_neg h]
      cases hs : spl c l with
      | nil => exact Nat.succ_le_succ (Nat.zero_le _)
      | cons p r => rw [hs] at ih; exact Nat.le_succ_of_le ih
theorem spl_mem_len {α : Type} [DecidableEq α] {c : α} : ∀ {l p : List α}, p ∈ spl c l → p.length ≤ l.length
  | [], p, h => by
    rw [List.mem_singleton.mp h]; exact Nat.le_refl _
  | a :: r, p, h => by
    rw [spl_cons] at h
    by_cases hac : a = c
    · rw [if_pos hac] at h
      rcases List.mem_cons.mp h with rfl | h
      · exact Nat.zero_le _
      · exact Nat.le_succ_of_le (spl_mem_len h)
    · rw [if_neg hac] at h
      cases hs : spl c r with
      | nil => exact absurd hs (spl_ne c r)
      | cons q qr =>
        rw [hs] at h
        rcases List.mem_cons.mp h with rfl | h
        · exact Nat.succ_le_succ (spl_mem_len (c := c) (by rw [hs]; exact .head _))
        · exact Nat.le_succ_of_le (spl_mem_len (c := c) (by rw [hs]; exact .tail _ h))
end
end Mine
namespace Mine
section
open PySem.Calls

end
end Mine
namespace Mine
section
open PySem.Calls

end
end Mine
namespace Mine
section
open PySem.Calls
section
open Builtin
end
section
variable {prog : Program} {w : World} {A : Around} {E : Value → Shared → Prop} {s : Shared} {t u : Tok} {b : Array UInt8} {c : UInt8} {Q : Value → Shared → Prop}
end
noncomputable def nats (P : Array UInt8) : List Nat := P.toList.map UInt8.toNat
theorem nats_len (P : Array UInt8) : (nats P).length = P.size := by simp [nats]
theorem nat_inj (a b : UInt8) (h : a.toNat = b.toNat) : a = b := UInt8.toNat_inj.mp h
theorem nats_inj {P R : Array UInt8} (h : nats P = nats R) : P = R := by
  unfold nats at h
  have : P.toList = R.toList := by
    have hm : Function.Injective UInt8.toNat := fun a b e => nat_inj a b e
    exact (List.map_inj_right fun x y e => nat_inj x y e).mp h
  rw [← Array.toArray_toList (xs := P), ← Array.toArray_toList (xs := R), this]
section
variable {prog : Program} {w : World} {A : Around} {E : Value → Shared → Prop} {s : Shared} {value slice : PySem.Expr} {b : Array UInt8} {t : Tok} {h₀ : Heap} {L : Addr} {m : Str → Option Value} {news : List (Addr × Obj)} {l u : Value} {lo hi : Option Int} {Q : Value → Shared → Prop}
end
end
end Mine
namespace Mine
section
open PySem.Calls
open PySem.SeqAt
noncomputable def VC : Bool → Value → List Nat → Prop
  | false, v, l => ∃ x t, v = .str x t ∧ cpl x = l
  | true, v, l => ∃ P t, v = .bytes P t ∧ nats P = l
theorem eqat_bytes {A : Around} {s : Shared} {b : Array UInt8} {t u : Tok} : EqAt A s (.bytes b t) (.bytes b u) true := fun prog w E Q h => by
  unfold eqBool
  refine wpAny_holding ?_
  refine wpAny_ite_split (fun _ => wpAny_bind (wpAny_rule (wpAny_pure h))) (fun _ => ?_)
  have z : wpAny (model prog w) A (richCompare .Eq (.bytes b t) (.bytes b u)) (fun v s' => wpAny (model prog w) A (truthOfDropped v) Q E s') E s :=
    PySem.W.eq_bytes (by rw [beq_self_eq_true]; exact wpAny_truthy_bool h)
  exact wpAny_bind z
section
variable {prog : Program} {w : World} {A : Around} {E : Value → Shared → Prop} {s : Shared} {h₀ : Heap} {L a b : Addr} {news : List (Addr × Obj)} {xs ys : List Value} {ka kb : Nat} {ds : List (List Nat)} {Q : Value → Shared → Prop} {oct : Bool}
end
section
variable {prog : Program} {w : World} {A : Around} {E : Value → Shared → Prop} {s : Shared} {h₀ : Heap} {L a b : Addr} {news : List (Addr × Obj)} {xs : List Value} {ka kb : Nat} {Q : Value → Shared → Prop}
end
end
end Mine
namespace Mine
section
open PySem.Calls
section
variable {α : Type} [DecidableEq α]
theorem spl_snoc_eq (c : α) (u : List α) : spl c (u ++ [c]) = spl c u ++ [[]] := spl_split c u []
theorem spl_snoc_ne (c : α) {a : α} (ha : a ≠ c) : ∀ {u : List α} {ps : List (List α)} {q : List α}, spl c u = ps ++ [q] → spl c (u ++ [a]) = ps ++ [q ++ [a]]
  | [], ps, q, h => by
    have h1 : ps = [] ∧ q = [] := by
      have : ([[]] : List (List α)) = ps ++ [q] := h
      cases ps with
      | nil => exact ⟨rfl, by simpa using this.symm⟩
      | cons x y => have := congrArg List.length this; simp at this
    obtain ⟨rfl, rfl⟩ := h1
    show spl c [a] = [[a]]
    rw [spl_cons, if_neg ha]; rfl
  | b :: u, ps, q, h => by
    rw [List.cons_append, spl_cons]
    rw [spl_cons] at h
    by_cases hb : b = c
    · rw [if_pos hb] at h ⊢
      cases ps with
      | nil =>
        have e := congrArg List.length h
        exact absurd (by simpa using e) (spl_ne c u)
      | cons p pr =>
        have e1 : p = [] := (List.cons.inj h).1.symm
        have e2 : spl c u = pr ++ [q] := (List.cons.inj h).2
        rw [spl_snoc_ne c ha e2, e1]; rfl
    · rw [if_neg hb] at h ⊢
      cases hu : spl c u with
      | nil => exact absurd hu (spl_ne c u)
      | cons p r =>
        rw [hu] at h
        have h : (b :: p) :: r = ps ++ [q] := h
        cases ps with
        | nil =>
          obtain ⟨e1, e2⟩ := List.cons.inj h
          rw [spl_snoc_ne c ha (ps := []) (q := p) (by rw [hu, e2]; rfl)]
          rw [← e1]; rfl
        | cons x xs =>
          obtain ⟨e1, e2⟩ := List.cons.inj h
          rw [spl_snoc_ne c ha (ps := p :: xs) (q := q) (by rw [hu, e2]; rfl)]
          rw [← e1]; rfl
end
open Builtin in
noncomputable def ostep (c : UInt8) (b : Array UInt8) (acc : List Nat × Nat) (i : Nat) : List Nat × Nat := if i ≥ acc.2 && b.extract i (i + 1) == #[c] then (i :: acc.1, i + 1) else acc
noncomputable def bstep (b : Array UInt8) (st : Array (Array UInt8) × Nat) (p : Nat) : Array (Array UInt8) × Nat := (st.1.push (b.extract st.2 p), p + 1)
theorem key_ext (l : List UInt8) (c : UInt8) (i : Nat) : (l.toArray.extract i (i + 1) == #[c]) = (l[i]? == some c) := by
  rw [Bool.eq_iff_iff, beq_iff_eq, beq_iff_eq]
  simp only [List.extract_toArray]
  constructor
  · intro h
    have h := congrArg Array.toList h
    have h := congrArg List.head? h
    rw [List.extract] at h
    simp only [Nat.add_sub_cancel_left, List.head?_take, List.head?_drop] at h
    simpa using h
  · intro h
    obtain ⟨h1, h2⟩ := List.getElem?_eq_some_iff.mp h
    simp [List.extract]
    rw [List.drop_eq_getElem_cons h1, h2]; simp
theorem ext_list (l : List UInt8) (i j : Nat) : (l.toArray.extract i j).toList = (l.drop i).take (j - i) := by simp [List.extract]
theorem occ_inv (c : UInt8) (l : List UInt8) : ∀ n, n ≤ l.length →
    let st := (List.range n).foldl (ostep c l.toArray) ([], 0)
    let bt := st.1.reverse.foldl (bstep l.toArray) (#[], 0)
    bt.2 = st.2 ∧ st.2 ≤ n ∧ spl c (l.take n) = bt.1.toList.map Array.toList ++ [(l.take n).drop st.2] ∧ (st.1 = [] → bt.1 = #[] ∧ st.2 = 0)
  | 0, _ => ⟨rfl, Nat.le_refl _, rfl, fun _ => ⟨rfl, rfl⟩⟩
  | n + 1, h => by
    obtain ⟨h1, h2, h3, h4⟩ := occ_inv c l n (by (first | lia | omega))
    have hn : n < l.length := by (first | lia | omega)
    rw [List.range_succ, List.foldl_append]
    simp only [List.foldl_cons, List.foldl_nil]
    generalize (List.range n).foldl (ostep c l.toArray) ([], 0) = st at h1 h2 h3 h4 ⊢
    have ht : l.take (n + 1) = l.take n ++ [l[n]] := by rw [List.take_add_one, List.getElem?_eq_getElem hn]; rfl
    unfold ostep
    rw [key_ext]
    by_cases hc : l[n] = c
    · rw [if_pos (by rw [List.getElem?_eq_getElem hn, hc]; simp [h2])]
      simp only [List.reverse_cons, List.foldl_append, List.foldl_cons, List.foldl_nil]
      generalize st.1.reverse.foldl (bstep l.toArray) (#[], 0) = bt at h1 h3 h4 ⊢
      refine ⟨rfl, Nat.le_refl _, ?_, fun q => (nomatch q)⟩
      rw [ht, hc, spl_snoc_eq, h3]
      unfold bstep
      simp only [Array.toList_push, List.map_append, List.map_cons, List.map_nil]
      rw [ext_list, h1]
      have e1 : List.drop (n + 1) (List.take n l ++ [c]) = [] := by apply List.drop_of_length_le; simp; (first | lia | omega)
      have e2 : List.drop st.2 (List.take n l) = List.take (n - st.2) (List.drop st.2 l) := by rw [List.drop_take]
      rw [e1, e2]
    · rw [if_neg (by rw [List.getElem?_eq_getElem hn]; simp [hc])]
      refine ⟨h1, by (first | lia | omega), ?_, h4⟩
      rw [ht, spl_snoc_ne c hc h3]
      congr 2
      rw [List.drop_append_of_le_length (by simp; (first | lia | omega))]
theorem occ_len (c : UInt8) (b : Array UInt8) : ∀ n, ((List.range n).foldl (ostep c b) ([], 0)).1.length ≤ n
  | 0 => by simp
  | n + 1 => by
    have ih := occ_len c b n
    rw [List.range_succ, List.foldl_append]
    simp only [List.foldl_cons, List.foldl_nil]
    generalize (List.range n).foldl (ostep c b) ([], 0) = st at ih ⊢
    unfold ostep
    split
    · simp; (first | lia | omega)
    · (first | lia | omega)
theorem occ_eq (c : UInt8) (l : List UInt8) : Builtin.Bytes.occurrences l.toArray #[c] 0 l.length = ((List.range l.length).foldl (ostep c l.toArray) ([], 0)).1.reverse := by
  unfold Builtin.Bytes.occurrences
  simp only [Nat.add_zero, List.map_id']
  rw [show l.length + 1 - (0 + (#[c] : Array UInt8).size) = l.length from by show l.length + 1 - (0 + 1) = _; (first | lia | omega)]
  rfl
theorem bsplit_eq (c : UInt8) (l : List UInt8) : (Builtin.Bytes.between l.toArray 1 (Builtin.Bytes.occurrences l.toArray #[c] 0 l.length)).map Array.toList = spl c l ∧ (Builtin.Bytes.occurrences l.toArray #[c] 0 l.length = [] → spl c l = [l]) := by
  obtain ⟨h1, h2, h3, h4⟩ := occ_inv c l l.length (Nat.le_refl _)
  have e1 := occ_eq c l
  rw [List.take_length] at h3
  constructor
  · rw [e1]
    unfold Builtin.Bytes.between
    show ((((List.foldl (bstep l.toArray) (#[], 0) _).1.push (l.toArray.extract (List.foldl (bstep l.toArray) (#[], 0) _).2 l.toArray.size)).toList)).map Array.toList = _
    rw [h3, h1, Array.toList_push, List.map_append, List.map_singleton, ext_list]
    congr 2
    exact List.take_of_length_le (by simp)
  · intro q
    rw [e1] at q
    have q1 := List.reverse_eq_nil_iff.mp q
    obtain ⟨b1, b2⟩ := h4 q1
    rw [h3, b2, q1]; rfl
theorem sl_bsplit : Slot "bytes" "split" "bytes.split" :=
  .of (owner := "bytes") (n := "split") (by rw [typeLookup_type, builtinLookup_eq_fast]; kernel_rfl) (by decide +kernel) (by decide +kernel) (by decide +kernel)
    (by first | exact .inl (by decide +kernel) | exact .inr (by decide +kernel)) (by rw [isSubtype_type]; kernel_rfl)
theorem ty_bsplit : typeOf (.builtin "bytes.split") = pure (.type "method_descriptor") := by show builtinType _ = _; rw [builtinType_eq_fast]; kernel_rfl
theorem en_bsplit : entryFor table "bytes.split" = some Builtin.«bytes.split» := entryFor_of_tree (by kernel_rfl)
theorem ar_bsplit (a b : Value) : argsOk "bytes.split" ⟨[a, b], []⟩ := by
  unfold argsOk; rw [signature?_of (id := "bytes.split") (n := ['t', 'i', 'l', 'p', 's']) (o := ['s', 'e', 't', 'y', 'b']) (by kernel_rfl) FB.owner_bytes]; kernel_rfl
section
open Builtin
variable {prog : Program} {w : World} {A : Around} {E : Value → Shared → Prop}
theorem mapM_new : ∀ (l : List (Array UInt8)) (s : Shared) (Q : List Value → Shared → Prop), (∀ x ∈ l, x.size ≤ sizeLine) → (∀ vs tk, Al RByt vs l → Q vs { s with toks := tk }) → wpAny (model prog w) A (l.mapM Bytes.Kind.bytes.new) Q E s
  | [], s, Q, _, h => by
    rw [List.mapM_nil]
    exact wpAny_pure (h [] s.toks ⟨rfl, fun i v q => by simp at q⟩)
  | x :: r, s, Q, hz, h => by
    rw [List.mapM_cons]
    refine wpAny_bind ?_
    unfold Bytes.Kind.new
    refine wpAny_mkBytes ?_ (hz x (.head _))
    refine wpAny_bind (mapM_new r _ _ (fun y hy => hz y (.tail _ hy)) fun vs tk hv => ?_)
    exact wpAny_pure (h _ tk (Al.cons ⟨_, rfl⟩ hv))
end
theorem bsplit_sz {c : UInt8} {b : Array UInt8} : (∀ x ∈ Builtin.Bytes.between b 1 (Builtin.Bytes.occurrences b #[c] 0 b.size), x.size ≤ b.size) ∧ (Builtin.Bytes.between b 1 (Builtin.Bytes.occurrences b #[c] 0 b.size)).length ≤ b.size + 1 := by
  obtain ⟨l⟩ := b
  have h := (bsplit_eq c l).1
  have h1 := fun p => spl_mem_len (c := c) (l := l) (p := p)
  have h2 := spl_len c l
  rw [← h] at h1 h2
  rw [List.length_map] at h2
  exact ⟨fun x hx => h1 x.toList (List.mem_map.mpr ⟨x, hx, rfl⟩), h2⟩
section
open Builtin
theorem meets_bsplit {b : Array UInt8} {c : UInt8} {t u : Tok} : Meets (Builtin.«bytes.split» ⟨[.bytes b t, .bytes #[c] u], []⟩) (fun _ R s => b.size ≤ 1000000 ∧ ∀ vs tk arrs, Al RByt vs arrs → arrs.map Array.toList = spl c b.toList → vs.length ≤ b.size + 1 → R (.ok (.ret (.ref s.heap.objs.size))) { s with heap := s.heap.push { cls := .type "list", data := .seq vs.toArray }, toks := tk }) := by
  intro prog w A R s ⟨hz, hs⟩
  have hT : s.TypeIs (.bytes #[c] u) "bytes" := rfl
  have hTb : s.TypeIs (.bytes b t) "bytes" := rfl
  have f2 : ∀ id x y, Bytes.buffer? id (.bytes x y) = pure (some x) := fun id x y => KBy.buffer_eq
  unfold Builtin.«bytes.split» Bytes.splitM
  repeat (any_goals (first | assumption | (rw [f2]) | (simp -iota only [List.headD_cons]) | wp_step))
  have e0 : List.take (if (-1 : Int) < 0 then b.size + 1 else (-1 : Int).toNat) (Bytes.occurrences b #[c] 0 b.size) = Bytes.occurrences b #[c] 0 b.size := by
    refine List.take_of_length_le ?_
    obtain ⟨l⟩ := b
    show (Bytes.occurrences l.toArray #[c] 0 l.length).length ≤ _
    rw [occ_eq, List.length_reverse]
    exact Nat.le_succ_of_le (occ_len c l.toArray l.length)
  simp -iota only [Bool.false_eq_true, if_false]
  rw [e0]
  obtain ⟨z1, z2⟩ := bsplit_sz (c := c) (b := b)
  obtain ⟨s1, s2⟩ := bsplit_eq c b.toList
  rw [Array.length_toList, Array.toArray_toList] at s1 s2
  split
  · rename_i he
    refine wpAny_bind (wpAny_rule ?_)
    unfold Bytes.Kind.same
    repeat (any_goals (first | assumption | wp_step))
    have := hs [.bytes b t] s.toks [b] (Al.cons ⟨t, rfl⟩ ⟨rfl, fun i v q => by simp at q⟩) (by rw [s2 (by simpa using he)]; rfl) (by simp)
    all_goals exact this
  · refine wpAny_bind (mapM_new _ _ _ (fun x hx => by have := z1 x hx; rw [sizeLine_eq]; (first | lia | omega)) fun vs tk hv => ?_)
    have hl : vs.length ≤ b.size + 1 := by rw [hv.1]; exact z2
    refine wpAny_bind (wpAny_newObj_type ?_ (by show vs.toArray.size ≤ sizeLine; rw [List.size_toArray, sizeLine_eq]; (first | lia | omega)))
    exact wpAny_pure (hs vs tk _ hv s1 hl)
section
variable {prog : Program} {w : World} {A : Around} {E : Value → Shared → Prop} {s : Shared} {t u : Tok} {b : Array UInt8} {c : UInt8} {Q : Value → Shared → Prop} {h₀ : Heap} {L : Addr} {m : MapS} {news : List (Addr × Obj)}
theorem by_split (F : Fr h₀ L s.heap m) (N : News h₀ L s.heap news) (hz : b.size ≤ 1000000)
    (h : ∀ D vs arrs h' tk, Al RByt vs arrs → arrs.map Array.toList = spl c b.toList → Fr h₀ L h' m → News h₀ L h' ((D, { cls := .type "list", data := .seq vs.toArray 0 }) :: news) → (∀ p ∈ news, p.1 < D) → vs.length ≤ b.size + 1 → Q (.ref D) { s with heap := h', toks := tk }) :
    wpAny (model prog w) A (call (.builtin "bytes.split") [.bytes b t, .bytes #[c] u]) Q E s :=
  call_meets sl_bsplit (typeIs_bytes _ _ _) en_bsplit (ar_bsplit _ _) meets_bsplit ⟨hz, fun vs tk arrs ha he hl => h _ vs arrs _ tk ha he (F.push _) (fun p hp => by
    rcases List.mem_cons.mp hp with rfl | hp
    · exact ⟨Heap.get?_push_size _ rfl, Ne.symm (Nat.ne_of_lt F.ns.lt), next_is_new F⟩
    · exact ⟨Heap.get?_push_of_some _ (N p hp).1, (N p hp).2⟩) (fun p hp => Heap.lt_size (N p hp).1) hl⟩
theorem by_split_m {M : Model} {pl : Sem Bool} {Q : Value × List Value → Shared → Prop} (h : Q (.builtin "bytes.split", [.bytes b t]) s) : wpAny M A (getMethod (.bytes b t) "split" pl) Q E s := by
  with_reducible exact KBd.method_of (.bytes b t) (typeIs_bytes _ _ _) sl_bsplit ty_bsplit KBd.noRef h
end
end
end
end Mine
namespace Mine
section
open PySem.Calls
noncomputable def lexlt {α : Type} [DecidableEq α] (lt : α → α → Bool) : List α → List α → Bool
  | [], [] => false
  | _ :: _, [] => false
  | [], _ :: _ => true
  | a :: l, b :: m => if a = b then lexlt lt l m else lt a b
theorem lexlt_cons {α : Type} [DecidableEq α] (lt : α → α → Bool) (a b : α) (l m : List α) : lexlt lt (a :: l) (b :: m) = if a = b then lexlt lt l m else lt a b := rfl
structure STO {α : Type} (lt : α → α → Bool) : Prop where
  irr : ∀ a, lt a a = false
  tr : ∀ a b c, lt a b = true → lt b c = true → lt a c = true
  tri : ∀ a b, a ≠ b → lt a b = true ∨ lt b a = true
section
variable {α : Type} [DecidableEq α] {lt : α → α → Bool}
theorem lex_irr (l : List α) : lexlt lt l l = false := by
  induction l with
  | nil => rfl
  | cons a l ih => rw [lexlt_cons, if_pos rfl, ih]
theorem lex_sto (h : STO lt) : STO (lexlt lt) where
  irr := lex_irr
  tr := by
    intro a
    induction a with
    | nil =>
      intro b c h1 h2
      cases c with
      | nil => cases b <;> cases h2
      | cons x y => rfl
    | cons x a ih =>
      intro b c h1 h2
      cases b with
      | nil => cases h1
      | cons y b =>
        cases c with
        | nil => cases h2
        | cons z c =>
          rw [lexlt_cons] at h1 h2 ⊢
          by_cases q1 : x = y
          · rw [if_pos q1] at h1
            subst q1
            by_cases q2 : x = z
            · rw [if_pos q2] at h2 ⊢; exact ih b c h1 h2
            · rw [if_neg q2] at h2 ⊢; exact h2
          · rw [if_neg q1] at h1
            by_cases q2 : y = z
            · rw [if_pos q2] at h2; subst q2; rw [if_neg q1]; exact h1
            · rw [if_neg q2] at h2
              have h3 := h.tr x y z h1 h2
              by_cases q3 : x = z
              · subst q3; rw [h.irr] at h3; cases h3
              · rw [if_neg q3]; exact h3
  tri := by
    intro a
    induction a with
    | nil => intro b hb; cases b with
      | nil => exact absurd rfl hb
      | cons y b => exact .inl rfl
    | cons x a ih =>
      intro b hb
      cases b with
      | nil => exact .inr rfl
      | cons y b =>
        rw [lexlt_cons, lexlt_cons]
        by_cases q : x = y
        · subst q
          rw [if_pos rfl, if_pos rfl]
          exact ih b fun e => hb (by rw [e])
        · rw [if_neg q, if_neg (Ne.symm q)]
          exact h.tri x y q
end
noncomputable def ltN (a b : Nat) : Bool := decide (a < b)
theorem stoN : STO ltN where
  irr := fun a => by simp [ltN]
  tr := fun a b c h1 h2 => by simp only [ltN, decide_eq_true_eq] at *; (first | lia | omega)
  tri := fun a b h => by simp only [ltN, decide_eq_true_eq]; (first | lia | omega)
noncomputable abbrev ltW : List Nat → List Nat → Bool := lexlt ltN
noncomputable abbrev ltP : List (List Nat) → List (List Nat) → Bool := lexlt ltW
theorem stoW : STO ltW := lex_sto stoN
theorem stoP : STO ltP := lex_sto stoW
theorem ltW_eq : ∀ l m : List Nat, decide (l < m) = ltW l m
  | [], [] => rfl
  | _ :: _, [] => rfl
  | [], _ :: _ => rfl
  | a :: l, b :: m => by
    have ih := ltW_eq l m
    have ih2 : (l < m) = (ltW l m = true) := by rw [← ih]; simp
    rw [ltW, lexlt_cons, Bool.eq_iff_iff, decide_eq_true_eq, List.cons_lt_cons_iff]
    by_cases q : a = b
    · rw [if_pos q]; subst q
      rw [ih2]; simp
    · rw [if_neg q]; unfold ltN; rw [decide_eq_true_eq]; simp [q]
theorem order_lt (l m : List UInt8) : (Builtin.Bytes.order l m == .lt) = ltW (l.map UInt8.toNat) (m.map UInt8.toNat) ∧ (Builtin.Bytes.order l m == .gt) = ltW (m.map UInt8.toNat) (l.map UInt8.toNat) := by
  induction l generalizing m with
  | nil => cases m <;> exact ⟨rfl, rfl⟩
  | cons x l ih =>
    cases m with
    | nil => exact ⟨rfl, rfl⟩
    | cons y m =>
      obtain ⟨i1, i2⟩ := ih m
      rw [List.map_cons, List.map_cons, ltW, lexlt_cons, lexlt_cons, Builtin.Bytes.order]
      by_cases h1 : x < y
      · have h2 : x.toNat < y.toNat := h1
        rw [if_pos h1, if_neg (by (first | lia | omega)), if_neg (by (first | lia | omega))]
        unfold ltN
        exact ⟨by simp [h2], by simp; (first | lia | omega)⟩
      · rw [if_neg h1]
        by_cases h3 : x > y
        · have h2 : y.toNat < x.toNat := h3
          rw [if_pos h3, if_neg (by (first | lia | omega)), if_neg (by (first | lia | omega))]
          unfold ltN
          exact ⟨by simp; (first | lia | omega), by simp [h2]⟩
        · have h4 : x.toNat = y.toNat := by
            have a1 : ¬ x.toNat < y.toNat := h1
            have a2 : ¬ y.toNat < x.toNat := h3
            (first | lia | omega)
          rw [if_neg h3, if_pos h4, if_pos h4.symm]
          exact ⟨i1, i2⟩
theorem sl_blt : Slot "bytes" (cmpInfo .Lt).2.1 "bytes.__lt__" :=
  .of (owner := "bytes") (n := "__lt__") (by rw [typeLookup_type, builtinLookup_eq_fast]; kernel_rfl) (by decide +kernel) (by decide +kernel) (by decide +kernel)
    (by first | exact .inl (by decide +kernel) | exact .inr (by decide +kernel)) (by rw [isSubtype_type]; kernel_rfl)
theorem en_blt : entryFor table "bytes.__lt__" = some Builtin.«bytes.__lt__» := entryFor_of_tree (by kernel_rfl)
theorem ar_blt (a b : Value) : argsOk "bytes.__lt__" ⟨[a, b], []⟩ := by
  unfold argsOk; rw [signature?_of (id := "bytes.__lt__") (n := ['_', '_', 't', 'l', '_', '_']) (o := ['s', 'e', 't', 'y', 'b']) (by kernel_rfl) FB.owner_bytes]; kernel_rfl
theorem sl_bgt : Slot "bytes" (cmpInfo .Gt).2.1 "bytes.__gt__" :=
  .of (owner := "bytes") (n := "__gt__") (by rw [typeLookup_type, builtinLookup_eq_fast]; kernel_rfl) (by decide +kernel) (by decide +kernel) (by decide +kernel)
    (by first | exact .inl (by decide +kernel) | exact .inr (by decide +kernel)) (by rw [isSubtype_type]; kernel_rfl)
theorem en_bgt : entryFor table "bytes.__gt__" = some Builtin.«bytes.__gt__» := entryFor_of_tree (by kernel_rfl)
theorem ar_bgt (a b : Value) : argsOk "bytes.__gt__" ⟨[a, b], []⟩ := by
  unfold argsOk; rw [signature?_of (id := "bytes.__gt__") (n := ['_', '_', 't', 'g', '_', '_']) (o := ['s', 'e', 't', 'y', 'b']) (by kernel_rfl) FB.owner_bytes]; kernel_rfl
theorem bytes_self : isSubtype (.type "bytes") (.type "bytes") = pure true := by rw [isSubtype_type]; kernel_rfl
section
open Builtin
theorem meets_blt {b c : Array UInt8} {t u : Tok} : Meets (Builtin.«bytes.__lt__» ⟨[.bytes b t, .bytes c u], []⟩) (fun _ R s => R (.ok (.ret (.bool (ltW (nats b) (nats c))))) s) := by
  intro prog w A R s hs
  have hT : s.TypeIs (.bytes c u) "bytes" := rfl
  have f1 := bytes_self
  rw [show ltW (nats b) (nats c) = (Bytes.order b.toList c.toList == .lt) from (order_lt b.toList c.toList).1.symm] at hs
  unfold Builtin.«bytes.__lt__»
  repeat (any_goals (first | assumption | wp_step))
  all_goals exact hs
theorem meets_bgt {b c : Array UInt8} {t u : Tok} : Meets (Builtin.«bytes.__gt__» ⟨[.bytes b t, .bytes c u], []⟩) (fun _ R s => R (.ok (.ret (.bool (ltW (nats c) (nats b))))) s) := by
  intro prog w A R s hs
  have hT : s.TypeIs (.bytes c u) "bytes" := rfl
  have f1 := bytes_self
  rw [show ltW (nats c) (nats b) = (Bytes.order b.toList c.toList == .gt) from (order_lt b.toList c.toList).2.symm] at hs
  unfold Builtin.«bytes.__gt__»
  repeat (any_goals (first | assumption | wp_step))
  all_goals exact hs
end
section
variable {prog : Program} {w : World} {A : Around} {E : Value → Shared → Prop} {s : Shared} {oct : Bool} {v v' : Value} {l l' : List Nat}
theorem rc_lt {Q : Value → Shared → Prop} (hv : VC oct v l) (hv' : VC oct v' l') (h : Q (.bool (ltW l l')) s) : wpAny (model prog w) A (richCompare .Lt v v') Q E s := by
  cases oct with
  | false =>
    obtain ⟨x, t, rfl, rfl⟩ := hv
    obtain ⟨y, u, rfl, rfl⟩ := hv'
    have := richCompare_gives (prog := prog) (w := w) (A := A) (E := E) (op := .Lt) (Q := Q) (typeIs_str s x t) (typeIs_str s y u) F.slot_str_lt F.entry_str_lt (F.args_str_lt_2 _ _) (gives_str_lt x y t u) (fun e => nomatch e)
    exact this (by show Q (.bool (decide (x.cps.toList < y.cps.toList))) s; rw [ltW_eq]; exact h)
  | true =>
    obtain ⟨x, t, rfl, rfl⟩ := hv
    obtain ⟨y, u, rfl, rfl⟩ := hv'
    exact richCompare_meets (typeIs_bytes _ _ _) (typeIs_bytes _ _ _) sl_blt en_blt (ar_blt _ _) meets_blt ⟨by simp, h⟩
theorem rc_gt {Q : Value → Shared → Prop} (hv : VC oct v l) (hv' : VC oct v' l') (h : Q (.bool (ltW l' l)) s) : wpAny (model prog w) A (richCompare .Gt v v') Q E s := by
  cases oct with
  | false =>
    obtain ⟨x, t, rfl, rfl⟩ := hv
    obtain ⟨y, u, rfl, rfl⟩ := hv'
    have := richCompare_gives (prog := prog) (w := w) (A := A) (E := E) (op := .Gt) (Q := Q) (typeIs_str s x t) (typeIs_str s y u) F.slot_str_gt F.entry_str_gt (F.args_str_gt_2 _ _) (gives_str_gt x y t u) (fun e => nomatch e)
    exact this (by show Q (.bool (decide (y.cps.toList < x.cps.toList))) s; rw [ltW_eq]; exact h)
  | true =>
    obtain ⟨x, t, rfl, rfl⟩ := hv
    obtain ⟨y, u, rfl, rfl⟩ := hv'
    exact richCompare_meets (typeIs_bytes _ _ _) (typeIs_bytes _ _ _) sl_bgt en_bgt (ar_bgt _ _) meets_bgt ⟨by simp, h⟩
theorem eqb_VC {Q : Bool → Shared → Prop} (hv : VC oct v l) (hv' : VC oct v' l') (h : Q (decide (l = l')) s) : wpAny (model prog w) A (eqBool v v') Q E s := by
  cases oct with
  | false =>
    obtain ⟨x, t, rfl, rfl⟩ := hv
    obtain ⟨y, u, rfl, rfl⟩ := hv'
    refine SeqAt.EqAt.str_str x t y u prog w _ _ ?_
    have e : (x == y) = decide (cpl x = cpl y) := by
      rw [str_beq, Bool.eq_iff_iff, beq_iff_eq, decide_eq_true_eq]
    rw [e]; exact h
  | true =>
    obtain ⟨x, t, rfl, rfl⟩ := hv
    obtain ⟨y, u, rfl, rfl⟩ := hv'
    by_cases q : x = y
    · subst q
      refine eqat_bytes prog w _ _ ?_
      simpa using h
    · have hq : ¬ nats x = nats y := fun e => q (nats_inj e)
      rw [decide_eq_false hq] at h
      unfold eqBool
      refine wpAny_holding ?_
      refine wpAny_ite_split (fun z => ?_) (fun _ => ?_)
      · have z := eq_of_beq z
        cases z; exact absurd rfl q
      · have z : wpAny (model prog w) A (richCompare .Eq (.bytes x t) (.bytes y u)) (fun v s' => wpAny (model prog w) A (truthOfDropped v) Q E s') E s :=
          PySem.W.eq_bytes (by
            have : (x.toList == y.toList) = false := by
              rw [beq_eq_false_iff_ne]; exact fun e => q (by rw [← Array.toArray_toList (xs := x), e, Array.toArray_toList])
            first | (rw [this]; exact wpAny_truthy_bool h) | skip)
        exact wpAny_bind z
end
noncomputable abbrev gtP (a b : List (List Nat)) : Bool := ltP b a
open AutoSeq1 (wpAny_loadPart')
open MeetsSeq MeetsSeq2 MeetsSeq3 SeqRoads2
section
variable {prog : Program} {w : World} {A : Around} {R : Result → Shared → Prop} {E : Value → Shared → Prop} {s : Shared} {oct : Bool} {a b : Addr} {xs ys : List Value} {ds es : List (List Nat)} {ka kb : Nat}
theorem arr_none {xs : List Value} {i : Nat} (h : xs.length ≤ i) : xs.toArray[((i : Nat) : Int).toNat]? = none := Array.getElem?_eq_none h
theorem arr_some {xs : List Value} {i : Nat} (h : i < xs.length) : xs.toArray[((i : Nat) : Int).toNat]? = some xs[i] := (List.getElem?_toArray ..).trans (List.getElem?_eq_getElem h)
theorem lexlt_none {α : Type} [DecidableEq α] {lt : α → α → Bool} : ∀ l : List α, lexlt lt l [] = false
  | [] => rfl
  | _ :: _ => rfl
theorem lexlt_some {α : Type} [DecidableEq α] {lt : α → α → Bool} : ∀ l : List α, lexlt lt [] l = decide (0 < l.length)
  | [] => rfl
  | _ :: _ => rfl
theorem lt_end {ds es : List (List Nat)} {i n m : Nat} (h1 : ds.length ≤ i) (h2 : i ≤ ds.length) (hn : n = ds.length) (hm : m = es.length) : ltP (ds.drop i) (es.drop i) = decide (n < m) := by
  rw [List.drop_of_length_le h1, ltP, lexlt_some, List.length_drop, Nat.le_antisymm h2 h1, hn, hm]
  exact decide_eq_decide.mpr Nat.sub_pos_iff_lt
theorem gt_end {ds es : List (List Nat)} {i n m : Nat} (h1 : ds.length ≤ i) (h2 : i ≤ es.length) (hn : n = ds.length) (hm : m = es.length) : gtP (ds.drop i) (es.drop i) = decide (n > m) := by
  rw [gtP, List.drop_of_length_le h1, ltP, lexlt_none, hn, hm]
  exact (decide_eq_false (Nat.not_lt.mpr (Nat.le_trans h1 h2))).symm
theorem lt_short {d : List Nat} {ds es r : List (List Nat)} {i n m : Nat} (h1 : es.length ≤ i) (h2 : i < ds.length) (hn : n = ds.length) (hm : m = es.length) : ltP (d :: r) (es.drop i) = decide (n < m) := by
  rw [List.drop_of_length_le h1, ltP, lexlt_none, hn, hm]
  exact (decide_eq_false (Nat.not_lt.mpr (Nat.le_trans h1 (Nat.le_of_lt h2)))).symm
theorem gt_short {d : List Nat} {ds es r : List (List Nat)} {i n m : Nat} (h1 : es.length ≤ i) (h2 : i < ds.length) (hn : n = ds.length) (hm : m = es.length) : gtP (d :: r) (es.drop i) = decide (n > m) := by
  rw [gtP, List.drop_of_length_le h1, ltP, lexlt_some, hn, hm]
  exact (decide_eq_true (Nat.succ_pos _)).trans (decide_eq_true (Nat.lt_of_le_of_lt h1 h2)).symm
theorem lt_loop (ha : s.heap.get? a = some (lobj xs ka)) (hb : s.heap.get? b = some (lobj ys kb)) (hx : Al (VC oct) xs ds) (hy : Al (VC oct) ys es) : ∀ k i : Nat, ds.length - i = k → i ≤ ds.length → i ≤ es.length →
    R (.ok (.ret (.bool (ltP (ds.drop i) (es.drop i))))) s → codeAny (model prog w) A (.builtin "list.__eq__.loop" ⟨[.ref a, .ref b, rawInt i, rawInt 0], []⟩) R s := by
  intro k
  induction k with
  | zero =>
    intro i hk hi hi2 hR
    refine codeAny_builtin entry_eq_loop ?_
    rw [Around.under_plainId plain_eq_loop _]
    obtain ⟨hp, g, d, tk, os⟩ := s
    wp_walk using wpAny_loadPart' ha, wpAny_loadPart' hb
    have h0 := Nat.le_of_sub_eq_zero hk
    rw [arr_none (by rw [hx.1]; exact h0)]
    wp_walk using wpAny_loadPart' ha, wpAny_loadPart' hb
    rw [lt_end h0 hi hx.1 hy.1] at hR
    exact hR
  | succ k ih =>
    intro i hk hi hi2 hR
    refine codeAny_builtin entry_eq_loop ?_
    rw [Around.under_plainId plain_eq_loop _]
    obtain ⟨hp, g, d, tk, os⟩ := s
    have ih := ih (i + 1) (by (first | lia | omega)) (by (first | lia | omega))
    wp_walk using wpAny_loadPart' ha, wpAny_loadPart' hb
    have hlt : i < ds.length := by (first | lia | omega)
    have hxi : i < xs.length := by rw [hx.1]; exact hlt
    have h1 := arr_some hxi
    obtain ⟨d0, hd0, hvx⟩ := hx.2 i _ (List.getElem?_eq_getElem hxi)
    have hdd : ds.drop i = d0 :: ds.drop (i + 1) := by
      obtain ⟨_, e⟩ := List.getElem?_eq_some_iff.mp hd0
      rw [List.drop_eq_getElem_cons hlt, e]
    rw [hdd] at hR
    by_cases hle : i < es.length
    · have hyi : i < ys.length := by rw [hy.1]; exact hle
      have h2 := arr_some hyi
      obtain ⟨e0, he0, hvy⟩ := hy.2 i _ (List.getElem?_eq_getElem hyi)
      have hee : es.drop i = e0 :: es.drop (i + 1) := by
        obtain ⟨_, e⟩ := List.getElem?_eq_some_iff.mp he0
        rw [List.drop_eq_getElem_cons hle, e]
      rw [hee, ltP, lexlt_cons] at hR
      rw [h1, h2]
      refine wpAny_bind (eqb_VC hvx hvy ?_)
      by_cases q : d0 = e0
      · rw [decide_eq_true q]
        rw [if_pos q] at hR
        have ih := ih (by (first | lia | omega)) hR
        wp_walk
        exact ⟨plainId_quiet plain_eq_loop _, ih⟩
      · rw [decide_eq_false q]
        rw [if_neg q] at hR
        wp_walk using wpAny_loadPart' ha, wpAny_loadPart' hb
        rw [h1, h2]
        refine wpAny_bind (rc_lt hvx hvy ?_)
        exact wpAny_pure hR
    · have hle := Nat.not_lt.mp hle
      rw [h1, arr_none (by rw [hy.1]; exact hle)]
      wp_walk using wpAny_loadPart' ha, wpAny_loadPart' hb
      rw [lt_short hle hlt hx.1 hy.1] at hR
      exact hR
theorem lt_list (hu : A.units < cLine) (ha : s.heap.get? a = some (lobj xs ka)) (hb : s.heap.get? b = some (lobj ys kb)) (hx : Al (VC oct) xs ds) (hy : Al (VC oct) ys es) {Q : Value → Shared → Prop} (h : Q (.bool (ltP ds es)) s) :
    wpAny (model prog w) A (richCompare .Lt (.ref a) (.ref b)) Q E s := by
  have hTa : s.TypeIs (.ref a) "list" := ⟨_, ha, rfl⟩
  have hTb : s.TypeIs (.ref b) "list" := ⟨_, hb, rfl⟩
  refine richCompare_meets_room (S := fun _ R s' => s' = s ∧ R (.ok (.ret (.bool (ltP ds es)))) s) hTa hTb F.slot_list_lt F.entry_list_lt (F.args_list_lt_2 _ _) ?_ ⟨rfl, by simp, h⟩ hu
  rintro prog w A R s' ⟨rfl, hR⟩
  have f3 := AutoSeq1.sub_list_list
  obtain ⟨hp, g, d, tk, os⟩ := s'
  wp_walk using wpAny_loadPart' ha, wpAny_loadPart' hb
  exact ⟨plainId_quiet plain_eq_loop _, lt_loop ha hb hx hy _ 0 rfl (Nat.zero_le _) (Nat.zero_le _) (by simpa using hR)⟩
theorem gt_loop (ha : s.heap.get? a = some (lobj xs ka)) (hb : s.heap.get? b = some (lobj ys kb)) (hx : Al (VC oct) xs ds) (hy : Al (VC oct) ys es) : ∀ k i : Nat, ds.length - i = k → i ≤ ds.length → i ≤ es.length →
    R (.ok (.ret (.bool (gtP (ds.drop i) (es.drop i))))) s → codeAny (model prog w) A (.builtin "list.__eq__.loop" ⟨[.ref a, .ref b, rawInt i, rawInt 4], []⟩) R s := by
  intro k
  induction k with
  | zero =>
    intro i hk hi hi2 hR
    refine codeAny_builtin entry_eq_loop ?_
    rw [Around.under_plainId plain_eq_loop _]
    obtain ⟨hp, g, d, tk, os⟩ := s
    wp_walk using wpAny_loadPart' ha, wpAny_loadPart' hb
    have h0 := Nat.le_of_sub_eq_zero hk
    rw [arr_none (by rw [hx.1]; exact h0)]
    wp_walk using wpAny_loadPart' ha, wpAny_loadPart' hb
    rw [gt_end h0 hi2 hx.1 hy.1] at hR
    exact hR
  | succ k ih =>
    intro i hk hi hi2 hR
    refine codeAny_builtin entry_eq_loop ?_
    rw [Around.under_plainId plain_eq_loop _]
    obtain ⟨hp, g, d, tk, os⟩ := s
    have ih := ih (i + 1) (by (first | lia | omega)) (by (first | lia | omega))
    wp_walk using wpAny_loadPart' ha, wpAny_loadPart' hb
    have hlt : i < ds.length := by (first | lia | omega)
    have hxi : i < xs.length := by rw [hx.1]; exact hlt
    have h1 := arr_some hxi
    obtain ⟨d0, hd0, hvx⟩ := hx.2 i _ (List.getElem?_eq_getElem hxi)
    have hdd : ds.drop i = d0 :: ds.drop (i + 1) := by
      obtain ⟨_, e⟩ := List.getElem?_eq_some_iff.mp hd0
      rw [List.drop_eq_getElem_cons hlt, e]
    rw [hdd] at hR
    by_cases hle : i < es.length
    · have hyi : i < ys.length := by rw [hy.1]; exact hle
      have h2 := arr_some hyi
      obtain ⟨e0, he0, hvy⟩ := hy.2 i _ (List.getElem?_eq_getElem hyi)
      have hee : es.drop i = e0 :: es.drop (i + 1) := by
        obtain ⟨_, e⟩ := List.getElem?_eq_some_iff.mp he0
        rw [List.drop_eq_getElem_cons hle, e]
      rw [hee, gtP, ltP, lexlt_cons] at hR
      rw [h1, h2]
      refine wpAny_bind (eqb_VC hvx hvy ?_)
      by_cases q : d0 = e0
      · rw [decide_eq_true q]
        rw [if_pos q.symm] at hR
        have ih := ih (by (first | lia | omega)) hR
        wp_walk
        exact ⟨plainId_quiet plain_eq_loop _, ih⟩
      · rw [decide_eq_false q]
        rw [if_neg (Ne.symm q)] at hR
        wp_walk using wpAny_loadPart' ha, wpAny_loadPart' hb
        rw [h1, h2]
        refine wpAny_bind (rc_gt hvx hvy ?_)
        exact wpAny_pure hR
    · have hle := Nat.not_lt.mp hle
      rw [h1, arr_none (by rw [hy.1]; exact hle)]
      wp_walk using wpAny_loadPart' ha, wpAny_loadPart' hb
      rw [gt_short hle hlt hx.1 hy.1] at hR
      exact hR
theorem gt_list (hu : A.units < cLine) (ha : s.heap.get? a = some (lobj xs ka)) (hb : s.heap.get? b = some (lobj ys kb)) (hx : Al (VC oct) xs ds) (hy : Al (VC oct) ys es) {Q : Value → Shared → Prop} (h : Q (.bool (gtP ds es)) s) :
    wpAny (model prog w) A (richCompare .Gt (.ref a) (.ref b)) Q E s := by
  have hTa : s.TypeIs (.ref a) "list" := ⟨_, ha, rfl⟩
  have hTb : s.TypeIs (.ref b) "list" := ⟨_, hb, rfl⟩
  refine richCompare_meets_room (S := fun _ R s' => s' = s ∧ R (.ok (.ret (.bool (gtP ds es)))) s) hTa hTb F.slot_list_gt F.entry_list_gt (F.args_list_gt_2 _ _) ?_ ⟨rfl, by simp, h⟩ hu
  rintro prog w A R s' ⟨rfl, hR⟩
  have f3 := AutoSeq1.sub_list_list
  obtain ⟨hp, g, d, tk, os⟩ := s'
  wp_walk using wpAny_loadPart' ha, wpAny_loadPart' hb
  exact ⟨plainId_quiet plain_eq_loop _, gt_loop ha hb hx hy _ 0 rfl (Nat.zero_le _) (Nat.zero_le _) (by simpa using hR)⟩
end
end
end Mine
namespace Mine
section
open PySem.Calls
noncomputable def CmpSt (prog : Program) (w : World) (A : Around) (op : CmpOp) (P : Nat → Value → Prop) (St : Nat → Heap → Prop) (bt : Nat → Nat → Bool) : Prop :=
  ∀ k i j vi vj (s : Shared) (Q : Value → Shared → Prop) (E : Value → Shared → Prop), St k s.heap → P i vi → P j vj → Q (.bool (bt i j)) s → wpAny (model prog w) A (richCompare op vi vj) Q E s
inductive TRow (oct : Bool) (nx : List (Addr × Obj)) (v : Value) (d : List (List Nat)) : Prop
  | mk (b : Addr) (c : Nat) (us : List Value) (hv : v = .ref b) (hm : (b, lobj us c) ∈ nx) (hu : Al (VC oct) us d)
theorem TRow.sub {oct : Bool} {nx nx' : List (Addr × Obj)} {v : Value} {d : List (List Nat)} (x : TRow oct nx v d) (h : ∀ p ∈ nx, p ∈ nx') : TRow oct nx' v d := by
  obtain ⟨b, c, us, a1, a2, a3⟩ := x
  exact ⟨b, c, us, a1, h _ a2, a3⟩
theorem best_min (ds : List (List (List Nat))) : ∀ n i, i ≤ n → ltP (ds.getD i []) (ds.getD (argBest (fun i j => ltP (ds.getD i []) (ds.getD j [])) n) []) = false
  | 0, i, h => by obtain rfl : i = 0 := by (first | lia | omega)
                  exact stoP.irr _
  | n + 1, i, h => by
    have ih := best_min ds n
    rw [argBest]
    cases q : ltP (ds.getD (n + 1) []) (ds.getD (argBest (fun i j => ltP (ds.getD i []) (ds.getD j [])) n) []) with
    | true =>
      rw [if_pos (by first | rfl | exact q)]
      rcases Nat.lt_or_ge n i with h1 | h1
      · obtain rfl : i = n + 1 := by (first | lia | omega)
        exact stoP.irr _
      · have h2 := ih i h1
        cases z : ltP (ds.getD i []) (ds.getD (n + 1) []) with
        | false => rfl
        | true => rw [stoP.tr _ _ _ z q] at h2; cases h2
    | false =>
      rw [if_neg (by first | decide | simp [q])]
      rcases Nat.lt_or_ge n i with h1 | h1
      · obtain rfl : i = n + 1 := by (first | lia | omega)
        exact q
      · exact ih i h1
theorem best_max (ds : List (List (List Nat))) : ∀ n i, i ≤ n → ltP (ds.getD (argBest (fun i j => ltP (ds.getD j []) (ds.getD i [])) n) []) (ds.getD i []) = false
  | 0, i, h => by obtain rfl : i = 0 := by (first | lia | omega)
                  exact stoP.irr _
  | n + 1, i, h => by
    have ih := best_max ds n
    rw [argBest]
    cases q : ltP (ds.getD (argBest (fun i j => ltP (ds.getD j []) (ds.getD i [])) n) []) (ds.getD (n + 1) []) with
    | true =>
      rw [if_pos (by first | rfl | exact q)]
      rcases Nat.lt_or_ge n i with h1 | h1
      · obtain rfl : i = n + 1 := by (first | lia | omega)
        exact stoP.irr _
      · have h2 := ih i h1
        cases z : ltP (ds.getD (n + 1) []) (ds.getD i []) with
        | false => rfl
        | true => rw [stoP.tr _ _ _ q z] at h2; cases h2
    | false =>
      rw [if_neg (by first | decide | simp [q])]
      rcases Nat.lt_or_ge n i with h1 | h1
      · obtain rfl : i = n + 1 := by (first | lia | omega)
        exact q
      · exact ih i h1
section
variable {prog : Program} {w : World} {A : Around} {R : Result → Shared → Prop} {E : Value → Shared → Prop} {s : Shared} {I : Addr} {fp wr : List Addr} {n : Nat} {P : Nat → Value → Prop} {St : Nat → Heap → Prop}
theorem walks_rows {ax : Addr} {vs : List Value} {nx : List (Addr × Obj)} (hh : A.handled = none) (hne : ax ≠ I) (hnI : ∀ p ∈ nx, p.1 ≠ I) :
    Walks prog w A I (I :: ax :: nx.map (·.1)) [I] vs.length (fun i v => vs[i]? = some v) (fun i h => h.IsListIter I ax i ∧ h.IsList ax vs.toArray ∧ ∀ p ∈ nx, h.get? p.1 = some p.2) where
  sub := fun b hb => by rw [List.mem_singleton.mp hb]; exact .head _
  frame := fun _ _ _ st hk => ⟨st.1.at fun o e => hk I (.head _) o e, st.2.1.at fun o e => hk ax (.tail _ (.head _)) o e, fun p hp => hk _ (.tail _ (.tail _ (List.mem_map.mpr ⟨p, hp, rfl⟩))) _ (st.2.2 p hp)⟩
  item := fun i s Q E hi st hQ => by
    have W := Walks.list (prog := prog) (w := w) hh I ax hne vs.toArray
    exact W.item i s Q E (by simpa using hi) ⟨st.1, st.2.1⟩ fun v h' tk hp st' hk => hQ v h' tk (by simpa using hp) ⟨st'.1, st'.2, fun p hp => hk _ _ (fun hm => hnI p hp (List.mem_singleton.mp hm)) (st.2.2 p hp)⟩ hk
  done := fun s Q E st hQ => by
    have W := Walks.list (prog := prog) (w := w) hh I ax hne vs.toArray
    have hl : vs.toArray.size = vs.length := by simp
    exact W.done s Q E (by rw [hl]; exact ⟨st.1, st.2.1⟩) hQ
  self := fun i s Q E st hQ => by
    have W := Walks.list (prog := prog) (w := w) hh I ax hne vs.toArray
    exact W.self i s Q E ⟨st.1, st.2.1⟩ hQ

theorem min_loop (W : Walks prog w A.in1 I fp wr n P St) (bt : Nat → Nat → Bool) (hcmp : CmpSt prog w A.in1 .Lt P St bt) (S : Addr) (hSf : S ∉ fp) :
    ∀ (k j : Nat) (s : Shared) (vb : Value) (c : Nat), n - (j + 1) = k → j + 1 ≤ n → St (j + 1) s.heap → P (argBest bt j) vb →
    s.heap.get? S = some { cls := .type "list", dict := none, data := .seq #[vb, vb] c, slots := #[] } →
    (∀ v h' tk, P (argBest bt (n - 1)) v → (∀ b o, b ∉ wr → b ≠ S → s.heap.get? b = some o → h'.get? b = some o) → R (.ok (.ret v)) { s with heap := h', toks := tk }) →
    codeAny (model prog w) A (.builtin "min.loop" ⟨[.ref I, .none, .ref S], []⟩) R s := by
  have hSw : S ∉ wr := fun h => hSf (W.sub _ h)
  have hname : (toString "min" ++ toString ".loop" : String) = "min.loop" := by decide
  intro k
  induction k with
  | zero =>
    intro j s vb c hk hj hst hPb hS hR
    have hin : j + 1 = n := by (first | lia | omega)
    refine codeAny_builtin F.entry_min_loop ?_
    rw [Around.under_plainId F.plain_min_loop _]
    show wpAny _ A.in1 (seqItems? (.ref S) >>= _) _ _ s
    refine wpAny_bind (wpAny_seqItems hS rfl ?_)
    show wpAny _ A.in1 (tryCatch (pyNext (.ref I)) _ >>= _) _ _ s
    refine wpAny_bind (wpAny_tryCatch (W.done s _ _ (hin ▸ hst) fun h' tk hk' => ?_))
    have hS' := hk' S _ hSw hS
    show wpAny _ A.in1 (updateSeq S (fun _ => #[]) >>= _) _ _ _
    refine wpAny_bind ?_
    refine wpAny_updateSeq hS' rfl (wpAny_bind (wpAny_letGo (wpAny_pure ?_)))
    refine hR vb _ tk (by rw [← hin]; exact hPb) fun b o hbw hbS e => (Heap.get?_update_other _ _ (Ne.symm hbS)).trans (hk' b o hbw e)
  | succ k ih =>
    intro j s vb c hk hj hst hPb hS hR
    have hlt : j + 1 < n := by (first | lia | omega)
    refine codeAny_builtin F.entry_min_loop ?_
    rw [Around.under_plainId F.plain_min_loop _]
    show wpAny _ A.in1 (seqItems? (.ref S) >>= _) _ _ s
    refine wpAny_bind (wpAny_seqItems hS rfl ?_)
    show wpAny _ A.in1 (tryCatch (pyNext (.ref I)) _ >>= _) _ _ s
    refine wpAny_bind (wpAny_tryCatch (W.item (j + 1) s _ _ hlt hst fun v h' tk hP hst' hk' => ?_))
    have hS' := hk' S _ hSw hS
    show wpAny _ A.in1 (tryCatch (holding [v, v] (richCompare .Lt v vb >>= _)) _ >>= _) _ _ _
    refine wpAny_bind (wpAny_tryCatch (wpAny_holding (wpAny_bind (hcmp (j + 1 + 1) (j + 1) (argBest bt j) v vb _ _ _ hst' hP hPb ?_))))
    refine wpAny_bind (wpAny_holding (wpAny_truthy_bool ?_))
    refine wpAny_bind (wpAny_letGo (wpAny_pure ?_))
    cases hb : bt (j + 1) (argBest bt j) with
    | true =>
      simp only [if_true]
      refine wpAny_bind ?_
      refine wpAny_updateSeq hS' rfl (wpAny_bind (wpAny_letGo ?_))
      rw [hname]
      refine wpAny_pure ⟨plainId_quiet F.plain_min_loop _, ih (j + 1) _ v _ (by (first | lia | omega)) hlt (W.frame _ _ _ hst' fun b hbf o e => ?_) (by simp only [argBest, hb, if_true]; exact hP) (Heap.get?_update_self _ hS' rfl)
        fun v' h'' tk'' hP' hk'' => ?_⟩
      · exact (Heap.get?_update_other _ _ (fun h : S = b => hSf (by rw [h]; exact hbf))).trans e
      · exact hR v' h'' tk'' hP' fun b o hbw hbS e => hk'' b o hbw hbS ((Heap.get?_update_other _ _ (Ne.symm hbS)).trans (hk' b o hbw e))
    | false =>
      simp only [Bool.false_eq_true, if_false]
      refine wpAny_bind (wpAny_letGo ?_)
      rw [hname]
      refine wpAny_pure ⟨plainId_quiet F.plain_min_loop _, ih (j + 1) _ vb c (by (first | lia | omega)) hlt hst' (by simp only [argBest, hb, Bool.false_eq_true, if_false]; exact hPb) hS' fun v' h'' tk'' hP' hk'' => ?_⟩
      exact hR v' h'' tk'' hP' fun b o hbw hbS e => hk'' b o hbw hbS (hk' b o hbw e)
theorem min_first (W : Walks prog w A.in1 I fp wr n P St) (bt : Nat → Nat → Bool) (hcmp : CmpSt prog w A.in1 .Lt P St bt) (S : Addr) (hSf : S ∉ fp) (hn : 0 < n) {s : Shared} {c : Nat} (hst : St 0 s.heap)
    (hS : s.heap.get? S = some { cls := .type "list", dict := none, data := .seq #[] c, slots := #[] })
    (hR : ∀ v h' tk, P (argBest bt (n - 1)) v → (∀ b o, b ∉ wr → b ≠ S → s.heap.get? b = some o → h'.get? b = some o) → R (.ok (.ret v)) { s with heap := h', toks := tk }) :
    codeAny (model prog w) A (.builtin "min.loop" ⟨[.ref I, .none, .ref S], []⟩) R s := by
  have hSw : S ∉ wr := fun h => hSf (W.sub _ h)
  have hname : (toString "min" ++ toString ".loop" : String) = "min.loop" := by decide
  refine codeAny_builtin F.entry_min_loop ?_
  rw [Around.under_plainId F.plain_min_loop _]
  show wpAny _ A.in1 (seqItems? (.ref S) >>= _) _ _ s
  refine wpAny_bind (wpAny_seqItems hS rfl ?_)
  show wpAny _ A.in1 (tryCatch (pyNext (.ref I)) _ >>= _) _ _ s
  refine wpAny_bind (wpAny_tryCatch (W.item 0 s _ _ hn hst fun v h' tk hP hst' hk' => ?_))
  have hS' := hk' S _ hSw hS
  show wpAny _ A.in1 (updateSeq S (fun _ => #[v, v]) >>= _) _ _ _
  refine wpAny_bind ?_
  refine wpAny_updateSeq hS' rfl ?_
  rw [hname]
  refine wpAny_pure ⟨plainId_quiet F.plain_min_loop _, min_loop W bt hcmp S hSf _ 0 _ v _ rfl hn (W.frame _ _ _ hst' fun b hbf o e => ?_) hP (Heap.get?_update_self _ hS' rfl) fun v' h'' tk'' hP' hk'' => ?_⟩
  · exact (Heap.get?_update_other _ _ (fun h : S = b => hSf (by rw [h]; exact hbf))).trans e
  · exact hR v' h'' tk'' hP' fun b o hbw hbS e => hk'' b o hbw hbS ((Heap.get?_update_other _ _ (Ne.symm hbS)).trans (hk' b o hbw e))
theorem call_min_rows {ax : Addr} {vs : List Value} {ds : List (List (List Nat))} {nx : List (Addr × Obj)} {oct : Bool} {Q : Value → Shared → Prop} (hh : A.handled = none) (hu : A.in1.units < cLine) (hD : s.heap.IsList ax vs.toArray) (hv : Al (TRow oct nx) vs ds) (hnx : ∀ p ∈ nx, s.heap.get? p.1 = some p.2) (hn : 0 < vs.length)
    (h : ∀ v d (j : Nat) (h' : Heap) tk, vs[j]? = some v → ds[j]? = some d → (∀ e ∈ ds, ltP e d = false) → (∀ b o, s.heap.get? b = some o → h'.get? b = some o) → Q v { s with heap := h', toks := tk }) :
    wpAny (model prog w) A (call (.builtin "min") [.ref ax]) Q E s := by
  have hname : (toString "min" ++ toString ".loop" : String) = "min.loop" := by decide
  refine call_function_tree F.kind_min F.plain_min F.entry_min (F.args_min1 _) ?_
  show wpAny _ A.in1 (Builtin.Builtins.bindParams "min" ["key", "default"] 0 ⟨[], []⟩ >>= _) _ _ s
  refine wpAny_bind (wpAny_of_eq (show Builtin.Builtins.bindParams "min" ["key", "default"] 0 ⟨[], []⟩ = pure [none, none] from rfl) ?_)
  refine wpAny_bind (wpAny_pure ?_)
  obtain ⟨oD, hoD, hr⟩ := id hD
  have hne : ax ≠ s.heap.objs.size := lt_ne_size hoD
  have hnI : ∀ p ∈ nx, p.1 ≠ s.heap.objs.size := fun p hp => lt_ne_size (hnx p hp)
  refine wpAny_bind (wpAny_pyIter_list hD ?_)
  have W := walks_rows (prog := prog) (w := w) (A := A.in1) (vs := vs) hh hne hnI
  refine wpAny_bind (wpAny_newObj_type ?_)
  generalize hH1 : s.heap.push { cls := .type "list_iterator", data := .fields #[.ref ax, .int 0 0] } = H1
  have k1 : ∀ b o, s.heap.get? b = some o → H1.get? b = some o := fun b o e => by rw [← hH1]; exact Heap.get?_push_of_some _ e
  have i1 : H1.get? s.heap.objs.size = some { cls := .type "list_iterator", data := .fields #[.ref ax, .int 0 0] } := by rw [← hH1]; exact Heap.get?_push_size _ rfl
  have hz : H1.objs.size = s.heap.objs.size + 1 := by rw [← hH1, Heap.size_push]
  have hSf : H1.objs.size ∉ s.heap.objs.size :: ax :: nx.map (·.1) := fun hm => by
    rw [hz] at hm
    rcases List.mem_cons.mp hm with q | hm
    · exact Nat.succ_ne_self _ q
    rcases List.mem_cons.mp hm with q | hm
    · exact absurd (Heap.lt_size hoD) (by rw [← q]; exact Nat.not_lt.mpr (Nat.le_succ _))
    · obtain ⟨p, hp, q⟩ := List.mem_map.mp hm
      exact absurd (Heap.lt_size (hnx p hp)) (by rw [q]; exact Nat.not_lt.mpr (Nat.le_succ _))
  rw [hname]
  have hst : ∀ h', (∀ b o, H1.get? b = some o → h'.get? b = some o) → Heap.IsListIter h' s.heap.objs.size ax 0 ∧ h'.IsList ax vs.toArray ∧ ∀ p ∈ nx, h'.get? p.1 = some p.2 := fun h' k => ⟨⟨_, k _ _ i1, rfl, rfl⟩, ⟨oD, k _ _ (k1 _ _ hoD), hr⟩, fun p hp => k _ _ (k1 _ _ (hnx p hp))⟩
  refine wpAny_pure ⟨plainId_quiet F.plain_min_loop _, min_first W (fun i j => ltP (ds.getD i []) (ds.getD j [])) (fun k i j vi vj s' Q' E' hs' hi hj hq => ?_) H1.objs.size hSf hn (hst _ fun b o e => Heap.get?_push_of_some _ e) (Heap.get?_push_size _ rfl) fun v h' tk hP hk => ?_⟩
  · obtain ⟨d1, hd1, b1, c1, u1, rfl, m1, a1⟩ := hv.2 i vi hi
    obtain ⟨d2, hd2, b2, c2, u2, rfl, m2, a2⟩ := hv.2 j vj hj
    have e1 : ds.getD i [] = d1 := by rw [List.getD_eq_getElem?_getD, hd1]; rfl
    have e2 : ds.getD j [] = d2 := by rw [List.getD_eq_getElem?_getD, hd2]; rfl
    dsimp only at hq
    rw [e1, e2] at hq
    exact lt_list hu (hs'.2.2 _ m1) (hs'.2.2 _ m2) a1 a2 hq
  · obtain ⟨d, hd, _⟩ := hv.2 _ v hP
    have hl : ds.length = vs.length := hv.1.symm
    have ed : ds.getD (argBest (fun i j => ltP (ds.getD i []) (ds.getD j [])) (vs.length - 1)) [] = d := by rw [List.getD_eq_getElem?_getD, hd]; rfl
    refine h v d _ h' tk hP hd (fun e he => ?_) fun b o q => hk b o (fun hm => ?_) ?_ (Heap.get?_push_of_some _ (k1 b o q))
    · obtain ⟨i, hi⟩ := List.getElem?_of_mem he
      have hil : i ≤ vs.length - 1 := by have := (List.getElem?_eq_some_iff.mp hi).1; (first | lia | omega)
      have := best_min ds (vs.length - 1) i hil
      rw [ed] at this
      have ee : ds.getD i [] = e := by rw [List.getD_eq_getElem?_getD, hi]; rfl
      rw [ee] at this
      exact this
    · exact absurd (Heap.lt_size q) (by rw [List.mem_singleton.mp hm]; exact Nat.lt_irrefl _)
    · exact fun z => absurd (Heap.lt_size q) (by rw [z, hz]; exact Nat.not_lt.mpr (Nat.le_succ _))

theorem max_loop (W : Walks prog w A.in1 I fp wr n P St) (bt : Nat → Nat → Bool) (hcmp : CmpSt prog w A.in1 .Gt P St bt) (S : Addr) (hSf : S ∉ fp) :
    ∀ (k j : Nat) (s : Shared) (vb : Value) (c : Nat), n - (j + 1) = k → j + 1 ≤ n → St (j + 1) s.heap → P (argBest bt j) vb →
    s.heap.get? S = some { cls := .type "list", dict := none, data := .seq #[vb, vb] c, slots := #[] } →
    (∀ v h' tk, P (argBest bt (n - 1)) v → (∀ b o, b ∉ wr → b ≠ S → s.heap.get? b = some o → h'.get? b = some o) → R (.ok (.ret v)) { s with heap := h', toks := tk }) →
    codeAny (model prog w) A (.builtin "max.loop" ⟨[.ref I, .none, .ref S], []⟩) R s := by
  have hSw : S ∉ wr := fun h => hSf (W.sub _ h)
  have hname : (toString "max" ++ toString ".loop" : String) = "max.loop" := by decide
  intro k
  induction k with
  | zero =>
    intro j s vb c hk hj hst hPb hS hR
    have hin : j + 1 = n := by (first | lia | omega)
    refine codeAny_builtin F.entry_max_loop ?_
    rw [Around.under_plainId F.plain_max_loop _]
    show wpAny _ A.in1 (seqItems? (.ref S) >>= _) _ _ s
    refine wpAny_bind (wpAny_seqItems hS rfl ?_)
    show wpAny _ A.in1 (tryCatch (pyNext (.ref I)) _ >>= _) _ _ s
    refine wpAny_bind (wpAny_tryCatch (W.done s _ _ (hin ▸ hst) fun h' tk hk' => ?_))
    have hS' := hk' S _ hSw hS
    show wpAny _ A.in1 (updateSeq S (fun _ => #[]) >>= _) _ _ _
    refine wpAny_bind ?_
    refine wpAny_updateSeq hS' rfl (wpAny_bind (wpAny_letGo (wpAny_pure ?_)))
    refine hR vb _ tk (by rw [← hin]; exact hPb) fun b o hbw hbS e => (Heap.get?_update_other _ _ (Ne.symm hbS)).trans (hk' b o hbw e)
  | succ k ih =>
    intro j s vb c hk hj hst hPb hS hR
    have hlt : j + 1 < n := by (first | lia | omega)
    refine codeAny_builtin F.entry_max_loop ?_
    rw [Around.under_plainId F.plain_max_loop _]
    show wpAny _ A.in1 (seqItems? (.ref S) >>= _) _ _ s
    refine wpAny_bind (wpAny_seqItems hS rfl ?_)
    show wpAny _ A.in1 (tryCatch (pyNext (.ref I)) _ >>= _) _ _ s
    refine wpAny_bind (wpAny_tryCatch (W.item (j + 1) s _ _ hlt hst fun v h' tk hP hst' hk' => ?_))
    have hS' := hk' S _ hSw hS
    show wpAny _ A.in1 (tryCatch (holding [v, v] (richCompare .Gt v vb >>= _)) _ >>= _) _ _ _
    refine wpAny_bind (wpAny_tryCatch (wpAny_holding (wpAny_bind (hcmp (j + 1 + 1) (j + 1) (argBest bt j) v vb _ _ _ hst' hP hPb ?_))))
    refine wpAny_bind (wpAny_holding (wpAny_truthy_bool ?_))
    refine wpAny_bind (wpAny_letGo (wpAny_pure ?_))
    cases hb : bt (j + 1) (argBest bt j) with
    | true =>
      simp only [if_true]
      refine wpAny_bind ?_
      refine wpAny_updateSeq hS' rfl (wpAny_bind (wpAny_letGo ?_))
      rw [hname]
      refine wpAny_pure ⟨plainId_quiet F.plain_max_loop _, ih (j + 1) _ v _ (by (first | lia | omega)) hlt (W.frame _ _ _ hst' fun b hbf o e => ?_) (by simp only [argBest, hb, if_true]; exact hP) (Heap.get?_update_self _ hS' rfl)
        fun v' h'' tk'' hP' hk'' => ?_⟩
      · exact (Heap.get?_update_other _ _ (fun h : S = b => hSf (by rw [h]; exact hbf))).trans e
      · exact hR v' h'' tk'' hP' fun b o hbw hbS e => hk'' b o hbw hbS ((Heap.get?_update_other _ _ (Ne.symm hbS)).trans (hk' b o hbw e))
    | false =>
      simp only [Bool.false_eq_true, if_false]
      refine wpAny_bind (wpAny_letGo ?_)
      rw [hname]
      refine wpAny_pure ⟨plainId_quiet F.plain_max_loop _, ih (j + 1) _ vb c (by (first | lia | omega)) hlt hst' (by simp only [argBest, hb, Bool.false_eq_true, if_false]; exact hPb) hS' fun v' h'' tk'' hP' hk'' => ?_⟩
      exact hR v' h'' tk'' hP' fun b o hbw hbS e => hk'' b o hbw hbS (hk' b o hbw e)
theorem max_first (W : Walks prog w A.in1 I fp wr n P St) (bt : Nat → Nat → Bool) (hcmp : CmpSt prog w A.in1 .Gt P St bt) (S : Addr) (hSf : S ∉ fp) (hn : 0 < n) {s : Shared} {c : Nat} (hst : St 0 s.heap)
    (hS : s.heap.get? S = some { cls := .type "list", dict := none, data := .seq #[] c, slots := #[] })
    (hR : ∀ v h' tk, P (argBest bt (n - 1)) v → (∀ b o, b ∉ wr → b ≠ S → s.heap.get? b = some o → h'.get? b = some o) → R (.ok (.ret v)) { s with heap := h', toks := tk }) :
    codeAny (model prog w) A (.builtin "max.loop" ⟨[.ref I, .none, .ref S], []⟩) R s := by
  have hSw : S ∉ wr := fun h => hSf (W.sub _ h)
  have hname : (toString "max" ++ toString ".loop" : String) = "max.loop" := by decide
  refine codeAny_builtin F.entry_max_loop ?_
  rw [Around.under_plainId F.plain_max_loop _]
  show wpAny _ A.in1 (seqItems? (.ref S) >>= _) _ _ s
  refine wpAny_bind (wpAny_seqItems hS rfl ?_)
  show wpAny _ A.in1 (tryCatch (pyNext (.ref I)) _ >>= _) _ _ s
  refine wpAny_bind (wpAny_tryCatch (W.item 0 s _ _ hn hst fun v h' tk hP hst' hk' => ?_))
  have hS' := hk' S _ hSw hS
  show wpAny _ A.in1 (updateSeq S (fun _ => #[v, v]) >>= _) _ _ _
  refine wpAny_bind ?_
  refine wpAny_updateSeq hS' rfl ?_
  rw [hname]
  refine wpAny_pure ⟨plainId_quiet F.plain_max_loop _, max_loop W bt hcmp S hSf _ 0 _ v _ rfl hn (W.frame _ _ _ hst' fun b hbf o e => ?_) hP (Heap.get?_update_self _ hS' rfl) fun v' h'' tk'' hP' hk'' => ?_⟩
  · exact (Heap.get?_update_other _ _ (fun h : S = b => hSf (by rw [h]; exact hbf))).trans e
  · exact hR v' h'' tk'' hP' fun b o hbw hbS e => hk'' b o hbw hbS ((Heap.get?_update_other _ _ (Ne.symm hbS)).trans (hk' b o hbw e))
theorem call_max_rows {ax : Addr} {vs : List Value} {ds : List (List (List Nat))} {nx : List (Addr × Obj)} {oct : Bool} {Q : Value → Shared → Prop} (hh : A.handled = none) (hu : A.in1.units < cLine) (hD : s.heap.IsList ax vs.toArray) (hv : Al (TRow oct nx) vs ds) (hnx : ∀ p ∈ nx, s.heap.get? p.1 = some p.2) (hn : 0 < vs.length)
    (h : ∀ v d (j : Nat) (h' : Heap) tk, vs[j]? = some v → ds[j]? = some d → (∀ e ∈ ds, ltP d e = false) → (∀ b o, s.heap.get? b = some o → h'.get? b = some o) → Q v { s with heap := h', toks := tk }) :
    wpAny (model prog w) A (call (.builtin "max") [.ref ax]) Q E s := by
  have hname : (toString "max" ++ toString ".loop" : String) = "max.loop" := by decide
  refine call_function_tree F.kind_max F.plain_max F.entry_max (F.args_max1 _) ?_
  show wpAny _ A.in1 (Builtin.Builtins.bindParams "max" ["key", "default"] 0 ⟨[], []⟩ >>= _) _ _ s
  refine wpAny_bind (wpAny_of_eq (show Builtin.Builtins.bindParams "max" ["key", "default"] 0 ⟨[], []⟩ = pure [none, none] from rfl) ?_)
  refine wpAny_bind (wpAny_pure ?_)
  obtain ⟨oD, hoD, hr⟩ := id hD
  have hne : ax ≠ s.heap.objs.size := lt_ne_size hoD
  have hnI : ∀ p ∈ nx, p.1 ≠ s.heap.objs.size := fun p hp => lt_ne_size (hnx p hp)
  refine wpAny_bind (wpAny_pyIter_list hD ?_)
  have W := walks_rows (prog := prog) (w := w) (A := A.in1) (vs := vs) hh hne hnI
  refine wpAny_bind (wpAny_newObj_type ?_)
  generalize hH1 : s.heap.push { cls := .type "list_iterator", data := .fields #[.ref ax, .int 0 0] } = H1
  have k1 : ∀ b o, s.heap.get? b = some o → H1.get? b = some o := fun b o e => by rw [← hH1]; exact Heap.get?_push_of_some _ e
  have i1 : H1.get? s.heap.objs.size = some { cls := .type "list_iterator", data := .fields #[.ref ax, .int 0 0] } := by rw [← hH1]; exact Heap.get?_push_size _ rfl
  have hz : H1.objs.size = s.heap.objs.size + 1 := by rw [← hH1, Heap.size_push]
  have hSf : H1.objs.size ∉ s.heap.objs.size :: ax :: nx.map (·.1) := fun hm => by
    rw [hz] at hm
    rcases List.mem_cons.mp hm with q | hm
    · exact Nat.succ_ne_self _ q
    rcases List.mem_cons.mp hm with q | hm
    · exact absurd (Heap.lt_size hoD) (by rw [← q]; exact Nat.not_lt.mpr (Nat.le_succ _))
    · obtain ⟨p, hp, q⟩ := List.mem_map.mp hm
      exact absurd (Heap.lt_size (hnx p hp)) (by rw [q]; exact Nat.not_lt.mpr (Nat.le_succ _))
  rw [hname]
  have hst : ∀ h', (∀ b o, H1.get? b = some o → h'.get? b = some o) → Heap.IsListIter h' s.heap.objs.size ax 0 ∧ h'.IsList ax vs.toArray ∧ ∀ p ∈ nx, h'.get? p.1 = some p.2 := fun h' k => ⟨⟨_, k _ _ i1, rfl, rfl⟩, ⟨oD, k _ _ (k1 _ _ hoD), hr⟩, fun p hp => k _ _ (k1 _ _ (hnx p hp))⟩
  refine wpAny_pure ⟨plainId_quiet F.plain_max_loop _, max_first W (fun i j => ltP (ds.getD j []) (ds.getD i [])) (fun k i j vi vj s' Q' E' hs' hi hj hq => ?_) H1.objs.size hSf hn (hst _ fun b o e => Heap.get?_push_of_some _ e) (Heap.get?_push_size _ rfl) fun v h' tk hP hk => ?_⟩
  · obtain ⟨d1, hd1, b1, c1, u1, rfl, m1, a1⟩ := hv.2 i vi hi
    obtain ⟨d2, hd2, b2, c2, u2, rfl, m2, a2⟩ := hv.2 j vj hj
    have e1 : ds.getD i [] = d1 := by rw [List.getD_eq_getElem?_getD, hd1]; rfl
    have e2 : ds.getD j [] = d2 := by rw [List.getD_eq_getElem?_getD, hd2]; rfl
    dsimp only at hq
    rw [e1, e2] at hq
    exact gt_list hu (hs'.2.2 _ m1) (hs'.2.2 _ m2) a1 a2 hq
  · obtain ⟨d, hd, _⟩ := hv.2 _ v hP
    have hl : ds.length = vs.length := hv.1.symm
    have ed : ds.getD (argBest (fun i j => ltP (ds.getD j []) (ds.getD i [])) (vs.length - 1)) [] = d := by rw [List.getD_eq_getElem?_getD, hd]; rfl
    refine h v d _ h' tk hP hd (fun e he => ?_) fun b o q => hk b o (fun hm => ?_) ?_ (Heap.get?_push_of_some _ (k1 b o q))
    · obtain ⟨i, hi⟩ := List.getElem?_of_mem he
      have hil : i ≤ vs.length - 1 := by have := (List.getElem?_eq_some_iff.mp hi).1; (first | lia | omega)
      have := best_max ds (vs.length - 1) i hil
      rw [ed] at this
      have ee : ds.getD i [] = e := by rw [List.getD_eq_getElem?_getD, hi]; rfl
      rw [ee] at this
      exact this
    · exact absurd (Heap.lt_size q) (by rw [List.mem_singleton.mp hm]; exact Nat.lt_irrefl _)
    · exact fun z => absurd (Heap.lt_size q) (by rw [z, hz]; exact Nat.not_lt.mpr (Nat.le_succ _))
end
end
end Mine
namespace Mine
section
open PySem.Calls
theorem row_len2 {α : Type} {rs : List (List α)} {row : List α} (h : row ∈ rs) : row.length ≤ lensL rs := by
  induction rs with
  | nil => cases h
  | cons a r ih =>
    have h3 : lensL (a :: r) = (a.length + 1) + lensL r := by simp [lensL]
    rcases List.mem_cons.mp h with rfl | h
    · (first | lia | omega)
    · have := ih h; (first | lia | omega)
section
variable {prog : Program} {w : World} {A : Around} {E : Value → Shared → Prop} {s : Shared} {h₀ : Heap} {L : Addr} {m : MapS} {news : List (Addr × Obj)} {t u : Tok} {Q : Value → Shared → Prop}
theorem split_s {x : Str} (F : Fr h₀ L s.heap m) (N : News h₀ L s.heap news) (hz : x.length ≤ 1000)
    (h : ∀ D us h' tk, Al (VC false) us (spl 47 (cpl x)) → Fr h₀ L h' m → News h₀ L h' ((D, lobj us 0) :: news) → (∀ p ∈ news, p.1 < D) → Q (.ref D) { s with heap := h', toks := tk }) :
    wpAny (model prog w) A (call (.builtin "str.split") [.str x t, .str (Str.ofString "/") u]) Q E s := by
  refine KSpl.split1 F N (by decide) (fun D l h' k e1 e2 F' N' lt => ?_) (by rw [sizeLine_eq]; (first | lia | omega))
  refine h D (strValues l) h' k ?_ F' N' lt
  have e3 : (l.map (·.1)).map cpl = spl 47 (cpl x) := by rw [e1, show Str.ofString "/" = ch 47 from by decide, cpl_split]
  rw [← e3]
  refine ⟨by simp [strValues], fun i v hv => ?_⟩
  unfold strValues at hv
  rw [List.getElem?_map] at hv
  obtain ⟨p, hp, rfl⟩ := Option.map_eq_some_iff.mp hv
  exact ⟨cpl p.1, by rw [List.getElem?_map, List.getElem?_map, hp]; rfl, p.1, p.2, rfl, rfl⟩
theorem spl_map {α β : Type} [DecidableEq α] [DecidableEq β] (f : α → β) (hf : ∀ a b, f a = f b → a = b) (c : α) : ∀ l : List α, spl (f c) (l.map f) = (spl c l).map (List.map f)
  | [] => rfl
  | a :: l => by
    rw [List.map_cons, spl_cons, spl_cons, spl_map f hf c l]
    by_cases q : a = c
    · rw [if_pos q, if_pos (by rw [q])]; rfl
    · rw [if_neg q, if_neg fun e => q (hf _ _ e)]
      cases spl c l <;> rfl
theorem split_b {x : Array UInt8} (F : Fr h₀ L s.heap m) (N : News h₀ L s.heap news) (hz : x.size ≤ 1000)
    (h : ∀ D us h' tk, Al (VC true) us (spl 47 (nats x)) → Fr h₀ L h' m → News h₀ L h' ((D, lobj us 0) :: news) → (∀ p ∈ news, p.1 < D) → Q (.ref D) { s with heap := h', toks := tk }) :
    wpAny (model prog w) A (call (.builtin "bytes.split") [.bytes x t, .bytes #[47] u]) Q E s := by
  refine by_split F N (by (first | lia | omega)) fun D vs arrs h' tk ha he F' N' lt hl => ?_
  refine h D vs h' tk ?_ F' N' lt
  have e3 : spl 47 (nats x) = (spl (47 : UInt8) x.toList).map (List.map UInt8.toNat) := spl_map UInt8.toNat nat_inj 47 x.toList
  rw [e3, ← he, List.map_map]
  refine ⟨by rw [List.length_map]; exact ha.1, fun i v hv => ?_⟩
  obtain ⟨P, hP, tp, rfl⟩ := ha.2 i v hv
  exact ⟨nats P, by rw [List.getElem?_map, hP]; rfl, P, tp, rfl, rfl⟩
end
noncomputable def stepsN (l : List Nat) : List (List Nat) := (spl 47 l).filter fun p => decide (p ≠ []) && decide (p ≠ [46])
noncomputable def gF (ds : List (List Nat)) (i : Nat) : Bool := (ds.getD i []).head? == some 47
theorem gF_at {ds : List (List Nat)} {i : Nat} {d : List Nat} (h : ds[i]? = some d) : gF ds i = (d.head? == some 47) := by
  unfold gF; rw [List.getD_eq_getElem?_getD, h]; rfl
theorem led_turn {g h : Heap} {L : Addr} {a b c d : Addr × Obj} {l : List (Addr × Obj)} (N : News g L h (d :: (l ++ [a, b, c]))) : News g L h (a :: b :: c :: d :: l) := fun p hp => N p (by
  simp only [List.mem_cons, List.mem_append, List.not_mem_nil, or_false] at hp ⊢
  rcases hp with hp | hp | hp | hp | hp <;> simp [hp])
noncomputable def keepP (p : List Nat) : Bool := decide (p ≠ []) && decide (p ≠ [46])
theorem stepsN_eq (l : List Nat) : stepsN l = (spl 47 l).filter keepP := rfl
theorem alfilt_yes {oct : Bool} {ws : List Value} {v : Value} {l : List (List Nat)} {j : Nat} {p : List Nat} (hp : l[j]? = some p) (hk : keepP p = true) (h : Al (VC oct) ws ((l.take j).filter keepP)) (hv : VC oct v p) : Al (VC oct) (ws ++ [v]) ((l.take (j + 1)).filter keepP) := by
  rw [take_snoc hp, List.filter_append, show [p].filter keepP = [p] from by simp [hk]]
  exact alsnoc h hv
theorem alfilt_no {oct : Bool} {ws : List Value} {l : List (List Nat)} {j : Nat} {p : List Nat} (hp : l[j]? = some p) (hk : keepP p = false) (h : Al (VC oct) ws ((l.take j).filter keepP)) : Al (VC oct) ws ((l.take (j + 1)).filter keepP) := by
  rw [take_snoc hp, List.filter_append, show [p].filter keepP = [] from by simp [hk], List.append_nil]
  exact h
theorem dot_ne (x : Str) : (x != Str.ofString ".") = decide (cpl x ≠ [46]) := by
  have e : cpl (Str.ofString ".") = [46] := by decide
  rw [bne, str_beq, e, Bool.eq_iff_iff]
  simp
theorem keep_s1 {x : Str} (h1 : ((x.length : Nat) : Int) ≠ 0) (h2 : (x != Str.ofString ".") = true) : keepP (cpl x) = true := by
  rw [dot_ne] at h2
  unfold keepP
  rw [h2, Bool.and_true, decide_eq_true_eq]
  intro q
  have := cpl_len x
  rw [q] at this
  exact h1 (by simp at this; (first | lia | omega))
theorem keep_s2 {x : Str} (h2 : (x != Str.ofString ".") = false) : keepP (cpl x) = false := by
  rw [dot_ne] at h2
  unfold keepP
  rw [h2, Bool.and_false]
theorem keep_s3 {x : Str} (h1 : ((x.length : Nat) : Int) = 0) : keepP (cpl x) = false := by
  have : cpl x = [] := by
    have := cpl_len x
    exact List.eq_nil_of_length_eq_zero (by (first | lia | omega))
  unfold keepP; rw [this]; rfl
theorem rows_turn {oct : Bool} {in2 : List (Addr × Obj)} {zs : List Value} {es : List (List (List Nat))} {D : Addr} {us : List Value} {c : Nat} {e : List (List Nat)} (h : Al (TRow oct in2) zs es) (hu : Al (VC oct) us e) : Al (TRow oct ((D, lobj us c) :: in2)) (zs ++ [.ref D]) (es ++ [e]) :=
  alsnoc (h.mono fun v d _ q => q.sub fun p hp => .tail _ hp) ⟨D, c, us, rfl, .head _, hu⟩
theorem spl_sum (c : Nat) : ∀ l : List Nat, ((spl c l).map fun p => p.length + 1).sum = l.length + 1
  | [] => rfl
  | a :: r => by
    have ih := spl_sum c r
    rw [spl_cons]
    by_cases hac : a = c
    · rw [if_pos hac, List.map_cons, List.sum_cons, ih]; exact Nat.add_comm 1 _
    · rw [if_neg hac]
      cases hs : spl c r with
      | nil => exact absurd hs (spl_ne c r)
      | cons q qr =>
        rw [hs, List.map_cons, List.sum_cons] at ih
        show (((a :: q) :: qr).map fun p => p.length + 1).sum = _
        rw [List.map_cons, List.sum_cons, List.length_cons, List.length_cons]; (first | lia | omega)
theorem filt_sum {α : Type} (f : α → Nat) (P : α → Bool) : ∀ l : List α, ((l.filter P).map f).sum ≤ (l.map f).sum ∧ (l.filter P).length ≤ l.length
  | [] => by simp
  | a :: r => by
    obtain ⟨i1, i2⟩ := filt_sum f P r
    rw [List.filter_cons]
    split <;> simp <;> (first | lia | omega)
theorem steps_small {l : List Nat} (h : l.length ≤ 1000) : (stepsN l).length ≤ 1001 ∧ ((stepsN l).map fun p => p.length + 1).sum ≤ 100000 := by
  rw [stepsN_eq]
  obtain ⟨h1, h2⟩ := filt_sum (fun p : List Nat => p.length + 1) keepP (spl 47 l)
  have h3 := spl_sum 47 l
  have h4 := spl_len 47 l
  exact ⟨by (first | lia | omega), by (first | lia | omega)⟩
end
end Mine
namespace Mine
section
open PySem.Calls
theorem eqv_ints : ∀ d e : List Int, PyData.eqvAll (d.map PyData.int) (e.map PyData.int) = decide (d = e)
  | [], [] => by simp [PyData.eqvAll]
  | [], _ :: _ => by simp [PyData.eqvAll]
  | _ :: _, [] => by simp [PyData.eqvAll]
  | a :: d, b :: e => by
    rw [List.map_cons, List.map_cons, PyData.eqvAll, PyData.eqv, eqv_ints d e, Bool.eq_iff_iff]
    simp
theorem eqv_rowsA : ∀ d e : List (List Int), PyData.eqvAll (d.map fun d => PyData.list (d.map PyData.int)) (e.map fun d => PyData.list (d.map PyData.int)) = decide (d = e)
  | [], [] => by simp [PyData.eqvAll]
  | [], _ :: _ => by simp [PyData.eqvAll]
  | _ :: _, [] => by simp [PyData.eqvAll]
  | a :: d, b :: e => by
    rw [List.map_cons, List.map_cons, PyData.eqvAll, PyData.eqv, eqv_rowsA d e, eqv_ints a b, Bool.eq_iff_iff]
    simp
theorem eqv_rows (d e : List (List Int)) : PyData.eqv (rowsP d) (rowsP e) = decide (d = e) := by
  rw [rowsP, rowsP, PyData.eqv, eqv_rowsA]
theorem rowsP_shaped (ds : List (List Int)) : SeqAt.shaped (rowsP ds) = true := by
  have l := rowsP_lay ds
  unfold SeqAt.shaped; rw [l.1, Bool.true_and]; exact decide_eq_true (Nat.le_trans l.2 (by decide))
noncomputable def nestP (dds : List (List (List Int))) : PyData := .list (dds.map rowsP)
theorem nestP_shaped (dds : List (List (List Int))) : SeqAt.shaped (nestP dds) = true := by
  have h : ∀ ds : List (List (List Int)), PyData.canLayAll0 (ds.map rowsP) = true ∧ PyData.depthAll (ds.map rowsP) ≤ 2 := fun ds => by
    induction ds with
    | nil => simp [PyData.canLayAll0, PyData.depthAll]
    | cons d r ih =>
      have h1 := ih.1
      have h2 := ih.2
      have l := rowsP_lay d
      simp only [List.map_cons, PyData.canLayAll0, PyData.depthAll, h1, l.1, Bool.and_self, true_and]
      (first | lia | omega)
  have h1 := (h dds).1
  have h2 := (h dds).2
  unfold SeqAt.shaped
  simp only [nestP, PyData.canLay0, PyData.depth, h1, Bool.true_and]
  exact decide_eq_true (by (first | lia | omega))
theorem reads_nest {h : Heap} : ∀ {vs : List Value} {ds : List (List (List Int))}, Al (fun v d => ∃ b us, v = .ref b ∧ h.IsList b us.toArray ∧ Al (fun v d => ∃ b us, v = .ref b ∧ h.IsList b us.toArray ∧ IntsAre us d) us d) vs ds → ∃ as, ReadsAll h vs (ds.map rowsP) as
  | [], [], _ => ⟨_, .nil⟩
  | _, d :: ds, r => by
    obtain ⟨v, vr, rfl, ⟨b, us, rfl, ⟨o, ho, hc, k, hd⟩, hi⟩, r'⟩ := al_head r
    obtain ⟨as, q⟩ := reads_nest r'
    obtain ⟨bs, q2⟩ := reads_rows hi
    exact ⟨_, .cons (reads_list_at ho hc hd q2) q⟩
  | v :: vs, [], r => by have := r.1; simp at this
inductive RRow (nx : List (Addr × Obj)) (v : Value) (d : List (List Int)) : Prop
  | mk (b : Addr) (c : Nat) (us : List Value) (hv : v = .ref b) (hm : (b, lobj us c) ∈ nx) (hu : Rows nx us d)
noncomputable abbrev RRows (nx : List (Addr × Obj)) (vs : List Value) (ds : List (List (List Int))) : Prop := Al (RRow nx) vs ds
theorem RRows.sub {nx nx' : List (Addr × Obj)} {vs : List Value} {ds : List (List (List Int))} (r : RRows nx vs ds) (h : ∀ p ∈ nx, p ∈ nx') : RRows nx' vs ds :=
  r.mono fun v d _ ⟨b, c, us, e, hm, hi⟩ => ⟨b, c, us, e, h _ hm, hi.sub h⟩
section
variable {prog : Program} {w : World} {A : Around} {E : Value → Shared → Prop} {s : Shared} {h₀ : Heap} {L a b : Addr} {news : List (Addr × Obj)} {xs ys : List Value} {ka kb : Nat} {ds es : List (List Int)} {dds : List (List (List Int))} {Q : Value → Shared → Prop}
theorem eq_rowsD (N : News h₀ L s.heap news) (ma : (a, lobj xs ka) ∈ news) (ra : Rows news xs ds) (mb : (b, lobj ys kb) ∈ news) (rb : Rows news ys es) (hu : A.units + 64 < cLine) (h : Q (.bool (decide (ds = es))) s) :
    wpAny (model prog w) A (compareOp .Eq (.ref a) (.ref b)) Q E s := by
  obtain ⟨as, qa⟩ := reads_rows (rows_at N ra)
  obtain ⟨bs, qb⟩ := reads_rows (rows_at N rb)
  exact eq_dataH (da := rowsP ds) (db := rowsP es) (reads_list_at (N _ ma).1 rfl rfl qa) (reads_list_at (N _ mb).1 rfl rfl qb) (rowsP_shaped _) (rowsP_shaped _) hu (by rw [eqv_rows]; exact h)
theorem ne_rowsD (N : News h₀ L s.heap news) (ma : (a, lobj xs ka) ∈ news) (ra : Rows news xs ds) (mb : (b, lobj ys kb) ∈ news) (rb : Rows news ys es) (hu : A.units + 64 < cLine) (h : Q (.bool (!decide (ds = es))) s) :
    wpAny (model prog w) A (compareOp .NotEq (.ref a) (.ref b)) Q E s := by
  obtain ⟨as, qa⟩ := reads_rows (rows_at N ra)
  obtain ⟨bs, qb⟩ := reads_rows (rows_at N rb)
  exact ne_dataH (da := rowsP ds) (db := rowsP es) (reads_list_at (N _ ma).1 rfl rfl qa) (reads_list_at (N _ mb).1 rfl rfl qb) (rowsP_shaped _) (rowsP_shaped _) hu (by rw [eqv_rows]; exact h)
theorem ne_nest0 (N : News h₀ L s.heap news) (ma : (a, lobj xs ka) ∈ news) (ra : RRows news xs dds) (mb : (b, lobj [] kb) ∈ news) (hu : A.units + 64 < cLine) (h : Q (.bool (!decide (dds = []))) s) :
    wpAny (model prog w) A (compareOp .NotEq (.ref a) (.ref b)) Q E s := by
  obtain ⟨as, qa⟩ := reads_nest (ra.mono fun v d _ ⟨b, c, us, e, hm, hi⟩ => ⟨b, us, e, ⟨_, (N _ hm).1, rfl, c, rfl⟩, rows_at N hi⟩)
  exact ne_dataH (da := nestP dds) (db := nestP []) (reads_list_at (N _ ma).1 rfl rfl qa) (reads_list_at (N _ mb).1 rfl rfl .nil) (nestP_shaped _) (nestP_shaped _) hu (by
    rw [nestP, nestP, PyData.eqv]
    cases dds with
    | nil => exact h
    | cons d r => exact h)
theorem ne_rows_some {d : List Int} (N : News h₀ L s.heap news) (ma : (a, lobj xs ka) ∈ news) (ra : Rows news xs (ds ++ [d])) (mb : (b, lobj [] kb) ∈ news) (hu : A.units + 64 < cLine) (h : Q (.bool true) s) :
    wpAny (model prog w) A (compareOp .NotEq (.ref a) (.ref b)) Q E s := ne_rowsD N ma ra mb alnil hu (by rw [decide_eq_false (by simp)]; exact h)
theorem eq_rows_some {d : List Int} (N : News h₀ L s.heap news) (ma : (a, lobj xs ka) ∈ news) (ra : Rows news xs (ds ++ [d])) (mb : (b, lobj [] kb) ∈ news) (hu : A.units + 64 < cLine) (h : Q (.bool false) s) :
    wpAny (model prog w) A (compareOp .Eq (.ref a) (.ref b)) Q E s := eq_rowsD N ma ra mb alnil hu (by rw [decide_eq_false (by simp)]; exact h)
end
end
end Mine
namespace Mine
section
open PySem.Calls
inductive PS1 (P Kd : Addr) (nx : List (Addr × Obj)) (rs : List (List Int)) (ks : List Int) : Prop
  | none (e1 : rs = []) (e2 : ks = []) (c1 c3 : Nat) (hl : nx = [(Kd, lobj [] c3), (P, lobj [] c1)]) (d : P ≠ Kd)
  | some (rs' : List (List Int)) (r : List Int) (e : rs = rs' ++ [r]) (h : PSt P Kd nx rs' r ks)
structure PG (rs : List (List Int)) (ks : List Int) (b : Int) : Prop where
  len : ks.length = rs.length
  kinds : ∀ k ∈ ks, k = 0 ∨ k = 1
  cps : ∀ row ∈ rs, ∀ c ∈ row, Cp c
  size : ((lensL rs : Nat) : Int) ≤ b
theorem PG.start : PG [] [] 0 := ⟨rfl, by simp, by simp, by simp [lensL]⟩
theorem PG.mono {rs : List (List Int)} {ks : List Int} {b b' : Int} (g : PG rs ks b) (h : b ≤ b') : PG rs ks b' := ⟨g.len, g.kinds, g.cps, Int.le_trans g.size h⟩
theorem PG.row {rs : List (List Int)} {r ks : List Int} {b k : Int} (g : PG rs ks b) (hk : k = 0 ∨ k = 1) (hr : r = [] ∨ r = [47]) : PG (rs ++ [r]) (ks ++ [k]) (b + 2) :=
  ⟨by simp [g.len], all_snoc g.kinds hk, all_snoc g.cps (by
    rcases hr with rfl | rfl
    · exact fun c hc => (nomatch hc)
    · intro c hc; rw [List.mem_singleton.mp hc]; exact ⟨by decide, by decide⟩), by
    have := g.size
    rw [lensL_snoc]
    rcases hr with rfl | rfl
    · rw [List.length_nil]; (first | lia | omega)
    · rw [show [(47 : Int)].length = 1 from rfl]; (first | lia | omega)⟩
theorem PG.sign {rs : List (List Int)} {r ks : List Int} {b c : Int} (g : PG (rs ++ [r]) ks b) (hc : Cp c) : PG (rs ++ [r ++ [c]]) ks (b + 1) :=
  ⟨by simpa using g.len, g.kinds, all_snoc (fun row hr => g.cps row (List.mem_append_left _ hr)) (all_snoc (g.cps r (by simp)) hc), by
    have := g.size
    rw [lensL_snoc] at this ⊢
    rw [List.length_append, show [c].length = 1 from rfl]; (first | lia | omega)⟩
theorem pst_first {P Kd n : Addr} {zs kvs : List Value} {r ks : List Int} {c1 c2 c3 : Nat} (hz : IntsAre zs r) (hk : IntsAre kvs ks) (d1 : P ≠ n) (d2 : P ≠ Kd) (d3 : n ≠ Kd) :
    PSt P Kd [(Kd, lobj kvs c3), (P, lobj [.ref n] c1), (n, lobj zs c2)] [] r ks := ⟨[], n, zs, kvs, c1, c2, c3, [], rfl, alnil, hz, hk, fun _ h => (nomatch h), d1, d2, d3⟩
theorem pst_rowX {P Kd a n : Addr} {own rest : List (Addr × Obj)} {oK oP oA : Obj} {vs zs zs' kvs : List Value} {rs : List (List Int)} {r r' ks : List Int} {c1 c2 c3 c4 : Nat} (hr : Rows rest vs rs) (hz : IntsAre zs r) (hz' : IntsAre zs' r') (hk : IntsAre kvs ks) (hd : ∀ p ∈ rest, p.1 ≠ P ∧ p.1 ≠ a ∧ p.1 ≠ Kd) (d1 : P ≠ a) (d2 : P ≠ Kd) (d3 : a ≠ Kd)
    (lt : ∀ p ∈ own ++ ((Kd, oK) :: (P, oP) :: (a, oA) :: rest), p.1 < n) : PSt P Kd ((Kd, lobj kvs c1) :: (P, lobj (vs ++ [.ref a] ++ [.ref n]) c2) :: (n, lobj zs' c3) :: (a, lobj zs c4) :: rest) (rs ++ [r]) r' ks :=
  ⟨vs ++ [.ref a], n, zs', kvs, c2, c3, c1, _, rfl, alsnoc (hr.sub fun p hp => .tail _ hp) ⟨a, c4, zs, rfl, .head _, hz⟩, hz', hk, fun p hp => by
    rcases List.mem_cons.mp hp with rfl | hp
    · exact ⟨Ne.symm d1, Nat.ne_of_lt (lt (a, oA) (by simp)), d3⟩
    · exact ⟨(hd p hp).1, Nat.ne_of_lt (lt p (by simp [hp])), (hd p hp).2.2⟩, Nat.ne_of_lt (lt (P, oP) (by simp)), d2, Nat.ne_of_gt (lt (Kd, oK) (by simp))⟩
section
variable {h₀ h h' : Heap} {L P Kd n : Addr} {own : List (Addr × Obj)} {oK oP oP' on : Obj}
theorem st_first (N : News h₀ L h ((n, on) :: (own ++ [(Kd, oK), (P, oP)]))) (hP : h'.get? P = some oP') (hk : ∀ b o, b ≠ P → h.get? b = some o → h'.get? b = some o)
    (lt : ∀ p ∈ own ++ [(Kd, oK), (P, oP)], p.1 < n) (hown : ∀ p ∈ own, p.1 ≠ P) (d1 : P ≠ Kd) : News h₀ L h' (own ++ [(Kd, oK), (P, oP'), (n, on)]) := by
  have ltP : P < n := lt (P, oP) (by simp)
  refine led_upd (o := oP) N (by simp) hP hk fun p hp => ?_
  rcases List.mem_append.mp hp with hp | hp
  · exact .inr ⟨by simp [hp], hown p hp⟩
  rcases List.mem_cons.mp hp with rfl | hp
  · exact .inr ⟨by simp, Ne.symm d1⟩
  rcases List.mem_cons.mp hp with rfl | hp
  · exact .inl rfl
  · rw [List.mem_singleton.mp hp]; exact .inr ⟨by simp, Nat.ne_of_gt ltP⟩
theorem off_first {Z : Addr → Prop} {oK' : Obj} (h : ∀ p ∈ [(Kd, oK), (P, oP)], Z p.1) (hn : Z n) : ∀ p ∈ [(Kd, oK'), (P, oP'), (n, on)], Z p.1 := fun p hp => by
  rcases List.mem_cons.mp hp with rfl | hp
  · exact h (Kd, oK) (by simp)
  rcases List.mem_cons.mp hp with rfl | hp
  · exact h (P, oP) (by simp)
  · rw [List.mem_singleton.mp hp]; exact hn
end
theorem ints_take {vs : List Value} {ns : List Int} (h : IntsAre vs ns) (i : Nat) : IntsAre (vs.take i) (ns.take i) := by
  induction h generalizing i with
  | nil => simp only [List.take_nil]; exact .nil
  | cons n t h ih =>
    cases i with
    | zero => exact .nil
    | succ i => exact .cons _ _ (ih i)
theorem ints_drop {vs : List Value} {ns : List Int} (h : IntsAre vs ns) (i : Nat) : IntsAre (vs.drop i) (ns.drop i) := by
  induction h generalizing i with
  | nil => simp only [List.drop_nil]; exact .nil
  | cons n t h ih =>
    cases i with
    | zero => exact .cons _ _ h
    | succ i => exact ih i
theorem ints_pick {vs : List Value} {ns : List Int} (h : IntsAre vs ns) (lo hi : Option Int) : ∃ ms, IntsAre (kms_pick vs lo hi) ms := ⟨_, ints_take (ints_drop h _) _⟩
theorem ints_pick1 {vs : List Value} {ns : List Int} (h : IntsAre vs ns) : IntsAre (kms_pick vs none (some 1)) (ns.take 1) := by
  rw [pick_upto (by decide)]; exact ints_take h 1
section
variable {prog : Program} {w : World} {A : Around} {E : Value → Shared → Prop} {s : Shared}
theorem item_first {value slice : Expr} {l : Addr} {v : Value} {vs : List Value} {u : Tok} {Q : Value → Shared → Prop} (hl : s.heap.IsList l vs.toArray) (hx : vs[0]? = some v) (h : Q v s)
    (hs : subscripted slice false (.ref l) (.int 0 u) = operate [.ref l, .int 0 u] (getItem (.ref l) (.int 0 u)) := by with_unfolding_all rfl) (hg : ∀ r, letTemporaryGo value (.ref l) r = pure () := by intro _; with_unfolding_all rfl) :
    wpAny (model prog w) A (subscriptTail value slice (.ref l) (.int 0 u)) Q E s := by
  cases vs with
  | nil => cases hx
  | cons a r => cases hx; exact item_zero hl h hs hg
end
end
end Mine
namespace Mine
section
open PySem.Calls
theorem bo_args_hash (a : Bool) : argsOk "int.__hash__" ⟨[.bool a], []⟩ := by unfold argsOk; kernel_rfl
noncomputable def bhash (b : Bool) : Int := if b then 1 else 0
section
variable {prog : Program} {w : World} {A : Around} {E : Value → Shared → Prop} {s : Shared}
theorem bo_type (b : Bool) : s.TypeIs (.bool b) "bool" := rfl
theorem hash_bool {b : Bool} {Q : Int → Shared → Prop} (h : Q (bhash b) { s with toks := s.toks + 1 }) : wpAny (model prog w) A (pyHash (.bool b)) Q E s := by
  unfold pyHash
  have hv : [Value.bool b].any Value.onHeap = false := rfl
  refine wpAny_bind ?_
  rw [cRoomFor, if_neg (by rw [hv]; exact Bool.false_ne_true)]; refine wpAny_pure ?_
  refine wpAny_bind (wpAny_specialOf (bo_type b) F.slot_bool_hash.lookup ?_)
  show wpAny _ _ (if (some (Value.builtin "int.__hash__") == some Value.none) = true then _ else _) Q E s
  rw [if_neg (by rw [beq_builtin_none]; exact Bool.false_ne_true)]
  refine wpAny_bind (wpAny_specialOf (bo_type b) F.slot_bool_hash.lookup ?_)
  show wpAny _ _ (callSpecialIfBoundUnlessNone? (.bool b) "__hash__" _ >>= _) Q E s
  cases b with
  | true =>
    refine wpAny_bind (wpAny_callSpecialIfBoundUnlessNone?_slot (bo_type true) F.slot_bool_hash
      (wpAny_call_entry F.slot_bool_hash (bo_type true) entry_int_hash
        (show wpAny _ _ (do ret (← mkInt (rawHash 1))) _ _ s from wpAny_ret_mkInt ?_) (bo_args_hash _)))
    show wpAny _ _ (if (decide (-(2 : Int) ^ 63 ≤ rawHash 1) && decide (rawHash 1 < 2 ^ 63)) = true then _ else _) Q E _
    rw [if_pos (by decide)]
    exact wpAny_pure h
  | false =>
    refine wpAny_bind (wpAny_callSpecialIfBoundUnlessNone?_slot (bo_type false) F.slot_bool_hash
      (wpAny_call_entry F.slot_bool_hash (bo_type false) entry_int_hash
        (show wpAny _ _ (do ret (← mkInt (rawHash 0))) _ _ s from wpAny_ret_mkInt ?_) (bo_args_hash _)))
    show wpAny _ _ (if (decide (-(2 : Int) ^ 63 ≤ rawHash 0) && decide (rawHash 0 < 2 ^ 63)) = true then _ else _) Q E _
    rw [if_pos (by decide)]
    exact wpAny_pure h
theorem eqB_bool {a b : Bool} {Q : Bool → Shared → Prop} (h : Q (a == b) s) : wpAny (model prog w) A (eqBool (.bool a) (.bool b)) Q E s := by
  unfold eqBool
  show wpAny _ _ (if (Value.bool a == Value.bool b) = true then _ else _) Q E s
  by_cases hab : (Value.bool a == Value.bool b) = true
  · rw [if_pos hab]
    have e : a = b := by have := eq_of_beq hab; injection this
    subst e
    exact wpAny_bind (wpAny_rule (wpAny_pure (by simpa using h)))
  · rw [if_neg hab]
    exact wpAny_bind (eq_bool (wpAny_truthy_bool h))
end
noncomputable def bls (f t : Bool) : List Bool := (if f then [false] else []) ++ (if t then [true] else [])
noncomputable def bes (f t : Bool) : List (Int × Value) := (bls f t).map fun c => (bhash c, .bool c)
noncomputable def btab (led f t : Bool) : SetTable := { mask := 7, place := ((bls f t).map fun c => if c then 1 else 0).toArray, dummies := #[], finger := 0, led := led, moves := 0, plain := true }
noncomputable def bset (led : Bool) (ep : Nat) (f t : Bool) : Obj := { cls := .type "set", dict := none, data := .set (bes f t).toArray ep (btab led f t) }
noncomputable def byText (prog : Program) (w : World) : Bool := (Setting.mk prog w.params).params.followText "set-order"
section
variable {prog : Program} {w : World} {A : Around} {E : Value → Shared → Prop} {s : Shared} {a : Addr} {led f t : Bool} {ep : Nat}
theorem bst_state {Q : (Array (Int × Value) × Nat × SetTable) → Shared → Prop} (ho : s.heap.get? a = some (bset led ep f t)) (h : Q ((bes f t).toArray, ep, btab led f t) s) : wpAny (model prog w) A (setState a) Q E s := by
  unfold setState
  refine wpAny_bind (wpAny_load ho ?_)
  cases f <;> cases t <;> exact wpAny_pure h
theorem bhash_inj {a b : Bool} (h : (bhash a == bhash b) = true) : a = b := by cases a <;> cases b <;> first | rfl | (exact absurd h (by decide))
theorem bst_scan {b : Bool} (ho : s.heap.get? a = some (bset led ep f t)) : ∀ (l : List Bool) (i : Nat) {Q : ScanMet → Shared → Prop}, Q (match l.findIdx? (fun c => c == b) with | some j => .found (i + j) | none => .absent) s →
    wpAny (model prog w) A (setScanFrom a (.bool b) (bhash b) true (l.map fun c => (bhash c, Value.bool c)) i) Q E s
  | [], i, Q, h => by unfold setScanFrom; simpa using wpAny_pure h
  | c :: r, i, Q, h => by
    have ih := bst_scan ho r (i + 1) (Q := Q) (b := b)
    unfold setScanFrom
    rw [List.map_cons]
    dsimp only
    by_cases hq : (bhash c == bhash b) = true
    · obtain rfl := bhash_inj hq
      rw [if_pos hq]
      unfold setEpoch
      refine wpAny_bind (wpAny_bind (bst_state ho (wpAny_pure ?_)))
      refine wpAny_bind (eqB_bool ?_)
      rw [show (true && (c == c)) = true from by simp, if_pos rfl]
      rw [List.findIdx?_cons, if_pos (by simp)] at h
      exact wpAny_pure h
    · rw [if_neg hq]
      have hne : ¬ (c == b) = true := fun q => hq (by rw [eq_of_beq q]; simp)
      refine ih ?_
      rw [List.findIdx?_cons, if_neg hne] at h
      cases q : List.findIdx? (fun c => c == b) r with
      | none => rw [q] at h; exact h
      | some j => rw [q] at h; simp only [Option.map_some] at h; dsimp only at h ⊢; rw [show i + 1 + j = i + (j + 1) from by (first | lia | omega)]; exact h
theorem blay {b : Bool} (h : (bls f t).findIdx? (fun c => c == b) = none) : layNew (btab led f t) (bes f t).toArray (bhash b) (.bool b) = ((bes (f || !b) (t || b)).toArray, btab led (f || !b) (t || b), false, false) := by
  cases f <;> cases t <;> cases b <;> first | (exact absurd h (by decide)) | (cases led <;> kernel_rfl)
theorem bfull : (btab led f t).tooFull = false := by cases f <;> cases t <;> rfl
theorem bsame {b : Bool} {j : Nat} (h : (bls f t).findIdx? (fun c => c == b) = some j) : (f || !b) = f ∧ (t || b) = t := by
  cases f <;> cases t <;> cases b <;> first | exact ⟨rfl, rfl⟩ | (exfalso; revert h; simp [bls])
theorem bst_add {b : Bool} {Q : Value → Shared → Prop} (ho : s.heap.get? a = some (bset led ep f t))
    (h : ∀ h' ep', Heap.SameBut a s.heap h' → h'.get? a = some (bset led ep' (f || !b) (t || b)) → Q .none { s with heap := h', toks := s.toks + 1 }) :
    wpAny (model prog w) A (call (.builtin "set.add") [.ref a, .bool b]) Q E s := by
  have hT : s.TypeIs (.ref a) "set" := ⟨_, ho, rfl⟩
  refine wpAny_call_entry F.slot_set_add hT F.entry_set_add ?_ (F.args_set_add_2 _ _)
  unfold Builtin.«set.add» Builtin.Frozenset.oneOther
  simp only [List.isEmpty_nil, bind_assoc]
  unfold Builtin.Frozenset.addrOf setAdd
  refine wpAny_bind (wpAny_pure ?_)
  try dsimp only
  refine wpAny_bind (wpAny_pure ?_)
  try dsimp only
  refine wpAny_bind ?_
  refine wpAny_holding ?_
  refine wpAny_bind (hash_bool ?_)
  unfold setAddHashed setAddHashedIn
  refine wpAny_holding (wpAny_bind (bst_state (s := { s with toks := s.toks + 1 }) ho ?_))
  dsimp only
  have hb : byScan (.bool b) (bes f t).toArray = true := by cases f <;> cases t <;> cases b <;> first | decide | kernel_rfl
  rw [hb]
  simp -iota only [↓reduceIte]
  unfold setAddByScan
  refine wpAny_bind ?_
  refine wpAny_bind (wpAny_rule ?_)
  refine wpAny_bind ?_
  unfold setScan
  show wpAny _ _ (setScanFrom a (.bool b) (bhash b) true (bes f t) 0) _ _ _
  refine bst_scan (s := { s with toks := s.toks + 1 }) ho _ 0 ?_
  cases hr : (bls f t).findIdx? (fun c => c == b) with
  | some j =>
    dsimp only
    refine wpAny_pure (wpAny_pure ?_)
    obtain ⟨e1, e2⟩ := bsame hr
    exact wpAny_pure ⟨_, rfl, h s.heap ep (Heap.SameBut.refl a s.heap) (by rw [e1, e2]; exact ho)⟩
  | none =>
    dsimp only
    rw [blay hr]
    dsimp only
    refine wpAny_bind (wpAny_pure ?_)
    rw [show (btab led (f || !b) (t || b)).plain = true from rfl]
    simp -iota only [if_true]
    refine wpAny_bind ?_
    rw [hashByValue_scannable 8 (show (Value.bool b).scannable = true from rfl)]
    refine wpAny_pure ?_
    rw [show plainKind (Value.bool b) = true from rfl]
    simp -iota only [if_true]
    have hc : ((bes (f || !b) (t || b)).toArray).size < scanBound := by
      cases f <;> cases t <;> cases b <;> decide
    refine wpAny_bind (wpAny_storeSet_of (s := { s with toks := s.toks + 1 }) ho rfl ?_ (fits_of_scanBound hc))
    rw [bfull]
    simp -iota only [Bool.and_false, Bool.false_eq_true, if_false]
    refine wpAny_pure (wpAny_pure (wpAny_pure ⟨_, rfl, h _ (ep + 1) (Heap.SameBut.update ..) ?_⟩))
    rw [Heap.get?_update_self _ ho (by rw [putSet_of _ _ rfl]; rfl), putSet_of _ _ rfl]
    rfl
end
theorem si_next : Slot "set_iterator" "__next__" "set_iterator.__next__" :=
  .of (owner := "set_iterator") (n := "__next__") (by rw [typeLookup_type, builtinLookup_eq_fast]; kernel_rfl) (by decide +kernel) (by decide +kernel) (by decide +kernel)
    (by first | exact .inl (by decide +kernel) | exact .inr (by decide +kernel)) (by rw [isSubtype_type]; kernel_rfl)
theorem si_entry : entryFor table "set_iterator.__next__" = some Builtin.«set_iterator.__next__» := entryFor_of_tree (by kernel_rfl)
theorem si_args (a : Value) : argsOk "set_iterator.__next__" ⟨[a], []⟩ := by unfold argsOk; kernel_rfl
theorem si_entry_iter : entryFor table "set.__iter__" = some Builtin.«frozenset.__iter__» :=
  entryFor_alias (id' := "frozenset.__iter__") (by kernel_rfl) rfl (by decide +kernel) (by kernel_rfl)
noncomputable abbrev sitObj (a : Addr) (slot i n ep : Nat) : Obj := { cls := .type "set_iterator", data := .fields #[rawInt slot, rawInt i, .ref a, rawInt n, rawInt ep] }
theorem pick_go {α : Type} (next : Nat → Nat) {n k i : Nat} {l : List α} {out : Array α} {x : α} (hi : next k % l.length = i) (h : l[i]? = some x) : pickOrder.go next (n + 1) k l out = pickOrder.go next n (k + 1) (l.eraseIdx i) (out.push x) := by
  show (match l[next k % l.length]? with | some y => pickOrder.go next n (k + 1) (l.eraseIdx (next k % l.length)) (out.push y) | none => out) = _
  rw [hi, h]
theorem pick1 {α : Type} (next : Nat → Nat) (x : α) : pickOrder next #[x] = #[x] := pick_go next (n := 0) (l := [x]) (Nat.mod_one _) rfl
theorem pick2 {α : Type} (next : Nat → Nat) (x y : α) : pickOrder next #[x, y] = #[x, y] ∨ pickOrder next #[x, y] = #[y, x] := by
  have one : ∀ z v : α, pickOrder.go next 1 1 [z] #[v] = #[v, z] := fun z v => pick_go next (n := 0) (l := [z]) (Nat.mod_one _) rfl
  rcases Nat.mod_two_eq_zero_or_one (next 0) with h | h
  · exact .inl ((pick_go next (n := 1) (l := [x, y]) h rfl).trans (one y x))
  · exact .inr ((pick_go next (n := 1) (l := [x, y]) h rfl).trans (one x y))
theorem pick2_len {α : Type} (next : Nat → Nat) (x y : α) : (pickOrder next #[x, y]).size = 2 := by rcases pick2 next x y with e | e <;> rw [e] <;> rfl
theorem ask_text {prog : Program} {w : World} : (Setting.mk (model prog w).prog (model prog w).w.params).params.followText "set-order" = byText prog w := rfl
noncomputable def slot1 (prog : Program) (w : World) (f : Bool) : Nat := if byText prog w then 0 else if f then 1 else 2
section
variable {prog : Program} {w : World} {A : Around} {E : Value → Shared → Prop} {s : Shared} {a : Addr} {led f t : Bool} {ep : Nat}
theorem bst_walk {Q : Array (Int × Value) → Shared → Prop} (hb : byText prog w = true) (ho : s.heap.get? a = some (bset led ep f t)) (h : ∀ es, es.size = (bls f t).length → (∀ b, bls f t = [b] → es = #[(bhash b, .bool b)]) → Q es s) : wpAny (model prog w) A (setWalk a) Q E s := by
  unfold setWalk
  refine wpAny_bind (bst_state ho ?_)
  dsimp only
  unfold setsByText
  refine wpAny_bind (wpAny_bind (wpAny_askSetting (wpAny_pure ?_)))
  rw [ask_text, hb]
  simp -iota only [if_true]
  refine wpAny_bind (wpAny_askSetting (wpAny_pure (h _ ?_ ?_)))
  · cases f <;> cases t
    · rfl
    · rw [show (bes false true).toArray = #[(bhash true, Value.bool true)] from rfl, pick1]; rfl
    · rw [show (bes true false).toArray = #[(bhash false, Value.bool false)] from rfl, pick1]; rfl
    · rw [show (bes true true).toArray = #[(bhash false, Value.bool false), (bhash true, Value.bool true)] from rfl]
      exact pick2_len _ _ _
  · intro b e
    have e2 : (bes f t).toArray = #[(bhash b, Value.bool b)] := by unfold bes; rw [e]; rfl
    rw [e2, pick1]
theorem bst_next0 {Q : Option (Value × Nat) → Shared → Prop} (ho : s.heap.get? a = some (bset (!byText prog w) ep f t)) (hne : bls f t ≠ []) (h : ∀ v, (∀ b, bls f t = [b] → v = .bool b) → Q (some (v, slot1 prog w f)) s) :
    wpAny (model prog w) A (setNext a 0 0 ep) Q E s := by
  unfold setNext
  refine wpAny_bind (bst_state ho ?_)
  dsimp only
  unfold setsByText
  refine wpAny_bind (wpAny_bind (wpAny_askSetting (wpAny_pure ?_)))
  cases hb : byText prog w with
  | true =>
    rw [ask_text, hb]
    simp -iota only [if_true, bne_self_eq_false, Bool.false_eq_true, if_false]
    refine wpAny_bind (bst_walk hb ho fun es hz h1 => wpAny_pure ?_)
    have hp : 0 < es.size := by rw [hz]; exact List.length_pos_iff.mpr hne
    rw [Array.getElem?_eq_getElem hp]
    have := h es[0].2 (fun b e => by
      have := h1 b e
      subst this; rfl)
    simpa [slot1, hb] using this
  | false =>
    rw [ask_text, hb]
    rw [hb] at ho
    simp -iota only [Bool.false_eq_true, if_false, Bool.not_false]
    have hq := h (.bool (!f)) (fun b e => by cases f <;> cases t <;> simp [bls] at e <;> subst e <;> rfl)
    simp -iota only [slot1, hb, Bool.false_eq_true, if_false] at hq
    cases f <;> cases t
    · exact absurd rfl hne
    all_goals
      split
      · rename_i q; exact absurd q (by decide)
      · refine wpAny_bind ?_
        exact wpAny_pure (wpAny_pure hq)
theorem bst_next1 {Q : Option (Value × Nat) → Shared → Prop} (ho : s.heap.get? a = some (bset (!byText prog w) ep f t)) (hne : bls f t ≠ []) (h : (∀ b, bls f t = [b] → Q none s)) (h2 : f = true → t = true → ∀ v k, Q (some (v, k)) s) :
    wpAny (model prog w) A (setNext a (slot1 prog w f) 1 ep) Q E s := by
  unfold setNext
  refine wpAny_bind (bst_state ho ?_)
  dsimp only
  unfold setsByText
  refine wpAny_bind (wpAny_bind (wpAny_askSetting (wpAny_pure ?_)))
  cases hb : byText prog w with
  | true =>
    rw [ask_text, hb]
    simp -iota only [if_true, bne_self_eq_false, Bool.false_eq_true, if_false]
    refine wpAny_bind (bst_walk hb ho fun es hz h1 => wpAny_pure ?_)
    cases f <;> cases t
    · exact absurd rfl hne
    · rw [h1 true rfl]; exact h true rfl
    · rw [h1 false rfl]; exact h false rfl
    · have hp : 1 < es.size := by rw [hz]; decide
      rw [Array.getElem?_eq_getElem hp]
      exact h2 rfl rfl _ _
  | false =>
    rw [ask_text, hb]
    rw [hb] at ho
    simp -iota only [Bool.false_eq_true, if_false, Bool.not_false]
    simp -iota only [slot1, hb, Bool.false_eq_true, if_false]
    cases f <;> cases t
    · exact absurd rfl hne
    all_goals
      split
      · rename_i q; exact absurd q (by decide)
      · refine wpAny_bind ?_
        first
          | exact wpAny_pure (wpAny_pure (h true rfl))
          | exact wpAny_pure (wpAny_pure (h false rfl))
          | exact wpAny_pure (wpAny_pure (h2 rfl rfl _ _))
end
section
variable {prog : Program} {w : World} {A : Around} {E : Value → Shared → Prop} {s : Shared} {a I : Addr} {led f t : Bool} {ep n : Nat}
theorem bst_iter {Q : Value → Shared → Prop} (ho : s.heap.get? a = some (bset (!byText prog w) ep f t))
    (h : Q (.ref s.heap.objs.size) { s with heap := s.heap.push (sitObj a 0 0 (bls f t).length ep) }) : wpAny (model prog w) A (pyIter (.ref a)) Q E s := by
  have hT : s.TypeIs (.ref a) "set" := ⟨_, ho, rfl⟩
  refine wpAny_pyIter_slot hT F.slot_set_iter (wpAny_call_entry F.slot_set_iter hT si_entry_iter ?_ (F.args_set_iter_1 _))
  unfold Builtin.«frozenset.__iter__» Builtin.Frozenset.slot0 slotArgs
  simp only [List.isEmpty_nil, Bool.not_true, Bool.false_eq_true, ↓reduceIte, bind_assoc, List.length_nil, bne_self_eq_false]
  unfold Builtin.Frozenset.addrOf Builtin.Frozenset.sizeOf
  refine wpAny_bind (wpAny_pure ?_)
  try dsimp only
  refine wpAny_bind (wpAny_pure ?_)
  try dsimp only
  unfold setEntries
  simp -iota only [bind_assoc]
  refine wpAny_bind (bst_state ho ?_)
  try dsimp only
  refine wpAny_bind (wpAny_pure ?_)
  try dsimp only
  refine wpAny_bind (wpAny_pure ?_)
  try dsimp only
  unfold setDrawn
  simp -iota only [bind_assoc]
  refine wpAny_bind (bst_state ho ?_)
  try dsimp only
  unfold setsByText
  simp -iota only [bind_assoc]
  refine wpAny_bind (wpAny_askSetting ?_)
  refine wpAny_bind (wpAny_pure ?_)
  refine wpAny_bind (wpAny_pure ?_)
  split
  · rename_i q
    exact absurd (show _ = true from (Bool.and_eq_true_iff.mp q).2) (by generalize (!byText prog w) = l; cases l <;> cases f <;> cases t <;> decide)
  · refine wpAny_bind (wpAny_pure ?_)
    unfold setEpoch
    simp -iota only [bind_assoc]
    refine wpAny_bind (bst_state ho ?_)
    try dsimp only
    refine wpAny_bind (wpAny_pure ?_)
    unfold newFields
    have e : (bes f t).toArray.size = (bls f t).length := by unfold bes; simp
    refine wpAny_bind (wpAny_newObj_type (wpAny_pure ⟨_, rfl, "set_iterator", _, ⟨_, Heap.get?_push_size _ rfl, rfl⟩, si_next.lookup, ?_⟩) (by size_fits))
    rw [e]
    exact h
theorem sit_next0 {Q : Option Value → Shared → Prop} (ho : s.heap.get? a = some (bset (!byText prog w) ep f t)) (hi : s.heap.get? I = some (sitObj a 0 0 (bls f t).length ep)) (hne : bls f t ≠ [])
    (h : ∀ v h', (∀ b, bls f t = [b] → v = .bool b) → Heap.SameBut I s.heap h' → h'.get? I = some (sitObj a (slot1 prog w f) 1 (bls f t).length ep) → Q (some v) { s with heap := h' }) : wpAny (model prog w) A (pyNext (.ref I)) Q E s := by
  have hT : s.TypeIs (.ref I) "set_iterator" := ⟨_, hi, rfl⟩
  unfold pyNext
  refine wpAny_bind (wpAny_attempt (wpAny_callSpecial?_slot (name := Str.ofString "__next__") hT si_next (wpAny_call_entry si_next hT si_entry ?_ (si_args _))))
  show wpAny _ _ (fieldsOf (.ref I) >>= _) _ _ s
  refine wpAny_bind (wpAny_fieldsOf hi rfl ?_)
  show wpAny _ _ (setEntries a >>= _) _ _ s
  unfold setEntries
  refine wpAny_bind (wpAny_bind (bst_state ho (wpAny_pure ?_)))
  have e : (bes f t).toArray.size = (bls f t).length := by unfold bes; simp
  dsimp only
  rw [e, if_neg (by simp)]
  show wpAny _ _ (setNext a 0 0 ep >>= _) _ _ s
  refine wpAny_bind (bst_next0 ho hne fun v hv => ?_)
  dsimp only
  refine wpAny_bind (wpAny_setField_rec hi (by simp) fun h₁ h1 s1 => ?_)
  refine wpAny_bind (wpAny_setField_rec h1 (by simp) fun h₂ h2 s2 => ?_)
  exact wpAny_pure ⟨_, rfl, wpAny_pure (h v h₂ hv (s1.trans s2) h2)⟩
theorem sit_next1 {Q : Option Value → Shared → Prop} (hh : A.handled = none) (hne : bls f t ≠ []) (hIa : a ≠ I) (ho : s.heap.get? a = some (bset (!byText prog w) ep f t)) (hi : s.heap.get? I = some (sitObj a (slot1 prog w f) 1 (bls f t).length ep))
    (h1 : ∀ b, bls f t = [b] → ∀ h', Heap.ExtBut I s.heap h' → Q none { s with heap := h' }) (h2 : f = true → t = true → ∀ v h', Heap.ExtBut I s.heap h' → Q (some v) { s with heap := h' }) : wpAny (model prog w) A (pyNext (.ref I)) Q E s := by
  have hT : s.TypeIs (.ref I) "set_iterator" := ⟨_, hi, rfl⟩
  unfold pyNext
  refine wpAny_bind (wpAny_attempt (wpAny_callSpecial?_slot (name := Str.ofString "__next__") hT si_next (wpAny_call_entry si_next hT si_entry ?_ (si_args _))))
  show wpAny _ _ (fieldsOf (.ref I) >>= _) _ _ s
  refine wpAny_bind (wpAny_fieldsOf hi rfl ?_)
  show wpAny _ _ (setEntries a >>= _) _ _ s
  unfold setEntries
  refine wpAny_bind (wpAny_bind (bst_state ho (wpAny_pure ?_)))
  have e : (bes f t).toArray.size = (bls f t).length := by unfold bes; simp
  dsimp only
  rw [e, if_neg (by simp)]
  show wpAny _ _ (setNext a (slot1 prog w f) 1 ep >>= _) _ _ s
  refine wpAny_bind (bst_next1 ho hne (fun b hb => ?_) fun ef et v k => ?_)
  · dsimp only
    refine wpAny_bind (wpAny_setField_rec hi (by simp) fun h₁ hi1 s1 => ?_)
    exact wpAny_mono (stop_ok (A₂ := A) (E := E) (s := { s with heap := h₁ }) (h₀ := s.heap) (.inl hh) s1.extBut (h1 b hb)) (fun _ _ q => q.elim) (fun _ _ q => q)
  · dsimp only
    refine wpAny_bind (wpAny_setField_rec hi (by simp) fun h₁ hi1 s1 => ?_)
    refine wpAny_bind (wpAny_setField_rec hi1 (by simp) fun h₂ hi2 s2 => ?_)
    exact wpAny_pure ⟨_, rfl, wpAny_pure (h2 ef et v h₂ (s1.trans s2).extBut)⟩
theorem bst_unpack1 {b : Bool} {Q : List Value → Shared → Prop} (hh : A.handled = none) (hb : bls f t = [b]) (ho : s.heap.get? a = some (bset (!byText prog w) ep f t))
    (h : ∀ h', Kp s.heap h' → Q [.bool b] { s with heap := h' }) : wpAny (model prog w) A (unpackItems (.ref a) 1 none) Q E s := by
  have hT : s.TypeIs (.ref a) "set" := ⟨_, ho, rfl⟩
  have hne : bls f t ≠ [] := by rw [hb]; simp
  have hlt : a ≠ s.heap.objs.size := Nat.ne_of_lt (Heap.lt_size ho)
  unfold unpackItems
  refine wpAny_bind ?_
  unfold notIterableAtAll
  refine wpAny_bind (wpAny_specialOf hT F.slot_set_iter.lookup ?_)
  refine wpAny_pure ?_
  simp -iota only [Bool.false_eq_true, if_false]
  refine wpAny_bind (wpAny_holding (bst_iter ho ?_))
  have ho1 : (s.heap.push (sitObj a 0 0 (bls f t).length ep)).get? a = some (bset (!byText prog w) ep f t) := Heap.get?_push_of_some _ ho
  refine wpAny_bind (wpAny_holding ?_)
  show wpAny _ _ (pyNext (.ref s.heap.objs.size) >>= _) _ _ _
  refine wpAny_bind (sit_next0 (s := { s with heap := s.heap.push (sitObj a 0 0 (bls f t).length ep) }) ho1 (Heap.get?_push_size _ rfl) hne fun v h₁ hv s1 hi1 => ?_)
  obtain rfl := hv b hb
  dsimp only
  refine wpAny_bind (wpAny_holding (wpAny_pure (wpAny_pure ?_)))
  rw [if_neg (by simp)]
  refine wpAny_bind (wpAny_holding (sit_next1 (s := { s with heap := h₁ }) hh hne hlt (s1.extBut _ _ hlt ho1) hi1 (fun b' hb' h₂ s2 => ?_) (fun ef et => ?_)))
  · simp -iota only [Option.isSome_none, Bool.false_eq_true, if_false]
    exact wpAny_pure (h h₂ fun c o e => s2 c o (Nat.ne_of_lt (Heap.lt_size e)) (s1.extBut _ _ (Nat.ne_of_lt (Heap.lt_size e)) (Heap.get?_push_of_some _ e)))
  · subst ef et; exact absurd hb (by simp [bls])
theorem bst_unpack2 {Q : List Value → Shared → Prop} (hh : A.handled = none) (ho : s.heap.get? a = some (bset (!byText prog w) ep true true))
    (h : ∀ h' tk e, Heap.NewExc s.heap h' e "ValueError" → E (.ref e) { s with heap := h', toks := tk }) : wpAny (model prog w) A (unpackItems (.ref a) 1 none) Q E s := by
  have hT : s.TypeIs (.ref a) "set" := ⟨_, ho, rfl⟩
  have hne : bls true true ≠ [] := by simp [bls]
  have hlt : a ≠ s.heap.objs.size := Nat.ne_of_lt (Heap.lt_size ho)
  unfold unpackItems
  refine wpAny_bind ?_
  unfold notIterableAtAll
  refine wpAny_bind (wpAny_specialOf hT F.slot_set_iter.lookup ?_)
  refine wpAny_pure ?_
  simp -iota only [Bool.false_eq_true, if_false]
  refine wpAny_bind (wpAny_holding (bst_iter ho ?_))
  have ho1 : (s.heap.push (sitObj a 0 0 (bls true true).length ep)).get? a = some (bset (!byText prog w) ep true true) := Heap.get?_push_of_some _ ho
  refine wpAny_bind (wpAny_holding ?_)
  show wpAny _ _ (pyNext (.ref s.heap.objs.size) >>= _) _ _ _
  refine wpAny_bind (sit_next0 (s := { s with heap := s.heap.push (sitObj a 0 0 (bls true true).length ep) }) ho1 (Heap.get?_push_size _ rfl) hne fun v h₁ hv s1 hi1 => ?_)
  dsimp only
  refine wpAny_bind (wpAny_holding (wpAny_pure (wpAny_pure ?_)))
  rw [if_neg (by simp)]
  refine wpAny_bind (wpAny_holding (sit_next1 (s := { s with heap := h₁ }) hh hne hlt (s1.extBut _ _ hlt ho1) hi1 (fun b' hb' => ?_) (fun _ _ v h₂ s2 => ?_)))
  · exact absurd hb' (by simp [bls])
  · simp -iota only [Option.isSome_some, if_true]
    refine wpAny_bind (wpAny_rule (wpAny_bind ?_))
    refine wpAny_raiseErrorMade plainExc_ValueError hh (fun h' tk e x => ?_) (by rw [sizeLine_eq]; decide +kernel)
    have kp : Kp s.heap h₂ := fun c o q => s2 c o (Nat.ne_of_lt (Heap.lt_size q)) (s1.extBut _ _ (Nat.ne_of_lt (Heap.lt_size q)) (Heap.get?_push_of_some _ q))
    refine h h' tk e ⟨fun c o q => x.keeps c o (kp c o q), ?_, x.there⟩
    cases q : s.heap.get? e with
    | none => rfl
    | some o => have := x.new; rw [show ({ s with heap := h₂ } : Shared).heap.get? e = some o from kp e o q] at this; cases this
end
theorem bset_new {prog : Program} {w : World} {A : Around} {E : Value → Shared → Prop} {s : Shared} {Q : Value → Shared → Prop}
    (h : Q (.ref s.heap.objs.size) { s with heap := s.heap.push (bset (!byText prog w) 0 false false) }) : wpAny (model prog w) A (newSet (.type "set")) Q E s := by
  unfold newSet setsByText
  refine wpAny_bind (wpAny_bind (wpAny_askSetting (wpAny_pure ?_)))
  dsimp only
  rw [ask_text]
  exact wpAny_newObj_type h (by size_fits)
end
end Mine
namespace Mine
section
open PySem.Calls
noncomputable def sl1 (r : List Int) : Bool := decide (r.take 1 = [47])
theorem egv_bool (a b : Bool) : MeetsSeq.EqGives (.bool a) (.bool b) (a == b) := fun _ _ _ _ _ _ h => eqB_bool h
section
variable {prog : Program} {w : World} {A : Around} {E : Value → Shared → Prop} {s : Shared}
noncomputable def isB (k : Bool) : Value → Bool
  | .bool a => a == k
  | _ => false
theorem in_slash {l : Addr} {rs : List (List Int)} {k : Bool} {Q : Value → Shared → Prop} (hl : s.heap.IsList l (rs.map fun r => Value.bool (sl1 r)).toArray) (h : Q (.bool (rs.any fun r => sl1 r == k)) s) :
    wpAny (model prog w) A (compareOp .In (.bool k) (.ref l)) Q E s :=
  SeqInW.in_listW (isB k) (fun y hy => by
    obtain ⟨r, _, rfl⟩ := List.mem_map.mp (by simpa using hy : y ∈ rs.map fun r => Value.bool (sl1 r))
    exact egv_bool (sl1 r) k) hl (by
    rw [← Array.any_toList, show ((rs.map fun r => Value.bool (sl1 r)).toArray.toList.any (isB k)) = rs.any fun r => sl1 r == k from by
      simp only [List.toList_toArray, List.any_map]; rfl]; exact h)
end
noncomputable def qsOf (ks : List Int) (rs : List (List Int)) : List (Bool × List Nat) := List.zipWith (fun k r => (k == 1, r.map Int.toNat)) ks rs
theorem qs_at {ks : List Int} {rs : List (List Int)} {i : Nat} {k : Int} {r : List Int} (hk : ks[i]? = some k) (hr : rs[i]? = some r) : (qsOf ks rs)[i]? = some (k == 1, r.map Int.toNat) := by
  simp [qsOf, List.getElem?_zipWith, hk, hr]
theorem qs_fst : ∀ {ks : List Int} {rs : List (List Int)}, ks.length = rs.length → (qsOf ks rs).map (·.1) = ks.map (· == 1)
  | [], [], _ => rfl
  | k :: ks, r :: rs, h => by
    have ih := qs_fst (ks := ks) (rs := rs) (by simpa using h)
    rw [show qsOf (k :: ks) (r :: rs) = (k == 1, r.map Int.toNat) :: qsOf ks rs from rfl, List.map_cons, ih]; rfl
  | [], _ :: _, h => by simp at h
  | _ :: _, [], h => by simp at h
theorem qs_snd : ∀ {ks : List Int} {rs : List (List Int)}, ks.length = rs.length → (qsOf ks rs).map (·.2) = rs.map (·.map Int.toNat)
  | [], [], _ => rfl
  | k :: ks, r :: rs, h => by
    have ih := qs_snd (ks := ks) (rs := rs) (by simpa using h)
    rw [show qsOf (k :: ks) (r :: rs) = (k == 1, r.map Int.toNat) :: qsOf ks rs from rfl, List.map_cons, ih]; rfl
  | [], _ :: _, h => by simp at h
  | _ :: _, [], h => by simp at h
theorem qs_len {ks : List Int} {rs : List (List Int)} (h : ks.length = rs.length) : (qsOf ks rs).length = rs.length := by
  rw [qsOf, List.length_zipWith, h, Nat.min_self]
theorem lensL_nat (rs : List (List Int)) : lensL (rs.map (·.map Int.toNat)) = lensL rs := by
  unfold lensL; rw [List.map_map]; congr 1; refine List.map_congr_left fun r _ => ?_; simp
theorem sl1_nat {r : List Int} (h : ∀ c ∈ r, 1 ≤ c) : ((r.map Int.toNat).head? == some 47) = sl1 r := by
  cases r with
  | nil => rfl
  | cons c t =>
    have := h c (.head _)
    rw [List.map_cons, List.head?_cons, sl1, List.take_succ_cons, List.take_zero, Bool.eq_iff_iff]
    simp
    (first | lia | omega)
section
variable {prog : Program} {w : World} {A : Around} {E : Value → Shared → Prop} {s : Shared} {h₀ : Heap} {L a b : Addr} {m : MapS} {news : List (Addr × Obj)} {xs : List Value} {kb : Nat} {ds : List (List Int)} {Q : Value → Shared → Prop}
theorem eq_rows_base (F : Fr h₀ L s.heap m) (N : News h₀ L s.heap news) (ha : h₀.IsList a xs.toArray) (ra : Al (fun v d => ∃ b us, v = .ref b ∧ h₀.IsList b us.toArray ∧ IntsAre us d) xs ds) (mb : (b, lobj [] kb) ∈ news) (hu : A.units + 64 < cLine) (h : Q (.bool (decide (ds = []))) s) :
    wpAny (model prog w) A (compareOp .Eq (.ref a) (.ref b)) Q E s := by
  obtain ⟨as, qa⟩ := reads_rows (ra.mono fun v d _ ⟨b, us, e, hl, hi⟩ => ⟨b, us, e, hl.at fun o z => F.keep _ o z, hi⟩)
  obtain ⟨o, ho, hc, k, hd⟩ := ha.at fun o z => F.keep _ o z
  exact eq_dataH (da := rowsP ds) (db := rowsP []) (reads_list_at ho hc hd qa) (reads_list_at (N _ mb).1 rfl rfl .nil) (rowsP_shaped _) (rowsP_shaped _) hu (by rw [eqv_rows]; exact h)
end
noncomputable def mxv (ks : List Int) : Bool := (ks.any fun x => x == 0) && (ks.any fun x => x == 1)
noncomputable def wrv (rs : List (List Int)) : Bool := decide (rs = []) || ((rs.any fun r => sl1 r == true) && (rs.any fun r => sl1 r == false))
theorem qs_kind {ks : List Int} {rs : List (List Int)} {b : Bool} (hl : ks.length = rs.length) (h : ∀ q ∈ qsOf ks rs, q.1 = b) : ∀ k ∈ ks, (k == 1) = b := fun k hk => by
  have : (k == 1) ∈ (qsOf ks rs).map (·.1) := by rw [qs_fst hl]; exact List.mem_map_of_mem hk
  obtain ⟨q, hq, e⟩ := List.mem_map.mp this
  rw [← e]; exact h q hq
theorem qs_row {ks : List Int} {rs : List (List Int)} (hl : ks.length = rs.length) {r : List Int} (hr : r ∈ rs) : ∃ q ∈ qsOf ks rs, q.2 = r.map Int.toNat := by
  have : r.map Int.toNat ∈ (qsOf ks rs).map (·.2) := by rw [qs_snd hl]; exact List.mem_map_of_mem hr
  obtain ⟨q, hq, e⟩ := List.mem_map.mp this
  exact ⟨q, hq, e⟩
theorem qs_row2 {ks : List Int} {rs : List (List Int)} (hl : ks.length = rs.length) {q : Bool × List Nat} (hq : q ∈ qsOf ks rs) : ∃ r ∈ rs, q.2 = r.map Int.toNat := by
  have : q.2 ∈ (qsOf ks rs).map (·.2) := List.mem_map_of_mem hq
  rw [qs_snd hl] at this
  obtain ⟨r, hr, e⟩ := List.mem_map.mp this
  exact ⟨r, hr, e.symm⟩
theorem qs_slash {ks : List Int} {rs : List (List Int)} {a : Bool} (hl : ks.length = rs.length) (hc : ∀ row ∈ rs, ∀ c ∈ row, Cp c) (h : ∀ q ∈ qsOf ks rs, (q.2.head? == some 47) = a) : ∀ r ∈ rs, sl1 r = a := fun r hr => by
  obtain ⟨q, hq, e⟩ := qs_row hl hr
  rw [← h q hq, e, sl1_nat fun c z => (hc r hr c z).1]
theorem mixF {ks : List Int} {b : Bool} (h : ∀ k ∈ ks, (k == 1) = b) : mxv ks = false := by
  unfold mxv
  cases e0 : ks.any fun x => x == 0 with
  | false => rfl
  | true =>
    cases e1 : ks.any fun x => x == 1 with
    | false => rfl
    | true =>
      obtain ⟨x, hx, ex⟩ := List.any_eq_true.mp e0
      obtain ⟨y, hy, ey⟩ := List.any_eq_true.mp e1
      have a1 := h x hx
      have a2 := h y hy
      rw [ey] at a2
      rw [eq_of_beq ex, ← a2] at a1
      cases a1
theorem mixT {ks : List Int} {rs : List (List Int)} (hl : ks.length = rs.length) (hk : ∀ k ∈ ks, k = 0 ∨ k = 1) (t0 : (qsOf ks rs).any (fun q => !q.1) = true) (t1 : (qsOf ks rs).any (fun q => q.1) = true) : mxv ks = true := by
  obtain ⟨q0, h0, e0⟩ := List.any_eq_true.mp t0
  obtain ⟨q1, h1, e1⟩ := List.any_eq_true.mp t1
  have m0 : q0.1 ∈ (qsOf ks rs).map (·.1) := List.mem_map_of_mem h0
  have m1 : q1.1 ∈ (qsOf ks rs).map (·.1) := List.mem_map_of_mem h1
  rw [qs_fst hl] at m0 m1
  obtain ⟨k0, hk0, f0⟩ := List.mem_map.mp m0
  obtain ⟨k1, hk1, f1⟩ := List.mem_map.mp m1
  have e0 : q0.1 = false := by simpa using e0
  rw [e0] at f0
  rw [e1] at f1
  have z0 : k0 = 0 := by
    rcases hk k0 hk0 with z | z
    · exact z
    · rw [z] at f0; cases f0
  unfold mxv
  rw [List.any_eq_true.mpr ⟨k0, hk0, by rw [z0]; rfl⟩, List.any_eq_true.mpr ⟨k1, hk1, f1⟩]; rfl
theorem wrongF {rs : List (List Int)} {a : Bool} (hne : rs ≠ []) (h : ∀ r ∈ rs, sl1 r = a) : wrv rs = false := by
  unfold wrv
  rw [decide_eq_false hne, Bool.false_or]
  cases e0 : rs.any fun r => sl1 r == true with
  | false => rfl
  | true =>
    cases e1 : rs.any fun r => sl1 r == false with
    | false => rfl
    | true =>
      obtain ⟨x, hx, ex⟩ := List.any_eq_true.mp e0
      obtain ⟨y, hy, ey⟩ := List.any_eq_true.mp e1
      have a1 := h x hx
      have a2 := h y hy
      rw [eq_of_beq ex] at a1
      rw [eq_of_beq ey, ← a1] at a2
      cases a2
theorem wrongT {ks : List Int} {rs : List (List Int)} (hl : ks.length = rs.length) (hc : ∀ row ∈ rs, ∀ c ∈ row, Cp c) (h : qsOf ks rs = [] ∨ ((∃ q ∈ qsOf ks rs, (q.2.head? == some 47) = false) ∧ (∃ q ∈ qsOf ks rs, (q.2.head? == some 47) = true))) : wrv rs = true := by
  unfold wrv
  rcases h with h | ⟨⟨q0, h0, e0⟩, ⟨q1, h1, e1⟩⟩
  · have := qs_len hl
    rw [h] at this
    have : rs = [] := List.eq_nil_of_length_eq_zero this.symm
    rw [decide_eq_true this]; rfl
  · obtain ⟨r0, hr0, f0⟩ := qs_row2 hl h0
    obtain ⟨r1, hr1, f1⟩ := qs_row2 hl h1
    rw [f0, sl1_nat fun c z => (hc r0 hr0 c z).1] at e0
    rw [f1, sl1_nat fun c z => (hc r1 hr1 c z).1] at e1
    rw [show (rs.any fun r => sl1 r == true) = true from List.any_eq_true.mpr ⟨r1, hr1, by rw [e1]; rfl⟩, show (rs.any fun r => sl1 r == false) = true from List.any_eq_true.mpr ⟨r0, hr0, by rw [e0]; rfl⟩]; simp
end
end Mine
namespace Mine
section
open PySem.Calls
theorem mp_init : Slot "map" "__init__" "object.__init__" :=
  .of (owner := "object") (n := "__init__") (by rw [typeLookup_type, builtinLookup_eq_fast]; kernel_rfl) (by decide +kernel) (by decide +kernel) (by decide +kernel)
    (by first | exact .inl (by decide +kernel) | exact .inr (by decide +kernel)) (by rw [isSubtype_type]; kernel_rfl)
theorem mp_iter : Slot "map" "__iter__" "map.__iter__" :=
  .of (owner := "map") (n := "__iter__") (by rw [typeLookup_type, builtinLookup_eq_fast]; kernel_rfl) (by decide +kernel) (by decide +kernel) (by decide +kernel)
    (by first | exact .inl (by decide +kernel) | exact .inr (by decide +kernel)) (by rw [isSubtype_type]; kernel_rfl)
theorem mp_next : Slot "map" "__next__" "map.__next__" :=
  .of (owner := "map") (n := "__next__") (by rw [typeLookup_type, builtinLookup_eq_fast]; kernel_rfl) (by decide +kernel) (by decide +kernel) (by decide +kernel)
    (by first | exact .inl (by decide +kernel) | exact .inr (by decide +kernel)) (by rw [isSubtype_type]; kernel_rfl)
theorem mp_owner : Manifest.owners.lookup (String.ofList ['p', 'a', 'm'].reverse) = some Manifest.sig_map := by kernel_rfl
theorem mp_args_iter (a : Value) : argsOk "map.__iter__" ⟨[a], []⟩ := by
  unfold argsOk; rw [signature?_of (id := "map.__iter__") (n := ['_', '_', 'r', 'e', 't', 'i', '_', '_']) (o := ['p', 'a', 'm']) (by kernel_rfl) mp_owner]; kernel_rfl
theorem mp_args_next (a : Value) : argsOk "map.__next__" ⟨[a], []⟩ := by
  unfold argsOk; rw [signature?_of (id := "map.__next__") (n := ['_', '_', 't', 'x', 'e', 'n', '_', '_']) (o := ['p', 'a', 'm']) (by kernel_rfl) mp_owner]; kernel_rfl
theorem mp_entry_next : entryFor table "map.__next__" = some Builtin.«map.__next__» := entryFor_of_tree (by kernel_rfl)
theorem mp_entry_new : entryFor table "map.__new__" = some Builtin.«map.__new__» := entryFor_of_tree (by kernel_rfl)
theorem mp_entry_iter : entryFor table "map.__iter__" = some Builtin.«dict_keyiterator.__iter__» :=
  entryFor_alias (id' := "dict_keyiterator.__iter__") (by kernel_rfl) (by first | rfl | decide +kernel | (unfold String.splitOn; simp +decide [String.splitOnAux])) (by decide +kernel) (by kernel_rfl)
theorem mp_mro : mroOf (.type "map") = pure [.type "map", .type "object"] := by rw [mroOf_type]; kernel_rfl
theorem mp_lookup_new : typeLookup (.type "map") "__new__" = pure (some (.builtin "map.__new__")) := by rw [typeLookup_type, builtinLookup_eq_fast]; kernel_rfl
theorem mp_called : TypeCalled "map" "map.__new__" "object.__init__" :=
  ⟨by decide +kernel, by decide +kernel, ⟨_, _, mp_mro⟩, madeBy_type mp_mro mp_lookup_new (by decide +kernel), by decide +kernel, by rw [isSubtype_type]; kernel_rfl, mp_init⟩
theorem mp_typeCall (a b : Value) : checkTypeCall "map" ⟨[a, b], []⟩ = pure () := by kernel_rfl
theorem mp_newCall (a b : Value) : checkBuiltinCall "map.__new__" ⟨[.type "map", a, b], []⟩ = pure () := by kernel_rfl
theorem mp_sub : isSubtype (.type "map") (.type "map") = pure true := by rw [isSubtype_type]; kernel_rfl
theorem mp_nolen : typeLookup (.type "map") "__len__" = pure none := by rw [typeLookup_type, builtinLookup_eq_fast]; kernel_rfl
theorem mp_nohint : typeLookup (.type "map") "__length_hint__" = pure none := by rw [typeLookup_type, builtinLookup_eq_fast]; kernel_rfl
noncomputable abbrev mapObj (T : Addr) (f : Value) : Obj := { cls := .type "map", dict := none, data := .fields #[.ref T, f], slots := #[] }
noncomputable abbrev oneTup (v : Value) : Obj := { cls := .type "tuple", data := .seq #[v] }
noncomputable abbrev itObj (l : Addr) : Obj := { cls := .type "list_iterator", data := .fields #[.ref l, .int 0 0] }
noncomputable abbrev mapH (h : Heap) (l : Addr) (f : Value) : Heap := ((h.push (itObj l)).push (oneTup (.ref h.objs.size))).push (mapObj (h.objs.size + 1) f)
theorem meets_map_new (l : Addr) (f : Value) (xs : Array Value) :
    Meets (Builtin.«map.__new__» ⟨[.type "map", f, .ref l], []⟩) (fun _ R s => s.heap.IsList l xs ∧ R (.ok (.ret (.ref (s.heap.objs.size + 2)))) { s with heap := mapH s.heap l f }) :=
  .of_wp fun prog w A R s h => by
    obtain ⟨hp, g, d, tk, os⟩ := s; obtain ⟨hl, h⟩ := h
    have hsub := mp_sub
    have hL : Heap.IsList (Shared.heap ⟨hp, g, d, tk, os⟩) l xs := hl
    wp_walk using wpAny_pyIter_list hL
    have z1 : (hp.push (itObj l)).objs.size = hp.objs.size + 1 := Heap.size_push ..
    have z2 : ((hp.push (itObj l)).push (oneTup (.ref hp.objs.size))).objs.size = hp.objs.size + 2 := by rw [Heap.size_push, z1]
    refine ⟨_, rfl, ?_⟩
    show R (.ok (.ret (.ref ((hp.push (itObj l)).push (oneTup (.ref hp.objs.size))).objs.size))) { heap := ((hp.push (itObj l)).push (oneTup (.ref hp.objs.size))).push (mapObj (hp.push (itObj l)).objs.size f), gens := g, drawn := d, toks := tk, os := os }
    rw [z2, z1]
    exact h
section
variable {prog : Program} {w : World} {A : Around} {E : Value → Shared → Prop} {s : Shared}
theorem call_map {l : Addr} {f : Value} {xs : Array Value} {Q : Value → Shared → Prop} (hl : s.heap.IsList l xs)
    (h : Q (.ref (s.heap.objs.size + 2)) { s with heap := mapH s.heap l f }) : wpAny (model prog w) A (call (.type "map") [f, .ref l]) Q E s := by
  refine callType_new mp_called (by decide) (mp_typeCall _ _) (mp_newCall _ _) (fun obj => F.args_object_init_3 obj _ _) mp_entry_new (meets_map_new l f xs) ⟨hl, ?_⟩
  refine ⟨⟨mapObj (s.heap.objs.size + 1) f, ?_, rfl⟩, h⟩
  have e : ((s.heap.push (itObj l)).push (oneTup (.ref s.heap.objs.size))).objs.size = s.heap.objs.size + 2 := by rw [Heap.size_push, Heap.size_push]
  rw [← e]
  exact Heap.get?_push_size _ rfl
theorem iter_map {M T : Addr} {f : Value} {Q : Value → Shared → Prop} (hm : s.heap.get? M = some (mapObj T f)) (h : Q (.ref M) s) : wpAny (model prog w) A (pyIter (.ref M)) Q E s := by
  have hT : s.TypeIs (.ref M) "map" := ⟨_, hm, rfl⟩
  refine wpAny_pyIter_slot hT mp_iter (wpAny_call_entry mp_iter hT mp_entry_iter ?_ (mp_args_iter _))
  show wpAny _ _ (ret (.ref M)) _ _ s
  exact wpAny_pure ⟨_, rfl, "map", _, hT, mp_next.lookup, h⟩
theorem next_map_item {M T I l : Addr} {f x : Value} {i : Nat} {xs : Array Value} {Q : Option Value → Shared → Prop} (hm : s.heap.get? M = some (mapObj T f)) (ht : s.heap.get? T = some (oneTup (.ref I)))
    (hi : s.heap.IsListIter I l i) (hl : s.heap.IsList l xs) (hx : xs[i]? = some x) (hMI : M ≠ I)
    (hf : ∀ (s' : Shared) (Q' E' : Value → Shared → Prop), (∀ b o, b ≠ I → s.heap.get? b = some o → s'.heap.get? b = some o) → (∀ h' tk, Kp s'.heap h' → Q' x { s' with heap := h', toks := tk }) → wpAny (model prog w) A.in1 (call f [x]) Q' E' s')
    (h : ∀ h' tk, h'.IsListIter I l (i + 1) → (∀ b o, b ≠ I → s.heap.get? b = some o → h'.get? b = some o) → Q (some x) { s with heap := h', toks := tk }) :
    wpAny (model prog w) A (pyNext (.ref M)) Q E s := by
  have hT : s.TypeIs (.ref M) "map" := ⟨_, hm, rfl⟩
  unfold pyNext
  refine wpAny_bind (wpAny_attempt (wpAny_callSpecial?_slot (name := Str.ofString "__next__") hT mp_next (wpAny_call_entry mp_next hT mp_entry_next ?_ (mp_args_next _))))
  show wpAny _ _ (field (.ref M) 0 >>= _) _ _ _
  refine wpAny_bind (wpAny_field hm rfl (x := .ref T) rfl ?_)
  refine wpAny_bind (wpAny_seqItems ht rfl ?_)
  refine wpAny_bind ?_
  simp only [List.forIn_cons, List.forIn_nil]
  refine wpAny_bind (wpAny_bind (wpAny_holding (wpAny_nextOf_list_item hi hl hx fun h₁ hi₁ hs₁ => ?_)))
  refine wpAny_pure (wpAny_pure ?_)
  refine wpAny_bind (wpAny_field (hs₁.extBut _ _ hMI hm) rfl (x := f) rfl ?_)
  refine wpAny_bind (wpAny_holding ?_)
  refine hf { s with heap := h₁ } _ _ (fun b o hb e => hs₁.extBut _ _ hb e) fun h₂ tk k₂ => ?_
  refine wpAny_bind (wpAny_letGo ?_)
  refine wpAny_pure ⟨_, rfl, wpAny_pure (h h₂ tk ?_ fun b o hb e => k₂ b o (hs₁.extBut _ _ hb e))⟩
  exact hi₁.at fun o e => k₂ _ o e
theorem next_map_end {M T I l : Addr} {f : Value} {i : Nat} {xs : Array Value} {Q : Option Value → Shared → Prop} (hh : A.handled = none) (hm : s.heap.get? M = some (mapObj T f)) (ht : s.heap.get? T = some (oneTup (.ref I)))
    (hi : s.heap.IsListIter I l i) (hl : s.heap.IsList l xs) (hx : xs[i]? = none)
    (h : ∀ h', (∀ b o, b ≠ I → s.heap.get? b = some o → h'.get? b = some o) → Q none { s with heap := h' }) :
    wpAny (model prog w) A (pyNext (.ref M)) Q E s := by
  have hT : s.TypeIs (.ref M) "map" := ⟨_, hm, rfl⟩
  unfold pyNext
  refine wpAny_bind (wpAny_attempt (wpAny_callSpecial?_slot (name := Str.ofString "__next__") hT mp_next (wpAny_call_entry mp_next hT mp_entry_next ?_ (mp_args_next _))))
  show wpAny _ _ (field (.ref M) 0 >>= _) _ _ _
  refine wpAny_bind (wpAny_field hm rfl (x := .ref T) rfl ?_)
  refine wpAny_bind (wpAny_seqItems ht rfl ?_)
  refine wpAny_bind ?_
  simp only [List.forIn_cons, List.forIn_nil]
  refine wpAny_bind (wpAny_bind (wpAny_holding (wpAny_nextOf_list_end hh hi hl hx fun h₁ e hs₁ he => ?_)))
  obtain ⟨o, ho, hc⟩ := he
  refine wpAny_bind (wpAny_isInstance (T := "StopIteration") (b := true) ⟨o, ho, hc⟩ isSubtype_stop ?_)
  exact wpAny_pure (h _ hs₁)
end
noncomputable def IdCall (prog : Program) (w : World) (d : Nat) (f : Value) (base : Heap) (x : Value) : Prop :=
  ∀ (A : Around) (s : Shared) (Q : Value → Shared → Prop) (E : Value → Shared → Prop), A.depth ≤ d → A.handled = none → (∀ b o, base.get? b = some o → s.heap.get? b = some o) →
    (∀ h' tk, Kp s.heap h' → Q x { s with heap := h', toks := tk }) → wpAny (model prog w) A (call f [x]) Q E s
theorem walks_map {prog : Program} {w : World} {A : Around} {d : Nat} (hh : A.handled = none) (hd : A.depth ≤ d) {M T I l : Addr} {f : Value} {xs : Array Value} {base : Heap} (hMI : M ≠ I) (hTI : T ≠ I) (hlI : l ≠ I) (hb : base.get? I = none)
    (hf : ∀ x ∈ xs.toList, IdCall prog w d f base x) :
    Walks prog w A M (M :: T :: I :: l :: List.range base.objs.size) [I] xs.size (fun i v => xs[i]? = some v)
      (fun i h => h.get? M = some (mapObj T f) ∧ h.get? T = some (oneTup (.ref I)) ∧ h.IsListIter I l i ∧ h.IsList l xs ∧ ∀ b o, base.get? b = some o → h.get? b = some o) where
  sub := fun b hb => by simp at hb; simp [hb]
  frame := fun i h h' st hk => by
    obtain ⟨h1, h2, h3, h4, h5⟩ := st
    refine ⟨hk M (by simp) _ h1, hk T (by simp) _ h2, h3.at fun o e => hk I (by simp) o e, h4.at fun o e => hk l (by simp) o e, fun b o e => hk b ?_ o (h5 b o e)⟩
    have := Heap.lt_size e
    simp [this]
  item := fun i s Q E hi st hQ => by
    obtain ⟨h1, h2, h3, h4, h5⟩ := st
    have hx := Array.getElem?_eq_getElem hi
    have ne : ∀ b o, base.get? b = some o → b ≠ I := fun b o e q => by rw [q, hb] at e; cases e
    refine next_map_item h1 h2 h3 h4 hx hMI (fun s' Q' E' hk hq => hf _ (Array.getElem_mem_toList hi) _ s' Q' E' (by rw [depth_in1]; exact hd) hh (fun b o e => hk b o (ne b o e) (h5 b o e)) hq) fun h' tk hi' hk => ?_
    exact hQ _ h' tk hx ⟨hk _ _ hMI h1, hk _ _ hTI h2, hi', h4.at fun o e => hk _ o hlI e, fun b o e => hk b o (ne b o e) (h5 b o e)⟩ fun b o hb e => hk b o (fun q => hb (by simp [q])) e
  done := fun s Q E st hQ => by
    obtain ⟨h1, h2, h3, h4, h5⟩ := st
    exact next_map_end hh h1 h2 h3 h4 (Array.getElem?_eq_none (Nat.le_refl _)) fun h' hk => hQ h' s.toks fun b o hb e => hk b o (fun q => hb (by simp [q])) e
  self := fun i s Q E st hQ => iter_map st.1 hQ
section
variable {prog : Program} {w : World} {A : Around} {E : Value → Shared → Prop} {s : Shared} {I : Addr} {fp wr : List Addr} {n : Nat} {P : Nat → Value → Prop} {St : Nat → Heap → Prop}
theorem collect_map {Q : List Value → Shared → Prop} (W : Walks prog w A.in1 I fp wr n P St) (hT : ∀ i (s : Shared), St i s.heap → s.TypeIs (.ref I) "map") (hst : St 0 s.heap) (hfp : ∀ b ∈ fp, b < s.heap.objs.size) (hI : I ∈ fp)
    (hQ : ∀ (h' : Heap) tk acc, (∀ b o, b ∉ wr → s.heap.get? b = some o → h'.get? b = some o) → ItemsOf P acc n → Q acc.toList { s with heap := h', toks := tk }) (hn : n ≤ sizeLine) : wpAny (model prog w) A (collect (.ref I)) Q E s := by
  have hSf : s.heap.objs.size ∉ fp := fun hm => Nat.lt_irrefl _ (hfp _ hm)
  have hSI : s.heap.objs.size ≠ I := fun e => hSf (e ▸ hI)
  unfold collect
  refine wpAny_bind (wpAny_runValue (codeAny_builtin F.entry_proto_collect ?_))
  rw [Around.under_plainId F.plain_proto_collect _]
  show wpAny _ A.in1 (newList [] >>= fun l => again (.builtin "list.__iadd__" ⟨[l, .ref I], []⟩)) _ _ s
  refine wpAny_bind (wpAny_newObj_type ?_)
  refine wpAny_pure ⟨plainId_quiet F.plain_list_iadd _, codeAny_builtin F.entry_list_iadd ?_⟩
  rw [Around.under_plainId F.plain_list_iadd _]
  have hst₁ : St 0 (s.heap.push { cls := .type "list", data := .seq ([] : List Value).toArray }) := W.frame 0 _ _ hst fun b _ o e => Heap.get?_push_of_some _ e
  have hTy : Shared.TypeIs { s with heap := s.heap.push { cls := .type "list", data := .seq ([] : List Value).toArray } } (.ref I) "map" := hT 0 _ hst₁
  show wpAny _ A.in1 (Builtin.List.listExtendWith (.ref s.heap.objs.size) (.ref I) (.ref s.heap.objs.size)) _ _ _
  unfold Builtin.List.listExtendWith
  refine wpAny_bind (wpAny_typeOf hTy ?_)
  have h1 : Builtin.List.listSameRef (.ref s.heap.objs.size) (.ref I) = false := by simp [Builtin.List.listSameRef, hSI]
  have h2 : (Value.type "map" == Value.type "list") = false := by decide
  have h3 : (Value.type "map" == Value.type "tuple") = false := by decide
  simp -iota only [h1, h2, h3, Bool.or_false, Bool.false_eq_true, if_false]
  refine wpAny_bind (W.self 0 _ _ _ hst₁ ?_)
  refine wpAny_bind (wpAny_holding ?_)
  unfold Builtin.List.listLengthHint
  refine wpAny_bind (wpAny_specialOf hTy mp_nolen ?_)
  show wpAny _ A.in1 (specialOf (Value.ref I) (Str.ofString "__length_hint__") >>= _) _ _ _
  refine wpAny_bind (wpAny_specialOf hTy mp_nohint ?_)
  refine wpAny_pure ?_
  show wpAny _ A.in1 (rule "list.extend.makes-room" >>= fun _ => Builtin.List.listTouch (.ref s.heap.objs.size) >>= fun _ =>
    again (.builtin "list.extend.loop" ⟨[.ref s.heap.objs.size, .ref I, .ref s.heap.objs.size], []⟩)) _ _ _
  refine wpAny_bind (wpAny_rule ?_)
  have hS₁ : (s.heap.push { cls := .type "list", data := .seq ([] : List Value).toArray }).get? s.heap.objs.size = some { cls := .type "list", data := .seq ([] : List Value).toArray } := Heap.get?_push_size _ rfl
  refine wpAny_bind ?_
  show wpAny _ A.in1 (updateSeq s.heap.objs.size (·.push .none) >>= fun _ => updateSeq s.heap.objs.size (·.pop)) _ _ _
  refine wpAny_bind (wpAny_updateSeq hS₁ rfl ?_)
  have hS₂ := Heap.get?_update_self (Obj.mapSeq (·.push Value.none)) hS₁ rfl
  refine wpAny_updateSeq hS₂ rfl ?_
  have hS₃ := Heap.get?_update_self (Obj.mapSeq (·.pop)) hS₂ rfl
  generalize hH : ((s.heap.push { cls := .type "list", data := .seq ([] : List Value).toArray }).update s.heap.objs.size (Obj.mapSeq (·.push Value.none))).update s.heap.objs.size (Obj.mapSeq (·.pop)) = H at hS₃ ⊢
  have oth : ∀ b o, b ≠ s.heap.objs.size → (s.heap.push { cls := .type "list", data := .seq ([] : List Value).toArray }).get? b = some o → H.get? b = some o := fun b o hb e => by
    rw [← hH]; exact (Heap.get?_update_other _ _ (Ne.symm hb)).trans ((Heap.get?_update_other _ _ (Ne.symm hb)).trans e)
  have hst₃ : St 0 H := W.frame 0 _ _ hst₁ fun b hb o e => oth b o (fun h => hSf (h ▸ hb)) e
  refine wpAny_pure ⟨plainId_quiet F.plain_extend_loop _, codeAny_extend_loopS W.toS hn _ hSf _ n 0 _ _ _ rfl (Nat.zero_le _) hst₃ hS₃ (ItemsOf.nil P) fun s' acc' c' hm hS' hacc => ?_⟩
  obtain ⟨h5, g5, d5, t5, o5⟩ := s'
  obtain ⟨m1, m2, m3, m4, m5⟩ := hm
  dsimp only at m1 m2 m3 m4 m5 hS'
  subst m2 m3 m4
  show wpAny _ A (load s.heap.objs.size >>= _) _ _ _
  refine wpAny_bind (wpAny_load hS' ?_)
  refine wpAny_pure (hQ h5 t5 acc' (fun b o hb e => m1 b o (fun hm => ?_) (oth b o (Nat.ne_of_lt (Heap.lt_size e)) (Heap.get?_push_of_some _ e))) hacc)
  rcases List.mem_cons.mp hm with q | q
  · exact absurd (Heap.lt_size e) (by rw [q]; exact Nat.lt_irrefl _)
  · exact hb q
theorem code_tuple_new_map {Q₁ : Value → Shared → Prop} (W : Walks prog w A.in1.in1 I fp wr n P St) (hT : ∀ i (s : Shared), St i s.heap → s.TypeIs (.ref I) "map") (hst : St 0 s.heap) (hfp : ∀ b ∈ fp, b < s.heap.objs.size) (hI : I ∈ fp)
    (h : ∀ (h' : Heap) tk acc, (∀ b o, b ∉ wr → s.heap.get? b = some o → h'.get? b = some o) → ItemsOf P acc n → Q₁ (.ref h'.objs.size) { s with heap := h'.push { cls := .type "tuple", data := .seq acc }, toks := tk }) (hsz : n ≤ sizeLine) :
    codeAny (model prog w) A (.call (.builtin "tuple.__new__") ⟨[.type "tuple", .ref I], []⟩) (wants Q₁ E) s := by
  refine codeAny_of_tree ?_
  show wpAny _ A.in1 (do checkBuiltinCall "tuple.__new__" ⟨[.type "tuple", .ref I], []⟩; again (.builtin "tuple.__new__" ⟨[.type "tuple", .ref I], []⟩)) _ _ s
  refine wpAny_bind (wpAny_of_eq (F.newCall_tuple_1 _) (wpAny_pure ⟨plainId_quiet F.plain_tuple_new _, codeAny_builtin F.entry_tuple_new ?_⟩))
  rw [Around.under_plainId F.plain_tuple_new _]
  have hsub := sub_tuple_self
  have hinit := init_tuple_lookup
  have hmh := madeHere_tuple
  have hTI := hT 0 s hst
  wp_walk using wpAny_typeOf hTI, collect_map (hn := hsz) W hT hst hfp hI
  intro h' tk acc hm hacc
  show wpAny _ _ (Builtin.Tuple.tupleExact acc.toList.toArray >>= fun v => ret v) _ _ _
  unfold Builtin.Tuple.tupleExact
  refine wpAny_bind (wpAny_newObj_type ?_ (by show acc.toList.toArray.size ≤ sizeLine; simp only [Array.toArray_toList]; rw [hacc.1]; exact hsz))
  refine wpAny_pure ?_
  have e : acc.toList.toArray = acc := by simp
  rw [e]
  exact h h' tk acc hm hacc
theorem call_tuple_walk {Q : Value → Shared → Prop} (W : Walks prog w A.in1.in1.in1 I fp wr n P St) (hT : ∀ i (s : Shared), St i s.heap → s.TypeIs (.ref I) "map") (hst : St 0 s.heap) (hfp : ∀ b ∈ fp, b < s.heap.objs.size) (hI : I ∈ fp)
    (hQ : ∀ (h' : Heap) tk acc, (∀ b o, b ∉ wr → s.heap.get? b = some o → h'.get? b = some o) → ItemsOf P acc n → Q (.ref h'.objs.size) { s with heap := h'.push { cls := .type "tuple", data := .seq acc }, toks := tk }) (hsz : n ≤ sizeLine) :
    wpAny (model prog w) A (call (.type "tuple") [.ref I]) Q E s := by
  refine callType_codes (Q₁ := fun obj s₁ => s₁.TypeIs obj "tuple" ∧ Q obj s₁) F.called_tuple (F.typeCall_tuple_1 _) F.entry_object_init
    (code_tuple_new_map (hsz := hsz) W hT hst hfp hI fun h' tk acc hm hacc => ⟨⟨_, Heap.get?_push_size _ rfl, rfl⟩, hQ h' tk acc hm hacc⟩) fun obj s₁ h₁ => ?_
  exact ⟨h₁.1, F.args_object_init_2 obj _, object_init_meets F.called_tuple.init.lookup F.called_tuple.made (by decide) prog w A.in1 _ s₁ ⟨h₁.1, rfl, h₁.2⟩⟩
end
section
variable {prog : Program} {w : World} {A : Around} {E : Value → Shared → Prop} {s : Shared}
theorem tuple_of_map {M T I l : Addr} {d : Nat} {f : Value} {vs : List Value} {base : Heap} {Q : Value → Shared → Prop} (hh : A.handled = none) (hd : A.depth ≤ d) (hm : s.heap.get? M = some (mapObj T f)) (ht : s.heap.get? T = some (oneTup (.ref I)))
    (hi : s.heap.IsListIter I l 0) (hl : s.heap.IsList l vs.toArray) (hMI : M ≠ I) (hTI : T ≠ I) (hlI : l ≠ I) (hb : base.get? I = none) (hbs : ∀ b o, base.get? b = some o → s.heap.get? b = some o) (hbz : base.objs.size ≤ s.heap.objs.size)
    (hf : ∀ x ∈ vs, IdCall prog w d f base x) (hz : vs.length ≤ sizeLine)
    (hQ : ∀ (h' : Heap) tk, (∀ b o, b ≠ I → s.heap.get? b = some o → h'.get? b = some o) → Q (.ref h'.objs.size) { s with heap := h'.push { cls := .type "tuple", data := .seq vs.toArray }, toks := tk }) :
    wpAny (model prog w) A (call (.type "tuple") [.ref M]) Q E s := by
  refine call_tuple_walk (walks_map (A := A.in1.in1.in1) hh hd hMI hTI hlI hb (xs := vs.toArray) (fun x hx => hf x (by simpa using hx))) (fun i s st => ⟨_, st.1, rfl⟩) ⟨hm, ht, hi, hl, hbs⟩ ?_ (by simp) (fun h' tk acc hk hacc => ?_) (by simpa using hz)
  · intro b hb
    simp only [List.mem_cons, List.mem_range] at hb
    rcases hb with rfl | rfl | rfl | rfl | hb
    · exact Heap.lt_size hm
    · exact Heap.lt_size ht
    · obtain ⟨_, e, _⟩ := hi; exact Heap.lt_size e
    · obtain ⟨_, e, _⟩ := hl; exact Heap.lt_size e
    · exact Nat.lt_of_lt_of_le hb hbz
  · have e : acc = vs.toArray := by
      apply Array.ext_getElem?
      intro i
      cases q : acc[i]? with
      | some v => exact (hacc.2 i v q).symm
      | none =>
        have := Array.getElem?_eq_none_iff.mp q
        rw [hacc.1] at this
        exact (Array.getElem?_eq_none this).symm
    rw [e]
    exact hQ h' tk fun b o hb e => hk b o (fun q => hb (List.mem_singleton.mp q)) e
end
section
variable {prog : Program} {w : World} {A : Around} {E : Value → Shared → Prop} {s : Shared} {h₀ : Heap} {L : Addr} {m : Str → Option Value} {news : List (Addr × Obj)}
theorem map_K {l : Addr} {f : Value} {vs : List Value} {Q : Value → Shared → Prop} (F : Fr h₀ L s.heap m) (N : News h₀ L s.heap news) (hl : s.heap.IsList l vs.toArray)
    (h : ∀ M T I h', Fr h₀ L h' m → News h₀ L h' ((M, mapObj T f) :: (T, oneTup (.ref I)) :: (I, itObj l) :: news) → (∀ p ∈ news, p.1 ≠ M ∧ p.1 ≠ T ∧ p.1 ≠ I) → M ≠ T → M ≠ I → T ≠ I → l ≠ I → Q (.ref M) { s with heap := h' }) :
    wpAny (model prog w) A (call (.type "map") [f, .ref l]) Q E s := by
  refine call_map hl ?_
  have z1 : (s.heap.push (itObj l)).objs.size = s.heap.objs.size + 1 := Heap.size_push ..
  have z2 : ((s.heap.push (itObj l)).push (oneTup (.ref s.heap.objs.size))).objs.size = s.heap.objs.size + 2 := by rw [Heap.size_push, z1]
  have g3 : (mapH s.heap l f).get? (s.heap.objs.size + 2) = some (mapObj (s.heap.objs.size + 1) f) := by rw [← z2]; exact Heap.get?_push_size _ rfl
  have g2 : (mapH s.heap l f).get? (s.heap.objs.size + 1) = some (oneTup (.ref s.heap.objs.size)) := by rw [← z1]; exact Heap.get?_push_of_some _ (Heap.get?_push_size _ rfl)
  have g1 : (mapH s.heap l f).get? s.heap.objs.size = some (itObj l) := Heap.get?_push_of_some _ (Heap.get?_push_of_some _ (Heap.get?_push_size _ rfl))
  have hL : L < s.heap.objs.size := F.ns.lt
  have new : ∀ a, s.heap.objs.size ≤ a → a ≠ L ∧ h₀.get? a = none := fun a ha => by
    refine ⟨Ne.symm (Nat.ne_of_lt (Nat.lt_of_lt_of_le hL ha)), ?_⟩
    cases e : h₀.get? a with
    | none => rfl
    | some o => exact absurd (Heap.lt_size (F.keep a o e)) (Nat.not_lt.mpr ha)
  have keep : Kp s.heap (mapH s.heap l f) := fun b o e => Heap.get?_push_of_some _ (Heap.get?_push_of_some _ (Heap.get?_push_of_some _ e))
  have hlt : l < s.heap.objs.size := by obtain ⟨_, e, _⟩ := hl; exact Heap.lt_size e
  refine h (s.heap.objs.size + 2) (s.heap.objs.size + 1) s.heap.objs.size _ (F.keeps keep) (fun p hp => ?_) (fun p hp => ?_) ?_ ?_ ?_ (Nat.ne_of_lt hlt)
  · rcases List.mem_cons.mp hp with rfl | hp
    · exact ⟨g3, new _ (Nat.le_add_right _ _)⟩
    rcases List.mem_cons.mp hp with rfl | hp
    · exact ⟨g2, new _ (Nat.le_add_right _ _)⟩
    rcases List.mem_cons.mp hp with rfl | hp
    · exact ⟨g1, new _ (Nat.le_refl _)⟩
    · exact ⟨keep _ _ (N p hp).1, (N p hp).2⟩
  · have := Heap.lt_size (N p hp).1
    exact ⟨Nat.ne_of_lt (Nat.lt_of_lt_of_le this (Nat.le_add_right _ _)), Nat.ne_of_lt (Nat.lt_of_lt_of_le this (Nat.le_add_right _ _)), Nat.ne_of_lt this⟩
  · exact Nat.succ_ne_self (s.heap.objs.size + 1)
  · exact Nat.ne_of_gt (Nat.lt_of_lt_of_le (Nat.lt_succ_self _) (Nat.le_succ _))
  · exact Nat.succ_ne_self _
theorem tuple_K {M T I l : Addr} {d : Nat} {f : Value} {vs : List Value} {Q : Value → Shared → Prop} (hh : A.handled = none) (hd : A.depth ≤ d) (F : Fr h₀ L s.heap m) (N : News h₀ L s.heap ((M, mapObj T f) :: (T, oneTup (.ref I)) :: (I, itObj l) :: news)) (hl : s.heap.IsList l vs.toArray)
    (off : ∀ p ∈ news, p.1 ≠ M ∧ p.1 ≠ T ∧ p.1 ≠ I) (hMI : M ≠ I) (hTI : T ≠ I) (hlI : l ≠ I) (hf : ∀ x ∈ vs, IdCall prog w d f h₀ x) (hz : vs.length ≤ sizeLine)
    (h : ∀ D h' tk, Fr h₀ L h' m → News h₀ L h' ((D, { cls := .type "tuple", data := .seq vs.toArray }) :: news) → (∀ p ∈ news, p.1 < D) → Q (.ref D) { s with heap := h', toks := tk }) :
    wpAny (model prog w) A (call (.type "tuple") [.ref M]) Q E s := by
  have e1 := (N _ (.head _)).1
  have e2 := (N _ (.tail _ (.head _))).1
  have e3 := N _ (.tail _ (.tail _ (.head _)))
  have hb : h₀.objs.size ≤ s.heap.objs.size := Nat.le_of_lt (Nat.lt_of_le_of_lt F.above F.ns.lt)
  refine tuple_of_map hh hd e1 e2 ⟨_, e3.1, rfl, rfl⟩ hl hMI hTI hlI e3.2.2 F.keep hb hf hz fun h' tk hk => ?_
  have ne0 : ∀ b o, h₀.get? b = some o → b ≠ I := fun b o e q => by rw [q, e3.2.2] at e; cases e
  have F' : Fr h₀ L h' m := ⟨F.ns.at' fun o e => hk L o (Ne.symm e3.2.1) e, fun b o e => hk b o (ne0 b o e) (F.keep b o e), F.above⟩
  have N' : News h₀ L h' news := fun p hp => ⟨hk _ _ (off p hp).2.2 (N p (.tail _ (.tail _ (.tail _ hp)))).1, (N p (.tail _ (.tail _ (.tail _ hp)))).2⟩
  refine h _ _ _ (F'.push _) (fun p hp => ?_) fun p hp => Heap.lt_size (N' p hp).1
  rcases List.mem_cons.mp hp with rfl | hp
  · exact ⟨Heap.get?_push_size _ rfl, Ne.symm (Nat.ne_of_lt F'.ns.lt), next_is_new F'⟩
  · exact ⟨Heap.get?_push_of_some _ (N' p hp).1, (N' p hp).2⟩
end
end
end Mine
namespace Mine
section
open PySem.Calls
theorem swap_at {h h2 : Heap} {C : Addr} (h1 : C < h.objs.size) (h3 : C < h2.objs.size) : ∃ g : Heap, g.get? C = h2.get? C ∧ ∀ b, b ≠ C → g.get? b = h.get? b := by
  refine ⟨{ h with objs := h.objs.setIfInBounds C h2.objs[C] }, ?_, fun b hb => ?_⟩
  · unfold Heap.get?
    have e1 : (h.objs.setIfInBounds C h2.objs[C])[C]? = some h2.objs[C] := by simp [h1]
    have e2 : h2.objs[C]? = some h2.objs[C] := Array.getElem?_eq_getElem h3
    rw [e1, e2]
  · unfold Heap.get?
    have e1 : (h.objs.setIfInBounds C h2.objs[C])[b]? = h.objs[b]? := by
      rw [Array.getElem?_setIfInBounds]; simp [Ne.symm hb]
    rw [e1]
inductive ErrSt (S : List Addr) (h₀ : Heap) (L : Addr) (m : MapS) (nx : List (Addr × Obj)) (cls : String) (gn : Array GenState) (dr : Drawn) (os : OsState) (C : Addr) (e : Value) (s' : Shared) : Prop
  | mk (h₃ h' : Heap) (tk : Nat) (e₀ : Addr) (tb : Bool) (he : e = .ref e₀) (hs : s' = ⟨h', gn, dr, tk, os⟩) (hF : Fr h₀ L h₃ m) (hN : News h₀ L h₃ nx) (hC : ∃ mC, h₃.Ns C mC) (hCL : C ≠ L) (hC₀ : h₀.get? C = none) (hCn : ∀ p ∈ nx, p.1 ≠ C) (hx : Exc S h₃ h' e₀ (.type cls) .none tb)
noncomputable def ErrT (S : List Addr) (h₀ : Heap) (L : Addr) (m : MapS) (nx : List (Addr × Obj)) (cls : String) (s : Shared) (C : Addr) (e : Value) (s' : Shared) : Prop := ErrSt S h₀ L m nx cls s.gens s.drawn s.os C e s'
section
variable {prog : Program} {w : World} {A₀ : Around} {E : Value → Shared → Prop} {s : Shared} {h₀ base : Heap} {fs : List Env} {m : MapS} {env : Env} {L : Addr}
theorem err_out {S : List Addr} {nx : List (Addr × Obj)} {cls : String} {use : Option (Value → Sem Unit)} {Q : Value → Shared → Prop} {acc : Value} {C : Addr} {scope : Scope} {cl : List (Str × Addr)} {e : Value} {s' : Shared} (hst : A₀.frames = some fs) (hfun : ∀ h₃, Fr h₀ L h₃ m → News h₀ L h₃ nx → h₃.FunFrames base (env :: fs)) (hf : env.frame = some L)
    (hS : ∀ b ∈ S, b ∈ (env :: fs).filterMap (·.frame)) (x : ErrT S h₀ L m nx cls s C e s')
    (hE : ∀ h₃ h' tk e₀, Fr h₀ L h₃ m → News h₀ L h₃ nx → Exc ((env :: fs).filterMap (·.frame)) h₃ h' e₀ (.type cls) .none true → E (.ref e₀) { s with heap := h', toks := tk }) :
    notedBy (model prog w) (A₀.deeper env) (compEnvC scope cl C env) (fun e s' => compPost (model prog w) (A₀.deeper env) E use Q acc C (.error e) s') e s' := by
  obtain ⟨h₃, h', tk, e₀, tb, rfl, rfl, F, N, ⟨mC, hC⟩, hCL, hC₀, hCn, x⟩ := x
  show wpAny _ _ (noteFrame (.ref e₀) env) _ _ _
  refine note_ok (s := { s with heap := h', toks := tk }) (Around.frames_deeper hst) hf (hfun _ F N) (fun b hb => hb) (x.mono hS) fun h2 x2 => ?_
  have key : ∃ m, Heap.Ns h2 C m ∧ ∀ h3, Heap.SameBut C h2 h3 → ∀ cenv : Env, cenv.locals = C → wpAny (model prog w) (A₀.deeper env) (PySem.passOn "comprehension.variables-let-go" (.ref e₀) cenv : Sem Value) (fun _ _ => False) E { s with heap := h3, toks := tk } := by
    refine ⟨mC, x2.kf.ns hC, fun h3 hsb cenv _ => ?_⟩
    have l1 : C < h₃.objs.size := by obtain ⟨o, _, _, ho, _⟩ := hC; exact Heap.lt_size ho
    have l2 : C < h3.objs.size := by
      obtain ⟨o, _, _, ho, _⟩ := x2.kf.ns hC
      rw [hsb.1]; exact Heap.lt_size ho
    obtain ⟨g, g1, g2⟩ := swap_at l1 l2
    obtain ⟨oe, vs, a1, a2, a3, a4, a5, a6⟩ := id x2.ob
    rcases a6 with ⟨q, _⟩ | ⟨_, T, oT, ts, b1, b2, b3, b4, b5, b6⟩
    · cases q
    obtain ⟨oC, _, _, hoC, _⟩ := hC
    have he : e₀ ≠ C := fun q => by have := x2.new; rw [q, hoC] at this; cases this
    have hT : T ≠ C := fun q => by rw [q, hoC] at b3; cases b3
    have ke : h3.get? e₀ = some oe := hsb.extBut _ _ he a1
    have x3 : Exc ((env :: fs).filterMap (·.frame)) g h3 e₀ (.type cls) .none true := by
      refine ⟨fun b o hb => ?_, (g2 _ he).trans x2.new, oe, vs, ke, a2, a3, a4, a5, .inr ⟨rfl, T, oT, ts, b1, b2, (g2 _ hT).trans b3, hsb.extBut _ _ hT b4, b5, b6⟩⟩
      by_cases q : b = C
      · rw [q, g1] at hb; rw [q]; exact ⟨o.slots, hb, fun _ => rfl⟩
      · rw [g2 _ q] at hb
        obtain ⟨sl, y1, y2⟩ := x2.kf b o hb
        exact ⟨sl, hsb.extBut _ _ q y1, y2⟩
    have F3 : Fr h₀ L g m := ⟨F.ns.at' fun o q => (g2 L (Ne.symm hCL)).trans q, fun b o q => (g2 b fun z => by rw [z, hC₀] at q; cases q).trans (F.keep b o q), F.above⟩
    have N3 : News h₀ L g nx := fun p hp => ⟨(g2 _ (hCn p hp)).trans (N p hp).1, (N p hp).2⟩
    unfold PySem.passOn
    refine wpAny_bind (wpAny_field (s := { s with heap := h3, toks := tk }) ke a3 b1 ?_)
    rw [if_neg (show ¬ ((Value.ref T == Value.none) = true) from by simp)]
    exact wpAny_bind (flight_set (s := { s with heap := h3, toks := tk }) x3 fun h4 x4 => wpAny_throw (hE g h4 tk e₀ F3 N3 x4))
  cases use <;> exact key
end
open LCg
inductive CompInE (prog : Program) (w : World) (A : Around) (h₀ : Heap) (L : Addr) (m : Str → Option Value) (env : Env) (target elt : Expr) (ifs : List Expr) (scope : Scope) (cl : List (Str × Addr)) (S : List Addr) (cls : String) (nx₀ : List (Addr × Obj)) (Fin : Shared → List Value → List (Addr × Obj) → Prop) (it : Value) (s₂ : Shared) : Prop
  | mk (I : Addr) (fp wr : List Addr) (n : Nat) (P : Nat → (Str → Option Value) → Prop) (St : Nat → Heap → Prop) (news : List (Addr × Obj)) (J : Nat → List Value → List (Addr × Obj) → Prop)
    (hI : it = .ref I) (W : Steps prog w A env scope cl target I fp wr n P St) (hsz : n ≤ sizeLine) (hst : St 0 s₂.heap) (hfp : ∀ b ∈ fp, b < s₂.heap.objs.size) (hwr : ∀ b ∈ wr, h₀.get? b = none) (hLf : L ∉ fp)
    (F : Fr h₀ L s₂.heap m) (N : News h₀ L s₂.heap news) (off : ∀ p ∈ news, p.1 ∉ wr) (hJ : J 0 [] news)
    (turn : ∀ i C oC D m₂ h tk own ys nx (E' : Value → Shared → Prop), (∀ e s', ErrT S h₀ L m nx₀ cls s₂ C e s' → E' e s') → i < n → J i ys nx → P i m₂ → NsObj oC m₂ → Fr h₀ L h m → News h₀ L h (own ++ ((C, oC) :: (D, lst ys) :: nx)) → (∀ b ∈ wr, ∃ o, (b, o) ∈ own) → (∀ p ∈ nx, p.1 ∉ wr ∧ p.1 ≠ C ∧ p.1 ≠ D) → C ≠ D →
      wpAny (model prog w) A (testsOf ifs (compEnvC scope cl C env)) (fun ok s₃ =>
        if ok = true then wpAny (model prog w) A (eval elt (compEnvC scope cl C env)) (fun y s₄ => EltEnd h₀ L m own C D oC (lst ys) wr (J (i + 1) (ys ++ [y])) s₂ s₄) E' s₃
        else EltEnd h₀ L m own C D oC (lst ys) wr (J (i + 1) ys) s₂ s₃) E' { s₂ with heap := h, toks := tk })
    (fin : ∀ ys nx, J n ys nx → Fin s₂ ys nx)
noncomputable def CompAtE (prog : Program) (w : World) (A : Around) (h₀ : Heap) (L : Addr) (m : Str → Option Value) (env : Env) (target elt : Expr) (ifs : List Expr) (scope : Scope) (cl : List (Str × Addr)) (S : List Addr) (cls : String) (nx₀ : List (Addr × Obj)) (E : Value → Shared → Prop) (Fin : Shared → List Value → List (Addr × Obj) → Prop) (xv : Value) (s₁ : Shared) : Prop :=
  wpAny (model prog w) A (pyIter xv) (fun it s₂ => CompInE prog w A h₀ L m env target elt ifs scope cl S cls nx₀ Fin it s₂ ∧ ∃ h tk, s₂ = { s₁ with heap := h, toks := tk }) E s₁
section
variable {prog : Program} {w : World} {A₀ : Around} {E : Value → Shared → Prop} {s : Shared} {h₀ base : Heap} {fs : List Env} {m : MapS} {env : Env} {L : Addr}
theorem Assign_ListComp_E {elt target iter : Expr} {ifs : List Expr} {y : Str} {py : Pos} {scope : Scope} {cl : List (Str × Addr)} {pos spos : Pos} {Q : Flow → Shared → Prop} {S : List Addr} {cls : String} {nx₀ : List (Addr × Obj)} (F₀ : Fr h₀ L s.heap m) (hLe : env.locals = L)
    (hstk : A₀.frames = some fs) (hfun : ∀ h₃, Fr h₀ L h₃ m → News h₀ L h₃ nx₀ → h₃.FunFrames base (env :: fs)) (hf : env.frame = some L) (hS : ∀ b ∈ S, b ∈ (env :: fs).filterMap (·.frame))
    (hsw : swapsWith (.ListComp elt [⟨target, iter, ifs, 0⟩] scope pos) (some (.Name y py)) spos.line env = pure true)
    (hclos : closureFor scope env = pure cl) (hcell : ∀ z ∈ scope.names, z.2 ≠ .cell) (hkind : scope.kind = .function)
    (hnames : ∀ z ∈ scope.names, z.2 = .local → scope.names.lookup z.1 = some .local)
    (hy : env.kindOf y = some .local) (hp : (env.scope.kind == .class || (env.scope.kind == .module && env.locals != env.globals)) = false)
    (hE : ∀ h₃ h' tk e₀, Fr h₀ L h₃ m → News h₀ L h₃ nx₀ → Exc ((env :: fs).filterMap (·.frame)) h₃ h' e₀ (.type cls) .none true → E (.ref e₀) { s with heap := h', toks := tk })
    (h : wpAny (model prog w) (A₀.deeper env) (eval iter env) (fun xv s₁ => (∃ h tk, s₁ = { s with heap := h, toks := tk }) ∧ CompAtE prog w (A₀.deeper env) h₀ L m env target elt ifs scope cl S cls nx₀ E (EndA h₀ L m y Q) xv s₁) E s)
    (hs : ∀ x, foldedSetIterable iter env x = pure x := by intro _; rfl) :
    wpAny (model prog w) (A₀.deeper env) (exec (.Assign [.Name y py] (.ListComp elt [⟨target, iter, ifs, 0⟩] scope pos) spos) env) Q E s := by
  subst hLe
  rw [exec_Assign_Name_used _ _ _ _ hsw]
  refine wpAny_bind (wpAny_standAt (wpAny_bind ?_))
  show wpAny _ (A₀.deeper env) (do let _ ← comprehension (.ListComp elt [⟨target, iter, ifs, 0⟩] scope pos) scope env _ (newList []) false (eval iter env) (some (assign (.Name y py) env))) _ _ s
  refine wpAny_bind (wpAny_mono (wpAny_comprehension_free (use := some (assign (.Name y py) env)) (Q := fun _ s' => Q .next s') rfl hs hclos hkind hnames
    (wpAny_mono h (fun xv s₁ h₁ => wpAny_mono h₁.2 (fun it s₂ h₂ => ?_) fun _ _ e => e) fun _ _ e => e)) (fun _ s' hq => wpAny_pure (wpAny_pure hq)) fun _ _ e => e)
  obtain ⟨⟨ha, tka, rfl⟩, _⟩ := h₁
  obtain ⟨⟨I, fp, wr, n, P, St, news, J, rfl, W, hsz, hst, hfp, hwr, hLf, F, N, off, hJ, turn, fin⟩, hb, tkb, rfl⟩ := h₂
  refine block_GE (fun D C e s' => ErrT S h₀ env.locals m nx₀ cls { s with heap := hb, toks := tkb } C e s') J W hsz hcell hkind hst hfp hwr hLf F N off hJ turn (fun D C e s' x => ?_) ?_
  · exact err_out (s := { s with heap := hb, toks := tkb }) hstk hfun hf hS x fun h3 h' tk e0 f n z => hE h3 h' tk e0 f n z
  intro D C h' tk m' ys news' F' N' o1 hn hC₀ hD₀ hCL hDL hCD offC hJ'
  show wpAny _ (A₀.deeper env) (assign (.Name y py) env (.ref D)) _ _ _
  refine wpAny_assign_Name (wpAny_storeName_local hy F'.ns (fun h₂ hn₂ hs₂ => ?_) hp)
  have hL₀ : h₀.get? env.locals = none := Heap.get?_none_of_le F'.above
  have F₂ : Fr h₀ env.locals h₂ (fun z => if z = y then some (.ref D) else m z) := ⟨hn₂, fun b o e => hs₂.extBut b o (fun q => by rw [q, hL₀] at e; cases e) (F'.keep b o e), F'.above⟩
  refine ⟨m', hn.sameBut hs₂ hCL, fun h'' hs'' => fin _ _ hJ' D h'' _ (F₂.change hs'' hCL hC₀) (fun p hp => ?_) o1⟩
  have z : h₂.get? p.1 = some p.2 := hs₂.extBut _ _ (N' p hp).2.1 (N' p hp).1
  refine ⟨hs''.extBut _ _ ?_ z, (N' p hp).2⟩
  rcases List.mem_cons.mp hp with rfl | hp
  · exact Ne.symm hCD
  · exact offC p hp
end
section
variable {prog : Program} {w : World} {A : Around} {E : Value → Shared → Prop} {s : Shared} {h₀ : Heap} {L : Addr} {m : Str → Option Value} {env : Env} {elt : Expr} {ifs : List Expr} {scope : Scope} {cl : List (Str × Addr)} {Fin : Shared → List Value → List (Addr × Obj) → Prop}
theorem steps_tup {x : Str} {px : Pos} {ax I : Addr} {vs : List Value} (hh : A.handled = none) (hne : ax ≠ I) (hkind : scope.kind = .function) (hx : scope.names.lookup x = some .local) :
    Steps prog w A env scope cl (.Name x px) I [I, ax] [I] vs.length (fun i m₂ => ∃ v, vs[i]? = some v ∧ m₂ x = some v) (fun i h => h.IsTupleIter I ax i ∧ h.IsTuple ax vs.toArray) := by
  have W := Walks.tuple (prog := prog) (w := w) hh I ax hne vs.toArray
  have hlen : vs.toArray.size = vs.length := by simp
  rw [hlen] at W
  have St := steps_name (env := env) (cl := cl) (px := px) W hkind hx (fun i h hi b hb => by rw [List.mem_singleton.mp hb]; obtain ⟨⟨o, ho, _⟩, _⟩ := hi; exact ⟨o, ho⟩)
  exact { St with
    step := fun i C m' s K Z E hi hst hn hC hK => St.step i C m' s K Z E hi hst hn hC fun m₂ h' tk hP => hK m₂ h' tk (by obtain ⟨v, h1, h2⟩ := hP; exact ⟨v, by simpa using h1, h2⟩) }
theorem src_tupS {x : Str} {px : Pos} {ax : Addr} {vs : List Value} {news : List (Addr × Obj)} (J : List (Addr × Obj) → Nat → List Value → List (Addr × Obj) → Prop)
    (hh : A.handled = none) (F : Fr h₀ L s.heap m) (N : News h₀ L s.heap news) (hD : s.heap.IsTuple ax vs.toArray) (haL : ax ≠ L) (hsz : vs.length ≤ sizeLine)
    (hkind : scope.kind = .function) (hx : scope.names.lookup x = some .local) (hJ : J news 0 [] news)
    (turn : ∀ I i v C oC D m₂ h tk own ys nx (E' : Value → Shared → Prop), vs[i]? = some v → J news i ys nx → m₂ x = some v → NsObj oC m₂ → Fr h₀ L h m → News h₀ L h (own ++ ((C, oC) :: (D, lst ys) :: nx)) → (∀ p ∈ nx, p.1 ∉ [I] ∧ p.1 ≠ C ∧ p.1 ≠ D) → (∃ o, (I, o) ∈ own) → C ≠ D →
      wpAny (model prog w) A (testsOf ifs (compEnvC scope cl C env)) (fun ok s₃ =>
        if ok = true then wpAny (model prog w) A (eval elt (compEnvC scope cl C env)) (fun y s₄ => EltEnd h₀ L m own C D oC (lst ys) [I] (J news (i + 1) (ys ++ [y])) s s₄) E' s₃
        else EltEnd h₀ L m own C D oC (lst ys) [I] (J news (i + 1) ys) s s₃) E' { s with heap := h, toks := tk })
    (fin : ∀ g tk ys nx, J news vs.length ys nx → Fin { s with heap := g, toks := tk } ys nx) :
    CompAt prog w A h₀ L m env (.Name x px) elt ifs scope cl E Fin (.ref ax) s := by
  obtain ⟨oD, hoD, hr⟩ := id hD
  have hne : ax ≠ s.heap.objs.size := lt_ne_size hoD
  refine wpAny_pyIter_tuple hD ?_
  refine ⟨s.heap.objs.size, _, _, vs.length, _, _, news, J news, rfl, steps_tup (vs := vs) hh hne hkind hx, hsz, ⟨⟨_, Heap.get?_push_size _ rfl, rfl, rfl⟩, ⟨oD, Heap.get?_push_of_some _ hoD, hr⟩⟩, ?_, ?_, ?_, F.push _, fun p hp => ⟨Heap.get?_push_of_some _ (N p hp).1, (N p hp).2⟩, ?_, hJ, ?_, ?_⟩
  · intro b hb
    rw [Heap.size_push]
    rcases List.mem_cons.mp hb with rfl | hb
    · exact Nat.lt_succ_self _
    · rw [List.mem_singleton.mp hb]; exact Nat.lt_succ_of_lt (Heap.lt_size hoD)
  · intro b hb; rw [List.mem_singleton.mp hb]; exact next_is_new F
  · intro hm
    rcases List.mem_cons.mp hm with e | hm
    · exact absurd F.ns.lt (e ▸ Nat.lt_irrefl _)
    · exact haL (List.mem_singleton.mp hm).symm
  · intro p hp hI; exact absurd (Heap.lt_size (N p hp).1) ((List.mem_singleton.mp hI) ▸ Nat.lt_irrefl _)
  · rintro i C oC D m₂ h tk own ys nx E' hi hj ⟨v, hv, hm⟩ hC F' N' hI hoff hCD
    exact turn _ i v C oC D m₂ h tk own ys nx E' hv hj hm hC F' N' hoff (hI _ (.head _)) hCD
  · exact fun ys nx hj => fin _ _ ys nx hj
theorem src_tupE {x : Str} {px : Pos} {ax : Addr} {vs : List Value} {news : List (Addr × Obj)} {S : List Addr} {cls : String} {nx₀ : List (Addr × Obj)} (J : List (Addr × Obj) → Nat → List Value → List (Addr × Obj) → Prop)
    (hh : A.handled = none) (F : Fr h₀ L s.heap m) (N : News h₀ L s.heap news) (hD : s.heap.IsTuple ax vs.toArray) (haL : ax ≠ L) (hsz : vs.length ≤ sizeLine)
    (hkind : scope.kind = .function) (hx : scope.names.lookup x = some .local) (hJ : J news 0 [] news)
    (turn : ∀ I i v C oC D m₂ h tk own ys nx (E' : Value → Shared → Prop), (∀ e s', ErrT S h₀ L m nx₀ cls s C e s' → E' e s') → vs[i]? = some v → J news i ys nx → m₂ x = some v → NsObj oC m₂ → Fr h₀ L h m → News h₀ L h (own ++ ((C, oC) :: (D, lst ys) :: nx)) → (∀ p ∈ nx, p.1 ∉ [I] ∧ p.1 ≠ C ∧ p.1 ≠ D) → (∃ o, (I, o) ∈ own) → C ≠ D →
      wpAny (model prog w) A (testsOf ifs (compEnvC scope cl C env)) (fun ok s₃ =>
        if ok = true then wpAny (model prog w) A (eval elt (compEnvC scope cl C env)) (fun y s₄ => EltEnd h₀ L m own C D oC (lst ys) [I] (J news (i + 1) (ys ++ [y])) s s₄) E' s₃
        else EltEnd h₀ L m own C D oC (lst ys) [I] (J news (i + 1) ys) s s₃) E' { s with heap := h, toks := tk })
    (fin : ∀ g tk ys nx, J news vs.length ys nx → Fin { s with heap := g, toks := tk } ys nx) :
    CompAtE prog w A h₀ L m env (.Name x px) elt ifs scope cl S cls nx₀ E Fin (.ref ax) s := by
  obtain ⟨oD, hoD, hr⟩ := id hD
  have hne : ax ≠ s.heap.objs.size := lt_ne_size hoD
  refine wpAny_pyIter_tuple hD ?_
  refine ⟨⟨s.heap.objs.size, _, _, vs.length, _, _, news, J news, rfl, steps_tup (vs := vs) hh hne hkind hx, hsz, ⟨⟨_, Heap.get?_push_size _ rfl, rfl, rfl⟩, ⟨oD, Heap.get?_push_of_some _ hoD, hr⟩⟩, ?_, ?_, ?_, F.push _, fun p hp => ⟨Heap.get?_push_of_some _ (N p hp).1, (N p hp).2⟩, ?_, hJ, ?_, ?_⟩, _, _, rfl⟩
  · intro b hb
    rw [Heap.size_push]
    rcases List.mem_cons.mp hb with rfl | hb
    · exact Nat.lt_succ_self _
    · rw [List.mem_singleton.mp hb]; exact Nat.lt_succ_of_lt (Heap.lt_size hoD)
  · intro b hb; rw [List.mem_singleton.mp hb]; exact next_is_new F
  · intro hm
    rcases List.mem_cons.mp hm with e | hm
    · exact absurd F.ns.lt (e ▸ Nat.lt_irrefl _)
    · exact haL (List.mem_singleton.mp hm).symm
  · intro p hp hI; exact absurd (Heap.lt_size (N p hp).1) ((List.mem_singleton.mp hI) ▸ Nat.lt_irrefl _)
  · rintro i C oC D m₂ h tk own ys nx E' hEr hi hj ⟨v, hv, hm⟩ hC F' N' hI hoff hCD
    exact turn _ i v C oC D m₂ h tk own ys nx E' (fun e s' x => hEr e s' x) hv hj hm hC F' N' hoff (hI _ (.head _)) hCD
  · exact fun ys nx hj => fin _ _ ys nx hj
end
end
end Mine
namespace Mine
section
open PySem.Calls
theorem setTurn_eq (elt target iter : Expr) (scope : Scope) (pos : Pos) (it acc : Value) (env : Env) :
    compTurn (.SetComp elt [⟨target, iter, [], 0⟩] scope pos) 0 it acc env = (standAt iter.pos >>= fun _ => pyNext it >>= fun r => match r with
      | none => pure (.done .next)
      | some v => letOwnedTupleGo target it v >>= fun _ => assign target env v >>= fun _ =>
        (eval elt env >>= fun x => standAt elt.pos >>= fun _ => call (.builtin "set.add") [acc, x] >>= fun _ => pure ()) >>= fun _ =>
          again (.compLoop (.SetComp elt [⟨target, iter, [], 0⟩] scope pos) 0 it acc env)) := by rfl
section
variable {prog : Program} {w : World} {A : Around} {E : Value → Shared → Prop} {R : Result → Shared → Prop} {s : Shared}
theorem setLoop_gen {elt target iter : Expr} {scope : Scope} {pos : Pos} {it acc : Value} {env : Env} (I : Nat → Shared → Prop)
    (turn : ∀ n s, I n s → wpAny (model prog w) A (pyNext it) (fun r s₁ => match r with
      | none => R (.ok .next) s₁
      | some v => wpAny (model prog w) A (letOwnedTupleGo target it v) (fun _ s₁' => wpAny (model prog w) A (assign target env v) (fun _ s₂ =>
          wpAny (model prog w) A (eval elt env) (fun x s₄ =>
              wpAny (model prog w) A (call (.builtin "set.add") [acc, x]) (fun _ s₅ => ∃ m, m < n ∧ I m s₅) (notedBy (model prog w) A env fun e s' => R (.error e) s') s₄) (notedBy (model prog w) A env fun e s' => R (.error e) s') s₂) (notedBy (model prog w) A env fun e s' => R (.error e) s') s₁') (notedBy (model prog w) A env fun e s' => R (.error e) s') s₁) (notedBy (model prog w) A env fun e s' => R (.error e) s') s)
    (n : Nat) (h : I n s) :
    codeAny (model prog w) A (.compLoop (.SetComp elt [⟨target, iter, [], 0⟩] scope pos) 0 it acc env) R s := by
  refine codeAny_loop rfl I (fun n s hI => ?_) n h
  show wpAny _ A ((compTurn (.SetComp elt [⟨target, iter, [], 0⟩] scope pos) 0 it acc env).onRaise (fun x => do noteFrame x env; theTreesLotGoes x)) _ _ s
  refine wpAny_noted ?_
  rw [setTurn_eq]
  refine wpAny_bind (wpAny_standAt (wpAny_bind (wpAny_mono (turn n s hI) (fun r s₁ h₁ => ?_) fun _ _ h' => h')))
  cases r with
  | none => exact wpAny_pure h₁
  | some v =>
    refine wpAny_bind (wpAny_mono h₁ (fun _ s₁' h₁' => ?_) fun _ _ h' => h')
    refine wpAny_bind (wpAny_mono h₁' (fun _ s₂ h₂ => ?_) fun _ _ h' => h')
    exact wpAny_bind (wpAny_bind (wpAny_mono h₂ (fun x s₄ h₄ => wpAny_bind (wpAny_standAt (wpAny_bind (wpAny_mono h₄ (fun _ s₅ h₅ => wpAny_pure (wpAny_pure ⟨rfl, h₅⟩)) fun _ _ h' => h')))) fun _ _ h' => h'))
theorem setStart {elt target iter : Expr} {scope : Scope} {pos : Pos} {it acc : Value} {env : Env}
    (h0 : codeAny (model prog w) A (.compLoop (.SetComp elt [⟨target, iter, [], 0⟩] scope pos) 0 it acc env) R s)
    (h : wpAny (model prog w) A (pyIter it) (fun it' s' => codeAny (model prog w) A (.compLoop (.SetComp elt [⟨target, iter, [], 0⟩] scope pos) 0 it' acc env) R s')
      (notedBy (model prog w) A env fun x s' => R (.error x) s') s) :
    codeAny (model prog w) A (.compStart (.SetComp elt [⟨target, iter, [], 0⟩] scope pos) 0 it acc env) R s := by
  refine codeAny_of_tree ?_
  show wpAny _ _ ((compStart (.SetComp elt [⟨target, iter, [], 0⟩] scope pos) 0 it acc env).onRaise (fun x => do noteFrame x env; standAt theWindowsPlace)) _ _ s
  refine wpAny_notedAt ?_
  unfold compStart
  show wpAny _ _ (ask >>= _) _ _ s
  refine wpAny_bind (wpAny_askSetting (wpAny_ite ?_))
  split
  · first
      | exact wpAny_bind (wpAny_pure (wpAny_pure (And.intro rfl h0)))
      | exact wpAny_pure (And.intro rfl h0)
  · refine wpAny_bind (wpAny_rule ?_); show wpAny _ _ (standAt iter.pos >>= _) _ _ s; exact wpAny_bind (wpAny_standAt (wpAny_bind (wpAny_mono h (fun it' s' h' => wpAny_pure (And.intro rfl h')) fun _ _ x => x)))
end
open LCg
noncomputable def flF (g : Nat → Bool) : Nat → Bool
  | 0 => false
  | i + 1 => flF g i || !g i
noncomputable def flT (g : Nat → Bool) : Nat → Bool
  | 0 => false
  | i + 1 => flT g i || g i
theorem flF_succ (g : Nat → Bool) (n : Nat) : flF g (n + 1) = (flF g n || !g n) := rfl
theorem flT_succ (g : Nat → Bool) (n : Nat) : flT g (n + 1) = (flT g n || g n) := rfl
section
variable {prog : Program} {w : World} {A : Around} {E : Value → Shared → Prop} {s : Shared} {h₀ : Heap} {L : Addr} {m : Str → Option Value} {env : Env}
theorem eval_SetC (elt gens scope pos) : eval (.SetComp elt gens scope pos) env =
    comprehension (.SetComp elt gens scope pos) scope env (firstIterPos gens pos) (newSet (.type "set")) (firstAsync gens) (firstIter gens env) := rfl
inductive SetSt (h₀ : Heap) (L ax I D C : Addr) (bt : Bool) (g : Nat → Bool) (m : MapS) (news : List (Addr × Obj)) (n : Nat) (s : Shared) (k : Nat) (s' : Shared) : Prop
  | mk (h' : Heap) (tk i ep : Nat) (m' : MapS) (hs : s' = { s with heap := h', toks := tk }) (hi : i ≤ n) (hk : k = n + 1 - i) (hit : Heap.IsTupleIter h' I ax i) (hF : Fr h₀ L h' m) (hn : h'.Ns C m') (hN : News h₀ L h' ((D, bset bt ep (flF g i) (flT g i)) :: news))
inductive IterIs (h₀ : Heap) (L : Addr) (m : MapS) (news : List (Addr × Obj)) (ax : Addr) (s : Shared) (xv : Value) (s₁ : Shared) : Prop
  | mk (hx : xv = .ref ax) (h : Heap) (tk : Nat) (hs : s₁ = { s with heap := h, toks := tk }) (hF : Fr h₀ L h m) (hN : News h₀ L h news)
inductive BoolIs (h₀ : Heap) (L : Addr) (m : MapS) (news : List (Addr × Obj)) (b : Bool) (s : Shared) (y : Value) (s₁ : Shared) : Prop
  | mk (hy : y = .bool b) (h : Heap) (tk : Nat) (hs : s₁ = { s with heap := h, toks := tk }) (hF : Fr h₀ L h m) (hN : News h₀ L h news)
theorem SetComp_bools {elt iter : Expr} {x : Str} {px : Pos} {scope : Scope} {cl : List (Str × Addr)} {pos : Pos} {ax : Addr} {vs : List Value} {news : List (Addr × Obj)} {Q : Value → Shared → Prop} (g : Nat → Bool)
    (F₀ : Fr h₀ L s.heap m) (N₀ : News h₀ L s.heap news) (hh : A.handled = none) (hax : (ax, ({ cls := .type "tuple", data := .seq vs.toArray } : Obj)) ∈ news)
    (hclos : closureFor scope env = pure cl) (hcell : ∀ y ∈ scope.names, y.2 ≠ .cell) (hkind : scope.kind = .function)
    (hnames : ∀ y ∈ scope.names, y.2 = .local → scope.names.lookup y.1 = some .local) (hx : scope.names.lookup x = some .local)
    (h : wpAny (model prog w) A (eval iter env) (IterIs h₀ L m news ax s) E s)
    (turn : ∀ i v C oC (m₂ : MapS) h tk own (E' : Value → Shared → Prop), vs[i]? = some v → m₂ x = some v → NsObj oC m₂ → Fr h₀ L h m → News h₀ L h (own ++ ((C, oC) :: news)) →
      wpAny (model prog w) A (eval elt (compEnvC scope cl C env)) (BoolIs h₀ L m (own ++ ((C, oC) :: news)) (g i) s) E' { s with heap := h, toks := tk })
    (fin : ∀ D ep h tk, Fr h₀ L h m → News h₀ L h ((D, bset (!byText prog w) ep (flF g vs.length) (flT g vs.length)) :: news) → (∀ p ∈ news, p.1 ≠ D) → Q (.ref D) { s with heap := h, toks := tk })
    (hs : ∀ x, foldedSetIterable iter env x = pure x := by intro _; rfl) :
    wpAny (model prog w) A (eval (.SetComp elt [⟨.Name x px, iter, [], 0⟩] scope pos) env) Q E s := by
  rw [eval_SetC]
  refine wpAny_comprehension_free (use := none) rfl hs hclos hkind hnames (wpAny_mono h (fun xv s₁ h₁ => ?_) fun _ _ e => e)
  obtain ⟨rfl, ha, tka, rfl, Fa, Na⟩ := h₁
  have htA : Heap.IsTuple ha ax vs.toArray := ⟨_, (Na _ hax).1, rfl, _, rfl⟩
  refine wpAny_pyIter_tuple htA ?_
  refine bset_new ?_
  refine wpAny_newFunctionEnv hcell (by intro y hy; simp at hy) (fun h₁ hns₁ hsb₁ => ?_) hkind
  dsimp only at hns₁ hsb₁ ⊢
  generalize hH1 : ha.push { cls := .type "tuple_iterator", data := .fields #[.ref ax, .int 0 0] } = H1 at hns₁ hsb₁ ⊢
  generalize hH2 : H1.push (bset (!byText prog w) 0 false false) = H2 at hns₁ hsb₁ ⊢
  have hI : H1.objs.size = ha.objs.size + 1 := by rw [← hH1, Heap.size_push]
  have hC : H2.objs.size = H1.objs.size + 1 := by rw [← hH2, Heap.size_push]
  have nID : ha.objs.size ≠ H1.objs.size := by rw [hI]; exact Nat.ne_of_lt (Nat.lt_succ_self _)
  have nDC : H1.objs.size ≠ H2.objs.size := by rw [hC]; exact Nat.ne_of_lt (Nat.lt_succ_self _)
  have nIC : ha.objs.size ≠ H2.objs.size := by rw [hC, hI]; exact Nat.ne_of_lt (Nat.lt_succ_of_lt (Nat.lt_succ_self _))
  have below : ∀ b, b < ha.objs.size → b ≠ ha.objs.size ∧ b ≠ H1.objs.size ∧ b ≠ H2.objs.size := fun b hb => ⟨Nat.ne_of_lt hb, by rw [hI]; exact Nat.ne_of_lt (Nat.lt_succ_of_lt hb), by rw [hC, hI]; exact Nat.ne_of_lt (Nat.lt_succ_of_lt (Nat.lt_succ_of_lt hb))⟩
  have k1 : ∀ b o, ha.get? b = some o → H1.get? b = some o := fun b o e => by rw [← hH1]; exact Heap.get?_push_of_some _ e
  have k2 : ∀ b o, H1.get? b = some o → H2.get? b = some o := fun b o e => by rw [← hH2]; exact Heap.get?_push_of_some _ e
  have i1 : H1.get? ha.objs.size = some { cls := .type "tuple_iterator", data := .fields #[.ref ax, .int 0 0] } := by rw [← hH1]; exact Heap.get?_push_size _ rfl
  have d1 : H2.get? H1.objs.size = some (bset (!byText prog w) 0 false false) := by rw [← hH2]; exact Heap.get?_push_size _ rfl
  have old : ∀ b o, ha.get? b = some o → h₁.get? b = some o := fun b o e => hsb₁.extBut b o (below b (Heap.lt_size e)).2.2 (Heap.get?_push_of_some _ (k2 _ _ (k1 _ _ e)))
  have hit₁ : h₁.get? ha.objs.size = some { cls := .type "tuple_iterator", data := .fields #[.ref ax, .int 0 0] } := hsb₁.extBut _ _ nIC (Heap.get?_push_of_some _ (k2 _ _ i1))
  have hset₁ : h₁.get? H1.objs.size = some (bset (!byText prog w) 0 false false) := hsb₁.extBut _ _ nDC (Heap.get?_push_of_some _ d1)
  have fresh₀ : ∀ a, ha.objs.size ≤ a → h₀.get? a = none := fun a hq => by
    cases e : h₀.get? a with
    | none => rfl
    | some o' => have := Fa.keep a o' e; rw [none_size hq] at this; cases this
  have hI₀ : h₀.get? ha.objs.size = none := fresh₀ _ (Nat.le_refl _)
  have hD₀ : h₀.get? H1.objs.size = none := fresh₀ _ (by rw [hI]; exact Nat.le_succ _)
  have hC₀ : h₀.get? H2.objs.size = none := fresh₀ _ (by rw [hC, hI]; exact Nat.le_succ_of_le (Nat.le_succ _))
  have hLlt : L < ha.objs.size := Fa.ns.lt
  obtain ⟨LI, LD, LC⟩ := below L hLlt
  have offn : ∀ p ∈ news, p.1 ≠ ha.objs.size ∧ p.1 ≠ H1.objs.size ∧ p.1 ≠ H2.objs.size := fun p hp => below _ (Heap.lt_size (Na p hp).1)
  have hst := steps_tup (prog := prog) (w := w) (A := A) (env := env) (cl := cl) (scope := scope) (px := px) (vs := vs) hh (offn _ hax).1 hkind hx
  have loop : ∀ s₃ : Shared, s₃ = { s with heap := h₁, toks := tka + ([] : List (Str × Value)).length } →
      codeAny (model prog w) A (.compLoop (.SetComp elt [⟨.Name x px, iter, [], 0⟩] scope pos) 0 (.ref ha.objs.size) (.ref H1.objs.size) (compEnvC scope cl H2.objs.size env))
        (compPost (model prog w) A E none Q (.ref H1.objs.size) H2.objs.size) s₃ := by
    intro s₃ e3
    subst e3
    refine setLoop_gen
      (SetSt h₀ L ax ha.objs.size H1.objs.size H2.objs.size (!byText prog w) g m news vs.length s) ?_ (vs.length + 1)
      ⟨h₁, _, 0, 0, _, rfl, Nat.zero_le _, rfl, ⟨_, hit₁, rfl, rfl⟩, Fa.keeps old, hns₁, fun p hp => ?_⟩
    · rintro k s' ⟨h', tk, i, ep, m', rfl, hi, rfl, hit, F', hn', N'⟩
      have ht' : Heap.IsTuple h' ax vs.toArray := ⟨_, (N' _ (.tail _ hax)).1, rfl, _, rfl⟩
      by_cases hlt : i < vs.length
      · refine hst.step i H2.objs.size m' { s with heap := h', toks := tk } _ _ _ hlt ⟨hit, ht'⟩ hn' (fun hm => ?_) fun m₂ h₃ tk₃ hPv hst₃ hn₃ hk₃ => ?_
        · rcases List.mem_cons.mp hm with q | hm
          · exact nIC q.symm
          · exact (offn _ hax).2.2 (List.mem_singleton.mp hm).symm
        obtain ⟨v, hv, hmx⟩ := hPv
        obtain ⟨oC, heC, hoC⟩ := ns_obj hn₃
        obtain ⟨⟨oI, hoI, hIr⟩, _⟩ := hst₃
        have wI : ∀ b, b ≠ ha.objs.size → b ∉ [ha.objs.size] := fun b hb hm => hb (List.mem_singleton.mp hm)
        have F₃ : Fr h₀ L h₃ m := ⟨F'.ns.at' fun o e => hk₃ L o (wI _ LI) LC e, fun b o e => hk₃ b o (wI _ fun q => by rw [q, hI₀] at e; cases e) (fun q => by rw [q, hC₀] at e; cases e) (F'.keep b o e), F'.above⟩
        have N₃ : News h₀ L h₃ ([(ha.objs.size, oI), (H1.objs.size, bset (!byText prog w) ep (flF g i) (flT g i))] ++ ((H2.objs.size, oC) :: news)) := fun p hp => by
          rcases List.mem_cons.mp hp with rfl | hp
          · exact ⟨hoI, Ne.symm LI, hI₀⟩
          rcases List.mem_cons.mp hp with rfl | hp
          · exact ⟨hk₃ _ _ (wI _ (Ne.symm nID)) nDC (N' _ (.head _)).1, Ne.symm LD, hD₀⟩
          rcases List.mem_cons.mp hp with rfl | hp
          · exact ⟨heC, Ne.symm LC, hC₀⟩
          · exact ⟨hk₃ _ _ (wI _ (offn p hp).1) (offn p hp).2.2 (N' p (.tail _ hp)).1, (N' p (.tail _ hp)).2⟩
        refine wpAny_mono (turn i v H2.objs.size oC m₂ h₃ tk₃ _ _ hv hmx hoC F₃ N₃) (fun y s₄ h₄ => ?_) fun _ _ e => e
        obtain ⟨rfl, h5, tk5, rfl, F5, N5⟩ := h₄
        have hset5 := (N5 _ (.tail _ (.head _))).1
        refine bst_add (s := { s with heap := h5, toks := tk5 }) hset5 fun h6 ep6 hs6 hset6 => ?_
        refine ⟨vs.length + 1 - (i + 1), by (first | lia | omega), h6, tk5 + 1, i + 1, ep6, m₂, rfl, hlt, rfl, ?_, F5.change hs6 (Ne.symm LD) hD₀, ?_, fun p hp => ?_⟩
        · exact ⟨oI, hs6.extBut _ _ nID (N5 _ (.head _)).1, hIr⟩
        · exact (hoC.ns (N5 (H2.objs.size, oC) (.tail _ (.tail _ (.head _)))).1).sameBut hs6 (Ne.symm nDC)
        · rcases List.mem_cons.mp hp with rfl | hp
          · exact ⟨hset6, Ne.symm LD, hD₀⟩
          · have z := N5 p (.tail _ (.tail _ (.tail _ hp)))
            exact ⟨hs6.extBut _ _ (offn p hp).2.1 z.1, z.2⟩
      · obtain rfl : i = vs.length := Nat.le_antisymm hi (Nat.not_lt.mp hlt)
        refine hst.done { s with heap := h', toks := tk } _ _ ⟨hit, ht'⟩ fun h2 tk2 hk2 => ?_
        have wI : ∀ b, b ≠ ha.objs.size → b ∉ [ha.objs.size] := fun b hb hm => hb (List.mem_singleton.mp hm)
        have F2 : Fr h₀ L h2 m := ⟨F'.ns.at' fun o e => hk2 L o (wI _ LI) e, fun b o e => hk2 b o (wI _ fun q => by rw [q, hI₀] at e; cases e) (F'.keep b o e), F'.above⟩
        refine ⟨m', hn'.at' fun o e => hk2 _ o (wI _ (Ne.symm nIC)) e, fun h3 hs3 => fin _ ep h3 tk2 (F2.change hs3 (Ne.symm LC) hC₀) (fun p hp => ?_) fun p hp => (offn p hp).2.1⟩
        rcases List.mem_cons.mp hp with rfl | hp
        · exact ⟨hs3.extBut _ _ nDC (hk2 _ _ (wI _ (Ne.symm nID)) (N' _ (.head _)).1), (N' _ (.head _)).2⟩
        · have z := N' p (.tail _ hp)
          exact ⟨hs3.extBut _ _ (offn p hp).2.2 (hk2 _ _ (wI _ (offn p hp).1) z.1), z.2⟩
    · rcases List.mem_cons.mp hp with rfl | hp
      · exact ⟨hset₁, Ne.symm LD, hD₀⟩
      · exact ⟨old _ _ (Na p hp).1, (Na p hp).2⟩
  exact setStart (loop _ rfl) (hst.self 0 { s with heap := h₁, toks := tka } _ _ ⟨⟨_, hit₁, rfl, rfl⟩, ⟨_, old _ _ (Na _ hax).1, rfl, _, rfl⟩⟩ (loop _ rfl))
end
section
variable {prog : Program} {w : World} {A : Around} {E : Value → Shared → Prop} {s : Shared} {h₀ : Heap} {m : Str → Option Value} {env : Env} {news : List (Addr × Obj)}
theorem assign_bset1 {x : Str} {px tp : Pos} {kk : Nat} {a : Addr} {ep : Nat} {f t b : Bool} {Q : Unit → Shared → Prop} {L : Addr} (F : Fr h₀ L s.heap m) (N : News h₀ L s.heap news) (hLe : env.locals = L) (hh : A.handled = none) (hm : (a, bset (!byText prog w) ep f t) ∈ news) (hb : bls f t = [b])
    (hx : env.kindOf x = some .local) (hp : (env.scope.kind == .class || (env.scope.kind == .module && env.locals != env.globals)) = false)
    (h : ∀ h' tk, Fr h₀ L h' (fun z => if z = x then some (.bool b) else m z) → News h₀ L h' news → Q () { s with heap := h', toks := tk }) :
    wpAny (model prog w) A (assign (.Tuple [.Name x px] kk tp) env (.ref a)) Q E s := by
  subst hLe
  rw [assign_Tuple]
  refine wpAny_bind (wpAny_standAt ?_)
  unfold unpack
  refine wpAny_bind (wpAny_holding (bst_unpack1 (b := b) hh hb (N _ hm).1 fun h1 k1 => ?_))
  refine assignInOrder_cons (wpAny_assign_Name (wpAny_storeName_local hx (F.keeps k1).ns (fun h₂ hn₂ hs₂ => ?_) hp))
  refine assignInOrder_nil ?_
  have hL₀ : h₀.get? env.locals = none := Heap.get?_none_of_le F.above
  exact h h₂ _ ⟨hn₂, fun b o e => hs₂.extBut b o (fun q => by rw [q, hL₀] at e; cases e) (k1 _ _ (F.keep b o e)), F.above⟩ fun p hp => ⟨hs₂.extBut _ _ (N p hp).2.1 (k1 _ _ (N p hp).1), (N p hp).2⟩
theorem assign_bset2 {x : Str} {px tp : Pos} {kk : Nat} {a : Addr} {ep : Nat} {Q : Unit → Shared → Prop} (hh : A.handled = none) (hm : s.heap.get? a = some (bset (!byText prog w) ep true true))
    (h : ∀ h' tk e, Heap.NewExc s.heap h' e "ValueError" → E (.ref e) { s with heap := h', toks := tk }) :
    wpAny (model prog w) A (assign (.Tuple [.Name x px] kk tp) env (.ref a)) Q E s := by
  rw [assign_Tuple]
  refine wpAny_bind (wpAny_standAt ?_)
  unfold unpack
  exact wpAny_bind (wpAny_holding (bst_unpack2 hh hm h))
end
theorem fl_same {g : Nat → Bool} {b : Bool} : ∀ n, (∀ i, i < n → g i = b) → 0 < n → bls (flF g n) (flT g n) = [b]
  | 0, _, h => absurd h (by (first | lia | omega))
  | 1, h, _ => by
    have := h 0 Nat.one_pos
    show bls (!g 0) (g 0) = [b]
    rw [this]
    cases b <;> rfl
  | n + 2, h, _ => by
    have ih := fl_same (n + 1) (fun i hi => h i (by (first | lia | omega))) (by (first | lia | omega))
    have := h (n + 1) (by (first | lia | omega))
    rw [flF_succ, flT_succ, this]
    generalize flF g (n + 1) = f at ih ⊢
    generalize flT g (n + 1) = t at ih ⊢
    cases f <;> cases t <;> cases b <;> first | rfl | (exact absurd ih (by decide))
theorem flF_true {g : Nat → Bool} {i : Nat} (h : g i = false) : ∀ n, i < n → flF g n = true
  | 0, q => absurd q (by (first | lia | omega))
  | n + 1, q => by
    rw [flF_succ]
    by_cases e : i = n
    · subst e; rw [h]; simp
    · rw [flF_true h n (by (first | lia | omega))]; rfl
theorem flT_true {g : Nat → Bool} {i : Nat} (h : g i = true) : ∀ n, i < n → flT g n = true
  | 0, q => absurd q (by (first | lia | omega))
  | n + 1, q => by
    rw [flT_succ]
    by_cases e : i = n
    · subst e; rw [h]; simp
    · rw [flT_true h n (by (first | lia | omega))]; rfl
end
end Mine
namespace Mine
section
open PySem.Calls
theorem sl_bjoin : Slot "bytes" "join" "bytes.join" :=
  .of (owner := "bytes") (n := "join") (by rw [typeLookup_type, builtinLookup_eq_fast]; kernel_rfl) (by decide +kernel) (by decide +kernel) (by decide +kernel)
    (by first | exact .inl (by decide +kernel) | exact .inr (by decide +kernel)) (by rw [isSubtype_type]; kernel_rfl)
theorem ty_bjoin : typeOf (.builtin "bytes.join") = pure (.type "method_descriptor") := by show builtinType _ = _; rw [builtinType_eq_fast]; kernel_rfl
theorem en_bjoin : entryFor table "bytes.join" = some Builtin.«bytes.join» := entryFor_of_tree (by kernel_rfl)
theorem ar_bjoin (a b : Value) : argsOk "bytes.join" ⟨[a, b], []⟩ := by
  unfold argsOk; rw [signature?_of (id := "bytes.join") (n := ['n', 'i', 'o', 'j']) (o := ['s', 'e', 't', 'y', 'b']) (by kernel_rfl) FB.owner_bytes]; kernel_rfl
theorem by_buffer : typeLookup (.type "bytes") "__buffer__" = pure (some (.builtin "bytes.__buffer__")) := by rw [typeLookup_type, builtinLookup_eq_fast]; kernel_rfl
section
open Builtin
open AutoSeq1 (wpAny_loadPart')
variable {prog : Program} {w : World} {A : Around} {E : Value → Shared → Prop} {s : Shared}
theorem take_eq {id : String} {b : Array UInt8} {t : Tok} : Bytes.takeBufferQuiet? id (.bytes b t) 0 = pure (some (b, none)) := by
  unfold Bytes.takeBufferQuiet? Bytes.takeBuffer?
  rw [KBy.special_eq KBy.look_buffer, KBy.own_buffer, show ((0 : Int) == Bytes.fullReadOnly) = false from by decide +kernel, KBy.buffer_eq]
  kernel_rfl
theorem take_buf {id : String} {b : Array UInt8} {t : Tok} {Q : Option (Array UInt8 × Option Value) → Shared → Prop} (h : Q (some (b, none)) s) : wpAny (model prog w) A (Bytes.takeBufferQuiet? id (.bytes b t) 0) Q E s :=
  wpAny_of_eq take_eq h
theorem joined_go (c : UInt8) : ∀ (l : List (Array UInt8)) (k : Nat) (out : Array UInt8), 0 < k → ((l.zipIdx k).foldl (fun (out : Array UInt8) (x : Array UInt8 × Nat) => (if x.2 > 0 then out ++ #[c] else out) ++ x.1) out).toList = out.toList ++ l.flatMap fun p => c :: p.toList
  | [], k, out, _ => by simp
  | p :: r, k, out, h => by
    rw [List.zipIdx_cons, List.foldl_cons, joined_go c r (k + 1) _ (by (first | lia | omega)), List.flatMap_cons]
    simp [h]
theorem ijoin_flat {α : Type} (c : α) : ∀ (p : List α) (r : List (List α)), ijoin c (p :: r) = p ++ r.flatMap fun q => c :: q
  | p, [] => (List.append_nil p).symm
  | p, q :: r => congrArg (fun z => p ++ c :: z) (ijoin_flat c q r)
theorem joined_eq (c : UInt8) (l : List (Array UInt8)) : (Bytes.joined #[c] l).toList = ijoin c (l.map Array.toList) := by
  cases l with
  | nil => rfl
  | cons p r =>
    rw [List.map_cons, ijoin_flat]
    show ((List.zipIdx (p :: r) 0).foldl (fun (out : Array UInt8) (x : Array UInt8 × Nat) => (if x.2 > 0 then out ++ #[c] else out) ++ x.1) #[]).toList = _
    rw [List.zipIdx_cons, List.foldl_cons, joined_go c r _ _ (by (first | lia | omega)), List.flatMap_map]
    simp
theorem foldl_sz : ∀ (l : List (Array UInt8)) (n : Nat), l.foldl (fun a b => a + b.size) n = n + (l.map Array.size).sum
  | [], n => by simp
  | a :: r, n => by rw [List.foldl_cons, foldl_sz r, List.map_cons, List.sum_cons]; (first | lia | omega)
theorem sz_sum : ∀ l : List (Array UInt8), (l.map fun a => a.size + 1).sum = (l.map Array.size).sum + l.length
  | [] => rfl
  | a :: r => by rw [List.map_cons, List.sum_cons, sz_sum r, List.map_cons, List.sum_cons, List.length_cons]; (first | lia | omega)
theorem ijoin_sz {c : UInt8} (l : List (Array UInt8)) : (ijoin c (l.map Array.toList)).length ≤ (l.map fun a => a.size + 1).sum := by
  cases l with
  | nil => exact Nat.le_refl _
  | cons p r =>
    rw [List.map_cons, ijoin_flat, List.length_append, List.map_cons, List.sum_cons]
    have : ∀ r : List (Array UInt8), ((r.map Array.toList).flatMap fun q => c :: q).length = (r.map fun a => a.size + 1).sum := by
      intro r
      induction r with
      | nil => rfl
      | cons a r ih => rw [List.map_cons, List.flatMap_cons, List.length_append, ih, List.map_cons, List.sum_cons]; simp
    rw [this]; simp
theorem forIn_inv {β : Type} {n : Nat} {f : Nat → β → Sem (ForInStep β)} {init : β} {Q : β → Shared → Prop} (I : Nat → β → Prop) (h0 : I 0 init)
    (hf : ∀ i b (Q' : ForInStep β → Shared → Prop), i < n → I i b → (∀ b', I (i + 1) b' → Q' (.yield b') s) → wpAny (model prog w) A (f i b) Q' E s) (hq : ∀ b, I n b → Q b s) :
    wpAny (model prog w) A (forIn [:n] init f) Q E s := by
  rw [Std.Legacy.Range.forIn_eq_forIn_range']
  have hz : ([:n] : Std.Legacy.Range).size = n := by simp [Std.Legacy.Range.size]
  show wpAny _ _ (forIn (List.range' 0 ([:n] : Std.Legacy.Range).size 1) init f) Q E s
  rw [hz]
  have key : ∀ k i b, n - i = k → i ≤ n → I i b → wpAny (model prog w) A (forIn (List.range' i k 1) b f) Q E s := by
    intro k
    induction k with
    | zero =>
      intro i b hk hi hI
      obtain rfl : i = n := by (first | lia | omega)
      rw [List.range'_zero, List.forIn_nil]
      exact wpAny_pure (hq b hI)
    | succ k ih =>
      intro i b hk hi hI
      rw [List.range'_succ, List.forIn_cons]
      refine wpAny_bind (hf i b _ (by (first | lia | omega)) hI fun b' hI' => ?_)
      exact ih (i + 1) b' (by (first | lia | omega)) (by (first | lia | omega)) hI'
  exact key n 0 init (by (first | lia | omega)) (Nat.zero_le _) h0
theorem let_none : ∀ (l : List (Value × Option Value)) (keep : List Value) {Q : Unit → Shared → Prop}, (∀ p ∈ l, p.2 = none) → Q () s → wpAny (model prog w) A (Bytes.joinLetGo l keep) Q E s
  | [], _, _, _, h => by show wpAny _ _ (pure ()) _ _ _; exact wpAny_pure h
  | (x, o) :: r, keep, Q, hl, h => by
    obtain rfl : o = none := hl (x, o) (.head _)
    show wpAny _ _ (letGo (x :: []) (keep ++ r.flatMap fun p => p.1 :: p.2.toList) >>= fun _ => Bytes.joinLetGo r keep) _ _ _
    exact wpAny_bind (wpAny_letGo (let_none r keep (fun p hp => hl p (.tail _ hp)) h))
theorem meets_bjoin {D : Addr} {vs : List Value} {c : UInt8} {u : Tok} {k : Nat} {arrs : List (Array UInt8)} : Meets (Builtin.«bytes.join» ⟨[.bytes #[c] u, .ref D], []⟩) (fun _ R s => s.heap.get? D = some (lobj vs k) ∧ Al RByt vs arrs ∧ (arrs.map fun a => a.size + 1).sum ≤ 100000 ∧ ∀ P t' tk, P.toList = ijoin c (arrs.map Array.toList) → R (.ok (.ret (.bytes P t'))) { s with toks := tk }) := by
  intro prog w A R s ⟨hD, hv, hz, hs⟩
  have hTD : s.TypeIs (.ref D) "list" := ⟨_, hD, rfl⟩
  unfold Builtin.«bytes.join» Bytes.joinM Bytes.joinItems
  repeat (any_goals (first | assumption | refine wpAny_loadPart' hD ?_ | wp_step))
  have hlen := hv.1
  by_cases h1 : ∃ x, vs = [x]
  · obtain ⟨x, rfl⟩ := h1
    obtain ⟨b, hb, t, rfl⟩ := hv.2 0 x rfl
    have ha : arrs = [b] := by
      cases arrs with
      | nil => cases hb
      | cons a r =>
        have : r = [] := List.eq_nil_of_length_eq_zero (by simpa using hlen.symm)
        subst this
        have : a = b := by simpa using hb
        rw [this]
    subst ha
    show wpAny _ _ (typeOf (.bytes b t) >>= _) _ _ _
    refine wpAny_bind (wpAny_typeOf (T := "bytes") rfl ?_)
    refine wpAny_bind (wpAny_rule (wpAny_pure ?_))
    exact hs b t s.toks rfl
  · have hn1 : vs.toArray.size ≠ 1 := fun q => by
      have q : vs.length = 1 := by simpa using q
      obtain ⟨x, hx⟩ := List.length_eq_one_iff.mp q
      exact h1 ⟨x, hx⟩
    clear h1
    unfold Bytes.joinM.match_1
    rw [dif_neg hn1]
    refine wpAny_bind (forIn_inv (β := Array (Array UInt8) × List (Value × Option Value)) (n := vs.toArray.size) (fun i st => st.1.toList = arrs.take i ∧ ∀ p ∈ st.2, p.2 = none ∧ p.1.onHeap = false) ⟨rfl, fun _ h => (nomatch h)⟩ (fun i st Q' hi hI hq => ?_) fun st hI => ?_)
    · obtain ⟨parts, taken⟩ := st
      obtain ⟨h1, h2⟩ := hI
      dsimp only at h1 h2 ⊢
      have hiv : i < vs.length := by simpa using hi
      obtain ⟨b, hb, t, hvb⟩ := hv.2 i _ (List.getElem?_eq_getElem hiv)
      have hgd : vs.toArray.getD i .none = .bytes b t := by
        rw [← hvb]; simp [hiv]
      have hany : taken.any (fun x => x.1.onHeap) = false := by
        rw [List.any_eq_false]; intro p hp; rw [(h2 p hp).2]; decide
      refine wpAny_bind (wpAny_seqItems hD rfl ?_)
      dsimp only
      rw [hgd]
      rw [if_neg (by rw [hany]; decide)]
      refine wpAny_bind (wpAny_holding (take_buf ?_))
      dsimp only
      refine wpAny_bind (wpAny_seqItems hD rfl ?_)
      dsimp only
      rw [if_neg (by simp)]
      refine wpAny_pure (hq _ ⟨?_, fun p hp => ?_⟩)
      · rw [Array.toList_push, h1, take_snoc hb]
      · rcases List.mem_append.mp hp with hp | hp
        · exact h2 p hp
        · rw [List.mem_singleton.mp hp]; exact ⟨rfl, rfl⟩
    · obtain ⟨parts, taken⟩ := st
      obtain ⟨h1, h2⟩ := hI
      dsimp only at h1 h2 ⊢
      rw [List.take_of_length_le (by rw [List.size_toArray, hlen]; exact Nat.le_refl _)] at h1
      have hpz : parts.size = arrs.length := by rw [← Array.length_toList, h1]
      have e1 := sz_sum arrs
      refine wpAny_bind (wpAny_pure ?_)
      have hsz : Bytes.tooLong (parts.foldl (fun a b => a + b.size) ((#[c] : Array UInt8).size * (parts.size - 1))) = false := by
        unfold Bytes.tooLong
        rw [← Array.foldl_toList, h1, foldl_sz, hpz]
        have : sizeLine = 16777216 := sizeLine_eq
        simp only [List.size_toArray, List.length_cons, List.length_nil]
        rw [decide_eq_false_iff_not]; (first | lia | omega)
      rw [if_neg (by rw [hsz]; decide)]
      have hj := joined_eq c parts.toList
      rw [h1] at hj
      rw [h1]
      have hsz2 : (Bytes.joined #[c] arrs).size ≤ sizeLine := by
        have : sizeLine = 16777216 := sizeLine_eq
        have := ijoin_sz (c := c) arrs
        rw [← hj, Array.length_toList] at this; (first | lia | omega)
      refine wpAny_bind ?_
      unfold Bytes.Kind.new
      refine wpAny_mkBytes ?_ hsz2
      refine wpAny_bind (wpAny_holding (wpAny_point ?_))
      refine wpAny_bind (let_none _ _ (fun p hp => (h2 p hp).1) ?_)
      exact wpAny_pure (hs _ _ _ hj)
end
section
variable {prog : Program} {w : World} {A : Around} {E : Value → Shared → Prop} {s : Shared} {t u : Tok} {c : UInt8} {Q : Value → Shared → Prop} {D : Addr} {vs : List Value} {k : Nat}
theorem by_join {arrs : List (Array UInt8)} (hD : s.heap.get? D = some (lobj vs k)) (hv : Al RByt vs arrs) (hz : (arrs.map fun a => a.size + 1).sum ≤ 100000)
    (h : ∀ P t' tk, P.toList = ijoin c (arrs.map Array.toList) → Q (.bytes P t') { s with toks := tk }) :
    wpAny (model prog w) A (call (.builtin "bytes.join") [.bytes #[c] u, .ref D]) Q E s :=
  call_meets sl_bjoin (typeIs_bytes _ _ _) en_bjoin (ar_bjoin _ _) meets_bjoin ⟨hD, hv, hz, h⟩
theorem by_join_m {M : Model} {pl : Sem Bool} {b : Array UInt8} {Q : Value × List Value → Shared → Prop} (h : Q (.builtin "bytes.join", [.bytes b t]) s) : wpAny M A (getMethod (.bytes b t) "join" pl) Q E s := by
  with_reducible exact KBd.method_of (.bytes b t) (typeIs_bytes _ _ _) sl_bjoin ty_bjoin KBd.noRef h
end
end
end Mine
namespace Mine
section
open PySem.Calls
theorem txt_join1 (ys : List Str) : cpl (Txt.join (Str.ofString "/") ys) = ijoin 47 (ys.map cpl) := by
  rw [show Txt.join (Str.ofString "/") ys = Str.join (Str.ofString "/") ys from StrLaws.glued_eq_join _ _, show Str.ofString "/" = ch 47 from by decide, cpl_join]
theorem vc_strs {us : List Value} {ps : List (List Nat)} (h : Al (VC false) us ps) : ∃ ys : List Str, StrsAre us ys ∧ ys.map cpl = ps := by
  induction us generalizing ps with
  | nil =>
    have : ps = [] := List.eq_nil_of_length_eq_zero h.1.symm
    subst this; exact ⟨[], .nil, rfl⟩
  | cons v r ih =>
    cases ps with
    | nil => have := h.1; simp at this
    | cons p q =>
      obtain ⟨v', vr, e, h1, h2⟩ := al_head h
      obtain ⟨rfl, rfl⟩ := List.cons.inj e
      obtain ⟨x, t, rfl, rfl⟩ := h1
      obtain ⟨ys, hys, e2⟩ := ih h2
      exact ⟨x :: ys, .cons _ _ hys, by rw [List.map_cons, e2]⟩
theorem vc_bytes {us : List Value} {ps : List (List Nat)} (h : Al (VC true) us ps) : ∃ arrs : List (Array UInt8), Al RByt us arrs ∧ arrs.map nats = ps := by
  induction us generalizing ps with
  | nil =>
    have : ps = [] := List.eq_nil_of_length_eq_zero h.1.symm
    subst this; exact ⟨[], alnil, rfl⟩
  | cons v r ih =>
    cases ps with
    | nil => have := h.1; simp at this
    | cons p q =>
      obtain ⟨v', vr, e, h1, h2⟩ := al_head h
      obtain ⟨rfl, rfl⟩ := List.cons.inj e
      obtain ⟨x, t, rfl, rfl⟩ := h1
      obtain ⟨ys, hys, e2⟩ := ih h2
      exact ⟨x :: ys, Al.cons ⟨t, rfl⟩ hys, by rw [List.map_cons, e2]⟩
theorem ijoin_map {α β : Type} (f : α → β) (c : α) : ∀ l : List (List α), (ijoin c l).map f = ijoin (f c) (l.map (List.map f))
  | [] => rfl
  | [p] => rfl
  | p :: q :: r => by
    show (p ++ c :: ijoin c (q :: r)).map f = _
    rw [List.map_append, List.map_cons, ijoin_map f c (q :: r)]
    rfl
section
variable {prog : Program} {w : World} {A : Around} {E : Value → Shared → Prop} {s : Shared} {Q : Value → Shared → Prop} {D : Addr} {us : List Value} {k : Nat} {ps : List (List Nat)} {t : Tok}
theorem join_s (hD : s.heap.get? D = some (lobj us k)) (hv : Al (VC false) us ps) (hz : (ps.map fun p => p.length + 1).sum ≤ 100000)
    (h : ∀ y t' tk, cpl y = ijoin 47 ps → Q (.str y t') { s with toks := tk }) : wpAny (model prog w) A (call (.builtin "str.join") [.str (Str.ofString "/") t, .ref D]) Q E s := by
  obtain ⟨ys, hys, rfl⟩ := vc_strs hv
  refine join_listW ⟨_, hD, rfl, k, rfl⟩ (by simpa using hys) (by decide) ?_ fun t' tk => h _ t' tk (txt_join1 ys)
  have : ∀ l : List Str, ((l.map cpl).map fun p => p.length + 1).sum = (l.map (·.length)).sum + l.length := fun l => by
    induction l with
    | nil => rfl
    | cons a r ih => rw [List.map_cons, List.map_cons, List.sum_cons, ih, List.map_cons, List.sum_cons, List.length_cons, cpl_len]; (first | lia | omega)
  rw [this] at hz; (first | lia | omega)
theorem join_b (hD : s.heap.get? D = some (lobj us k)) (hv : Al (VC true) us ps) (hz : (ps.map fun p => p.length + 1).sum ≤ 100000)
    (h : ∀ y t' tk, nats y = ijoin 47 ps → Q (.bytes y t') { s with toks := tk }) : wpAny (model prog w) A (call (.builtin "bytes.join") [.bytes #[47] t, .ref D]) Q E s := by
  obtain ⟨ys, hys, rfl⟩ := vc_bytes hv
  refine by_join hD hys ?_ fun P t' tk hP => h P t' tk ?_
  · have : (ys.map nats).map (fun p => p.length + 1) = ys.map fun a => a.size + 1 := by
      rw [List.map_map]; exact List.map_congr_left fun a _ => by simp [nats_len]
    rw [this] at hz; exact hz
  · unfold nats
    rw [hP, ijoin_map, List.map_map]; rfl
end
noncomputable def com2 {α : Type} [DecidableEq α] : List α → List α → List α
  | [], _ => []
  | _ :: _, [] => []
  | a :: l, b :: m => if a = b then a :: com2 l m else []
section
variable {α : Type} [DecidableEq α]
theorem com2_cons (a b : α) (l m : List α) : com2 (a :: l) (b :: m) = if a = b then a :: com2 l m else [] := rfl
theorem com2_pre1 : ∀ a b : List α, com2 a b <+: a
  | [], b => List.prefix_refl _
  | a :: l, [] => List.nil_prefix
  | a :: l, b :: m => by
    rw [com2_cons]
    by_cases h : a = b
    · rw [if_pos h]; exact (List.prefix_cons_inj a).mpr (com2_pre1 l m)
    · rw [if_neg h]; exact List.nil_prefix
theorem com2_pre2 : ∀ a b : List α, com2 a b <+: b
  | [], b => List.nil_prefix
  | a :: l, [] => List.prefix_refl _
  | a :: l, b :: m => by
    rw [com2_cons]
    by_cases h : a = b
    · rw [if_pos h, h]; exact (List.prefix_cons_inj b).mpr (com2_pre2 l m)
    · rw [if_neg h]; exact List.nil_prefix
theorem com2_max : ∀ {a b p : List α}, p <+: a → p <+: b → p <+: com2 a b
  | a, b, [], _, _ => List.nil_prefix
  | [], b, x :: p, h, _ => by simp at h
  | a :: l, [], x :: p, _, h => by simp at h
  | a :: l, b :: m, x :: p, h1, h2 => by
    rw [List.cons_prefix_cons] at h1 h2
    obtain ⟨rfl, h1⟩ := h1
    obtain ⟨rfl, h2⟩ := h2
    rw [com2_cons, if_pos rfl]
    exact (List.prefix_cons_inj x).mpr (com2_max h1 h2)
noncomputable def comN : List (List α) → List α
  | [] => []
  | [x] => x
  | x :: y :: r => com2 x (comN (y :: r))
theorem comN_pre : ∀ {ds : List (List α)} {d : List α}, d ∈ ds → comN ds <+: d
  | [x], d, h => by rw [List.mem_singleton.mp h]; exact List.prefix_refl _
  | x :: y :: r, d, h => by
    show com2 x (comN (y :: r)) <+: d
    rcases List.mem_cons.mp h with rfl | h
    · exact com2_pre1 _ _
    · exact (com2_pre2 _ _).trans (comN_pre h)
theorem comN_max : ∀ {ds : List (List α)} {p : List α}, ds ≠ [] → (∀ d ∈ ds, p <+: d) → p <+: comN ds
  | [], p, h, _ => absurd rfl h
  | [x], p, _, h => h x (.head _)
  | x :: y :: r, p, _, h => by
    exact com2_max (h x (.head _)) (comN_max (List.cons_ne_nil _ _) fun d hd => h d (.tail _ hd))
omit [DecidableEq α] in
theorem pre_anti {a b : List α} (h1 : a <+: b) (h2 : b <+: a) : a = b := h1.eq_of_length (Nat.le_antisymm h1.length_le h2.length_le)
theorem comN_app {as bs : List (List α)} (ha : as ≠ []) (hb : bs ≠ []) : com2 (comN as) (comN bs) = comN (as ++ bs) := by
  refine pre_anti (comN_max (by simp [ha]) fun d hd => ?_) (com2_max (comN_max ha fun d hd => comN_pre (List.mem_append_left _ hd)) (comN_max hb fun d hd => comN_pre (List.mem_append_right _ hd)))
  rcases List.mem_append.mp hd with hd | hd
  · exact (com2_pre1 _ _).trans (comN_pre hd)
  · exact (com2_pre2 _ _).trans (comN_pre hd)
theorem com2_take {a b : List α} {i : Nat} (h : a.take i = b.take i) (hi : i ≤ a.length) (hne : ∀ x y, a[i]? = some x → b[i]? = some y → x ≠ y) (hor : i < a.length → i < b.length) : com2 a b = a.take i := by
  refine pre_anti ?_ (com2_max (List.take_prefix _ _) (h ▸ List.take_prefix _ _))
  obtain ⟨r1, e1⟩ := com2_pre1 a b
  obtain ⟨r2, e2⟩ := com2_pre2 a b
  have hl : (com2 a b).length ≤ i := by
    apply Classical.byContradiction
    intro q
    have q : i < (com2 a b).length := by (first | lia | omega)
    have ha : a[i]? = (com2 a b)[i]? := by have := List.getElem?_append_left (l₂ := r1) q; rw [e1] at this; exact this
    have hb : b[i]? = (com2 a b)[i]? := by have := List.getElem?_append_left (l₂ := r2) q; rw [e2] at this; exact this
    have e := List.getElem?_eq_getElem q
    rw [e] at ha hb
    exact hne _ _ ha hb rfl
  exact List.prefix_take_iff.mpr ⟨⟨r1, e1⟩, hl⟩
end
theorem lex_between {α : Type} [DecidableEq α] {lt : α → α → Bool} (H : STO lt) : ∀ {p a b x : List α}, p <+: a → p <+: b → lexlt lt x a = false → lexlt lt b x = false → p <+: x
  | [], _, _, _, _, _, _, _ => List.nil_prefix
  | c :: p, [], b, x, h, _, _, _ => by simp at h
  | c :: p, a :: l, [], x, _, h, _, _ => by simp at h
  | c :: p, a :: l, b :: m, x, h1, h2, h3, h4 => by
    rw [List.cons_prefix_cons] at h1 h2
    obtain ⟨rfl, h1⟩ := h1
    obtain ⟨rfl, h2⟩ := h2
    cases x with
    | nil => cases h3
    | cons y x =>
      rw [lexlt_cons] at h3 h4
      by_cases q : y = c
      · subst q
        rw [if_pos rfl] at h3 h4
        exact (List.prefix_cons_inj y).mpr (lex_between H h1 h2 h3 h4)
      · rw [if_neg q] at h3
        rw [if_neg (Ne.symm q)] at h4
        rcases H.tri y c q with z | z
        · rw [z] at h3; cases h3
        · rw [z] at h4; cases h4
theorem com_min_max {ds : List (List (List Nat))} {mn mx : List (List Nat)} (h1 : mn ∈ ds) (h2 : mx ∈ ds) (h3 : ∀ e ∈ ds, ltP e mn = false) (h4 : ∀ e ∈ ds, ltP mx e = false) : com2 mn mx = comN ds := by
  refine pre_anti (comN_max (fun q => by rw [q] at h1; cases h1) fun d hd => ?_) (com2_max (comN_pre h1) (comN_pre h2))
  exact lex_between stoW (com2_pre1 _ _) (com2_pre2 _ _) (h3 d hd) (h4 d hd)
theorem lex_len {α : Type} [DecidableEq α] {lt : α → α → Bool} : ∀ {a b : List α} {i : Nat}, a.take i = b.take i → i < a.length → lexlt lt b a = false → i < b.length
  | [], _, i, _, h, _ => by simp at h
  | a :: l, [], i, h, h2, h3 => by cases h3
  | a :: l, b :: m, 0, _, _, _ => by simp
  | a :: l, b :: m, i + 1, h, h2, h3 => by
    rw [List.take_succ_cons, List.take_succ_cons] at h
    obtain ⟨rfl, hh⟩ := List.cons.inj h
    rw [lexlt_cons, if_pos rfl] at h3
    have := lex_len hh (by simpa using h2) h3
    simpa using this
noncomputable def cpN (ls : List (List Nat)) : List Nat := (if (ls.headD []).head? == some 47 then [47] else []) ++ ijoin 47 (comN (ls.map stepsN))
theorem ne_s {x y : Str} : (x != y) = decide (cpl x ≠ cpl y) := by
  rw [bne, str_beq, Bool.eq_iff_iff]; simp
theorem al_take {α : Type} {R : Value → α → Prop} {vs : List Value} {xs : List α} (r : Al R vs xs) (n : Nat) : Al R (vs.take n) (xs.take n) :=
  ⟨by simp [r.1], fun i v hv => by
    rw [List.getElem?_take] at hv ⊢
    split at hv
    · rename_i h; rw [if_pos h]; exact r.2 i v hv
    · cases hv⟩
theorem pick_up {vs : List Value} {i : Nat} : kms_pick vs none (some (i : Int)) = vs.take i := by
  rw [pick_upto (by (first | lia | omega)), Int.toNat_natCast]
theorem pre_sum {p d : List (List Nat)} (h : p <+: d) {B : Nat} (hB : (d.map fun x => x.length + 1).sum ≤ B) : (p.map fun x => x.length + 1).sum ≤ B := by
  obtain ⟨r, rfl⟩ := h
  rw [List.map_append, List.sum_append] at hB
  (first | lia | omega)
theorem cpN_cons {d : List Nat} {dr : List (List Nat)} {ab : Bool} (h : (d.head? == some 47) = ab) : cpN (d :: dr) = (if ab then [47] else []) ++ ijoin 47 (comN ((d :: dr).map stepsN)) := by
  unfold cpN; rw [List.headD_cons, h]
theorem ijoin_lenN {α : Type} {c : α} (l : List (List α)) : (ijoin c l).length ≤ (l.map fun a => a.length + 1).sum := by
  cases l with
  | nil => exact Nat.le_refl _
  | cons p r =>
    rw [ijoin_flat, List.length_append, List.map_cons, List.sum_cons]
    have : ∀ r : List (List α), (r.flatMap fun q => c :: q).length = (r.map fun a => a.length + 1).sum := by
      intro r
      induction r with
      | nil => rfl
      | cons a r ih => rw [List.flatMap_cons, List.length_append, ih, List.map_cons, List.sum_cons]; simp
    rw [this]; (first | lia | omega)
theorem nats_app (x y : Array UInt8) : nats (x ++ y) = nats x ++ nats y := by simp [nats]
theorem starts_by (x : Array UInt8) : (x.toList.head? == some 47) = ((nats x).head? == some 47) := by
  unfold nats
  cases x.toList with
  | nil => rfl
  | cons a r =>
    rw [List.map_cons, List.head?_cons, List.head?_cons, Bool.eq_iff_iff, beq_iff_eq, beq_iff_eq, Option.some.injEq, Option.some.injEq]
    constructor
    · rintro rfl; rfl
    · intro h; exact UInt8.toNat_inj.mp h
theorem nats_ne (x y : Array UInt8) : (x.toList != y.toList) = decide (nats x ≠ nats y) := by
  rw [Bool.eq_iff_iff, bne_iff_ne, decide_eq_true_eq]
  constructor
  · intro h q; exact h (by rw [nats_inj q])
  · intro h q; exact h (by unfold nats; rw [q])
theorem pick0 : KBy.picked #[47] none (some 0) = #[] := by first | rfl | decide
theorem keep_b3 {x : Array UInt8} (h : x.toList.isEmpty = true) : keepP (nats x) = false := by
  have : nats x = [] := by unfold nats; rw [List.isEmpty_iff.mp h]; rfl
  unfold keepP; rw [this]; rfl
theorem dot_nb (x : Array UInt8) : (x.toList != (#[46] : Array UInt8).toList) = decide (nats x ≠ [46]) := nats_ne x #[46]
theorem keep_b1 {x : Array UInt8} (h1 : x.toList.isEmpty = false) (h2 : (x.toList != (#[46] : Array UInt8).toList) = true) : keepP (nats x) = true := by
  rw [dot_nb] at h2
  unfold keepP
  rw [h2, Bool.and_true, decide_eq_true_eq]
  intro q
  have : x.toList = [] := by
    have := congrArg List.length q
    rw [nats_len] at this
    exact List.eq_nil_of_length_eq_zero (by rw [Array.length_toList]; exact this)
  rw [this] at h1; cases h1
theorem keep_b2 {x : Array UInt8} (h2 : (x.toList != (#[46] : Array UInt8).toList) = false) : keepP (nats x) = false := by
  rw [dot_nb] at h2
  unfold keepP
  rw [h2, Bool.and_false]
end
end Mine
namespace Mine
section
open PySem.Calls
section
variable {prog : Program} {w : World} {A : Around} {E : Value → Shared → Prop} {s : Shared} {base h g h₃ : Heap} {fs : List Env} {fobs led : List (Addr × Obj)} {L a e : Addr} {m mg mb : MapS} {K : Frag} {p : Program} {loose : List Str}
  {c : Value} {cls : String} {S : List Addr} {t : Expr} {b₀ : Stmt} {suite : List Stmt} {pos : Pos} {rest : List ExceptHandler} {Q : Flow → Shared → Prop}
theorem catch_missE {env : Env} (G : Gnd base fs h g fobs) (F : Fr g L h₃ m) (hf : env.frame = some L)
    (x : Exc ((env :: fs).filterMap (·.frame)) h₃ s.heap e (.type cls) c true) (hT : ∀ (A : Around) (E : Value → Shared → Prop) (Q : Bool → Shared → Prop) (s : Shared) (m : MapS), Fr g L s.heap m → Looks (model prog w) s.heap (typeOf (.ref e)) (.type cls) → (∀ h', Kp s.heap h' → Q false { s with heap := h' }) → wpAny (model prog w) A (eval t env) (fun c s₁ => wpAny (model prog w) A (excMatches (.ref e) c) Q E s₁) E s)
    (cont : ∀ h₈, Exc ((env :: fs).filterMap (·.frame)) h₃ h₈ e (.type cls) c true → wpAny (model prog w) (A.deeper env) (handleBy (.ref e) env rest) Q E { s with heap := h₈ }) :
    wpAny (model prog w) (A.deeper env) (handleBy (.ref e) env (.ExceptHandler (some t) none (b₀ :: suite) pos :: rest)) Q E s := by
  have e2 : (env :: fs).filterMap (·.frame) = L :: fs.filterMap (·.frame) := by rw [List.filterMap_cons, hf]
  have hid : ∀ b ∈ (env :: fs).filterMap (·.frame), g.get? b = none := fun b hb => by
    rw [e2] at hb
    rcases List.mem_cons.mp hb with q | q
    · rw [q]; exact fr_none F
    · exact G.hid b q
  have F7 := x.kf.fr F hid
  have ty7 : Looks (model prog w) s.heap (typeOf (.ref e)) (.type cls) := by
    obtain ⟨oe, vs, a1, a2, _⟩ := x.ob
    rw [← a2]
    exact (Looks.ld a1).andThen .now
  refine wpAny_handleBy_cons (codeAny_handlers_test (hT _ _ _ s m F7 ty7 fun h8 k8 => ?_)) (by intro q; cases q)
  exact cont h8 (x.later k8)
theorem handle_nil {env : Env} (x : Exc S h₃ s.heap e (.type cls) c true) (hE : ∀ h', Exc S h₃ h' e (.type cls) c true → E (.ref e) { s with heap := h' }) :
    wpAny (model prog w) (A.deeper env) (handleBy (.ref e) env []) Q E s := by
  refine wpAny_handleBy_nil ?_
  unfold PySem.passOn
  obtain ⟨oe, vs, h1, h2, h3, h4, h5, h6⟩ := x.ob
  rcases h6 with ⟨q, _⟩ | ⟨_, T, oT, ts, a1, a2, a3, a4, a5, a6⟩
  · cases q
  · refine wpAny_bind (wpAny_field h1 h3 a1 ?_)
    rw [if_neg (show ¬ ((Value.ref T == Value.none) = true) from by simp)]
    first
      | exact wpAny_bind (flight_set x fun h' x' => wpAny_throw (hE h' x'))
      | exact wpAny_bind (wpAny_pure (wpAny_bind (flight_set x fun h' x' => wpAny_throw (hE h' x'))))
theorem catch_into {env : Env} {tb : Bool} {hs : List ExceptHandler} (B : Below A base fs h) (G : Gnd base fs h g fobs) (F : Fr g L h₃ m) (kf : ∀ p ∈ fobs, h₃.get? p.1 = some p.2) (hf : env.frame = some L) (hk : env.scope.kind = .function)
    (x : Exc S h₃ s.heap e (.type cls) c tb) (hS : ∀ b ∈ S, b ∈ L :: fs.filterMap (·.frame))
    (cont : ∀ h₈, Exc ((env :: fs).filterMap (·.frame)) h₃ h₈ e (.type cls) c true → wpAny (model prog w) (A.deeper env) (handleBy (.ref e) env hs) Q E { s with heap := h₈ }) :
    wpAny (model prog w) (A.deeper env) (noteFrame (.ref e) env) (fun _ s₂ => wpAny (model prog w) (A.deeper env) (setFlight (.ref e) none) (fun _ s₃ => wpAny (model prog w) (A.deeper env) (handleBy (.ref e) env hs) Q E s₃) E s₂) E s := by
  have B3 := G.below B F kf (env := env) hf hk
  have e2 : (env :: fs).filterMap (·.frame) = L :: fs.filterMap (·.frame) := by rw [List.filterMap_cons, hf]
  refine note_ok B3.stack hf B3.frames (fun b hb => hb) (x.mono fun b hb => by rw [e2]; exact hS b hb) fun h6 x6 => ?_
  exact flight_none (s := { s with heap := h6 }) x6 fun h7 x7 => cont h7 x7
theorem catch_thisE {env : Env} (G : Gnd base fs h g fobs) (F : Fr g L h₃ m) (N : News g L h₃ (led ++ fobs)) (hled : ∀ q ∈ led, q.1 ∉ fs.filterMap (·.frame)) (hf : env.frame = some L)
    (x : Exc ((env :: fs).filterMap (·.frame)) h₃ s.heap e (.type cls) c true) (hT : ∀ (A : Around) (E : Value → Shared → Prop) (Q : Bool → Shared → Prop) (s : Shared) (m : MapS), Fr g L s.heap m → Looks (model prog w) s.heap (typeOf (.ref e)) (.type cls) → (∀ h', Kp s.heap h' → Q true { s with heap := h' }) → wpAny (model prog w) A (eval t env) (fun c s₁ => wpAny (model prog w) A (excMatches (.ref e) c) Q E s₁) E s)
    (cont : ∀ h₈ oe T oT fobs', Gnd base fs h g fobs' → Fr g L h₈ m → News g L h₈ ((e, oe) :: (T, oT) :: (led ++ fobs')) → ExcOb e T oe oT (.type cls) c →
      wpAny (model prog w) ((A.deeper env).mark (some (.ref e))) (execs (b₀ :: suite) env) Q (notedBy (model prog w) ((A.deeper env).mark (some (.ref e))) env (cameBackBy (model prog w) (A.deeper env) env E)) { s with heap := h₈ }) :
    wpAny (model prog w) (A.deeper env) (handleBy (.ref e) env (.ExceptHandler (some t) none (b₀ :: suite) pos :: rest)) Q E s := by
  have kf : ∀ p ∈ fobs, h₃.get? p.1 = some p.2 := fun p hp => (N p (List.mem_append_right _ hp)).1
  have e2 : (env :: fs).filterMap (·.frame) = L :: fs.filterMap (·.frame) := by rw [List.filterMap_cons, hf]
  have hid : ∀ b ∈ (env :: fs).filterMap (·.frame), g.get? b = none := fun b hb => by
    rw [e2] at hb
    rcases List.mem_cons.mp hb with q | q
    · rw [q]; exact fr_none F
    · exact G.hid b q
  have F7 := x.kf.fr F hid
  have ty7 : Looks (model prog w) s.heap (typeOf (.ref e)) (.type cls) := by
    obtain ⟨oe, vs, a1, a2, _⟩ := x.ob
    rw [← a2]
    exact (Looks.ld a1).andThen .now
  refine wpAny_handleBy_cons (codeAny_handlers_test (hT _ _ _ s m F7 ty7 fun h8 k8 => ?_)) (by intro q; cases q)
  have x8 := x.later k8
  refine codeAny_handlers_suite (flight_none (s := { s with heap := h8 }) x8 fun h9 x9 => ?_)
  obtain ⟨fobs', G', kf'⟩ := G.turn kf x9.kf
  obtain ⟨oe, vs, a1, a2, a3, a4, a5, a6⟩ := x9.ob
  rcases a6 with ⟨q, _⟩ | ⟨_, T', oT, ts, b1, b2, b3, b4, b5, b6⟩
  · cases q
  · have F9 := x9.kf.fr F hid
    have gone : ∀ b, h₃.get? b = none → b ≠ L ∧ g.get? b = none := by
      intro b hb
      refine ⟨?_, ?_⟩
      · intro q
        obtain ⟨oL, _, _, hL, _⟩ := F.ns
        rw [q, hL] at hb
        cases hb
      · cases q : g.get? b with
        | none => rfl
        | some o => have := F.keep _ _ q; rw [hb] at this; cases this
    refine cont h9 oe T' oT fobs' G' F9 (fun q hq => ?_) ⟨vs, ts, a2, a3, a4, a5, b1, b2, b5, b6⟩
    rcases List.mem_cons.mp hq with rfl | hq
    · exact ⟨a1, gone _ x9.new⟩
    · rcases List.mem_cons.mp hq with rfl | hq
      · exact ⟨b4, gone _ b3⟩
      · rcases List.mem_append.mp hq with hq | hq
        · have hN := N q (List.mem_append_left _ hq)
          refine ⟨x9.kf.get hN.1 fun hm => ?_, hN.2⟩
          rw [e2] at hm
          rcases List.mem_cons.mp hm with z | z
          · exact hN.2.1 z
          · exact hled q hq z
        · obtain ⟨w1, w2, w3⟩ := G'.fob q hq
          exact ⟨kf' q hq, Nat.ne_of_lt (Nat.lt_of_lt_of_le w3 (by rw [← G'.size]; exact F.above)), w1⟩
theorem testE_one {A₀ : Around} {env : Env} {x : Str} {np : Pos} {g : Heap} {L e : Addr} {mean : ExcName → Option Value} {c cls' : Value} {b : Bool} (X : K.In g) (he : exmOne K cls' c = some b)
    (hname : ∀ {M : Model} {A : Around} {E : Value → Shared → Prop} {Q : Value → Shared → Prop} {s : Shared} {m : MapS}, Fr g L s.heap m → Q c s → wpAny M A (eval (.Name x np) env) Q E s) :
    ∀ (A : Around) (E : Value → Shared → Prop) (Q : Bool → Shared → Prop) (s : Shared) (m : MapS), Fr g L s.heap m → Looks (model prog w) s.heap (typeOf (.ref e)) cls' → (∀ h', Kp s.heap h' → Q b { s with heap := h' }) → wpAny (model prog w) A (eval (.Name x np) env) (fun c s₁ => wpAny (model prog w) A (excMatches (.ref e) c) Q E s₁) E s :=
  fun A E Q s m F LT q => hname F ((exm_one (X.keeps F.keep) LT he).here (q s.heap fun _ _ z => z))
theorem testE_two {env : Env} {x1 x2 : Str} {p1 p2 tpos : Pos} {kk : Nat} {g : Heap} {L e : Addr} {c1 c2 cls' : Value} {b : Bool} (X : K.In g) (he : exmAny K cls' [c1, c2] = some b)
    (hn1 : ∀ {M : Model} {A : Around} {E : Value → Shared → Prop} {Q : Value → Shared → Prop} {s : Shared} {m : MapS}, Fr g L s.heap m → Q c1 s → wpAny M A (eval (.Name x1 p1) env) Q E s)
    (hn2 : ∀ {M : Model} {A : Around} {E : Value → Shared → Prop} {Q : Value → Shared → Prop} {s : Shared} {m : MapS}, Fr g L s.heap m → Q c2 s → wpAny M A (eval (.Name x2 p2) env) Q E s) :
    ∀ (A : Around) (E : Value → Shared → Prop) (Q : Bool → Shared → Prop) (s : Shared) (m : MapS), Fr g L s.heap m → Looks (model prog w) s.heap (typeOf (.ref e)) cls' → (∀ h', Kp s.heap h' → Q b { s with heap := h' }) → wpAny (model prog w) A (eval (.Tuple [.Name x1 p1, .Name x2 p2] kk tpos) env) (fun c s₁ => wpAny (model prog w) A (excMatches (.ref e) c) Q E s₁) E s :=
  fun A E Q s m F LT q => by
  refine wpAny_Tuple ?_
  refine wpAny_items_cons (hn1 F ?_)
  refine wpAny_items_cons (hn2 F ?_)
  refine wpAny_items_nil ⟨by size_fits, ?_⟩
  have kp : ∀ q o, s.heap.get? q = some o → (s.heap.push { cls := .type "tuple", data := .seq [c1, c2].toArray }).get? q = some o := fun _ _ z => Heap.get?_push_of_some _ z
  exact (exm_tup2 ((X.keeps F.keep).keeps kp) (LT.keeps kp) (Heap.get?_push_size s.heap rfl) he).here (q _ kp)
end
section
variable {prog : Program} {w : World} {A₀ : Around} {E : Value → Shared → Prop} {s : Shared} {h h₀ base : Heap} {fs : List Env} {m : MapS} {env : Env} {L : Addr} {fobs led : List (Addr × Obj)}
theorem Assign_ListComp_N {elt target iter : Expr} {ifs : List Expr} {y : Str} {py : Pos} {scope : Scope} {cl : List (Str × Addr)} {pos spos : Pos} {Q : Flow → Shared → Prop} {cls : String} (B : Below A₀ base fs h) (G : Gnd base fs h h₀ fobs) (F₀ : Fr h₀ L s.heap m) (N₀ : News h₀ L s.heap (led ++ fobs)) (hLe : env.locals = L) (hf : env.frame = some L)
    (hsw : swapsWith (.ListComp elt [⟨target, iter, ifs, 0⟩] scope pos) (some (.Name y py)) spos.line env = pure true)
    (hclos : closureFor scope env = pure cl) (hcell : ∀ z ∈ scope.names, z.2 ≠ .cell) (hkind : scope.kind = .function)
    (hnames : ∀ z ∈ scope.names, z.2 = .local → scope.names.lookup z.1 = some .local)
    (hy : env.kindOf y = some .local) (hp : (env.scope.kind == .class || (env.scope.kind == .module && env.locals != env.globals)) = false) (hk : env.scope.kind = .function)
    (hE : ∀ h₃ h' tk e₀, Fr h₀ L h₃ m → News h₀ L h₃ (led ++ fobs) → Exc ((env :: fs).filterMap (·.frame)) h₃ h' e₀ (.type cls) .none true → E (.ref e₀) { s with heap := h', toks := tk })
    (h : wpAny (model prog w) (A₀.deeper env) (eval iter env) (fun xv s₁ => (∃ h tk, s₁ = { s with heap := h, toks := tk }) ∧ CompAtE prog w (A₀.deeper env) h₀ L m env target elt ifs scope cl [] cls (led ++ fobs) E (EndA h₀ L m y Q) xv s₁) E s)
    (hs : ∀ x, foldedSetIterable iter env x = pure x := by intro _; rfl) :
    wpAny (model prog w) (A₀.deeper env) (exec (.Assign [.Name y py] (.ListComp elt [⟨target, iter, ifs, 0⟩] scope pos) spos) env) Q E s :=
  Assign_ListComp_E (base := base) (fs := fs) (S := []) (nx₀ := led ++ fobs) F₀ hLe B.stack (fun h3 F N => (G.below B F (fun p hp => (N p (List.mem_append_right _ hp)).1) hf hk).frames) hf (fun _ hb => (nomatch hb)) hsw hclos hcell hkind hnames hy hp hE h hs
end
end
end Mine
namespace Mine
section
open PySem.Calls

end
end Mine
namespace Mine
section
open PySem.Calls
section
variable {prog : Program} {w : World} {A : Around} {E : Value → Shared → Prop} {s : Shared} {oct : Bool} {v v' : Value} {l l' : List Nat} {Q : Value → Shared → Prop}
theorem ne_VC (h : VC oct v l) (h' : VC oct v' l') (hq : Q (.bool (decide (l ≠ l'))) s) : wpAny (model prog w) A (compareOp .NotEq v v') Q E s := by
  cases oct with
  | false =>
    obtain ⟨x, t, rfl, rfl⟩ := h
    obtain ⟨y, u, rfl, rfl⟩ := h'
    refine ne_str ?_
    have : (x != y) = decide (cpl x ≠ cpl y) := by
      rw [bne, str_beq, Bool.eq_iff_iff]; simp
    first | (rw [this]; exact hq) | (simpa [this] using hq)
  | true =>
    obtain ⟨x, t, rfl, rfl⟩ := h
    obtain ⟨y, u, rfl, rfl⟩ := h'
    refine PySem.W.ne_bytes ?_
    have e : x.toList = y.toList ↔ nats x = nats y := ⟨fun h => by unfold nats; rw [h], fun h => by rw [nats_inj h]⟩
    have : (x.toList != y.toList) = decide (nats x ≠ nats y) := by
      rw [Bool.eq_iff_iff, bne_iff_ne, decide_eq_true_iff, ne_eq, ne_eq, e]
    rw [this]; exact hq
theorem eq_VC (h : VC oct v l) (h' : VC oct v' l') (hq : Q (.bool (decide (l = l'))) s) : wpAny (model prog w) A (compareOp .Eq v v') Q E s := by
  cases oct with
  | false =>
    obtain ⟨x, t, rfl, rfl⟩ := h
    obtain ⟨y, u, rfl, rfl⟩ := h'
    refine PyProof.Rows.eq_str ?_
    have : (x == y) = decide (cpl x = cpl y) := by
      rw [str_beq, Bool.eq_iff_iff]; simp
    rw [this]; exact hq
  | true =>
    obtain ⟨x, t, rfl, rfl⟩ := h
    obtain ⟨y, u, rfl, rfl⟩ := h'
    refine PySem.W.eq_bytes ?_
    have e : x.toList = y.toList ↔ nats x = nats y := ⟨fun h => by unfold nats; rw [h], fun h => by rw [nats_inj h]⟩
    have : (x.toList == y.toList) = decide (nats x = nats y) := by
      rw [Bool.eq_iff_iff, beq_iff_eq, decide_eq_true_iff, e]
    rw [this]; exact hq
end
theorem spl_sub {c a : Nat} : ∀ {l p : List Nat}, p ∈ spl c l → a ∈ p → a ∈ l
  | [], p, h, k => by rw [List.mem_singleton.mp h] at k; exact k
  | b :: l, p, h, k => by
    rw [spl_cons] at h
    by_cases ha : b = c
    · rw [if_pos ha] at h
      rcases List.mem_cons.mp h with rfl | h
      · cases k
      · exact .tail _ (spl_sub h k)
    · rw [if_neg ha] at h
      cases hs : spl c l with
      | nil => exact absurd hs (spl_ne c l)
      | cons q r =>
        rw [hs] at h
        rcases List.mem_cons.mp h with rfl | h
        · rcases List.mem_cons.mp k with rfl | k
          · exact .head _
          · exact .tail _ (spl_sub (show q ∈ spl c l by rw [hs]; exact .head _) k)
        · exact .tail _ (spl_sub (show p ∈ spl c l by rw [hs]; exact .tail _ h) k)
theorem ij_sub {c a : Nat} : ∀ {rs : List (List Nat)}, a ∈ ijoin c rs → a = c ∨ ∃ r ∈ rs, a ∈ r
  | [], h => by cases h
  | [p], h => .inr ⟨p, .head _, h⟩
  | p :: q :: r, h => by
    rcases List.mem_append.mp (show a ∈ p ++ c :: ijoin c (q :: r) from h) with h | h
    · exact .inr ⟨p, .head _, h⟩
    rcases List.mem_cons.mp h with h | h
    · exact .inl h
    rcases ij_sub h with h | ⟨z, hz, h⟩
    · exact .inl h
    · exact .inr ⟨z, .tail _ hz, h⟩
end
end Mine
namespace Mine
section
open PySem.Calls
theorem spl_memN {c : Nat} : ∀ {l p : List Nat}, p ∈ spl c l → c ∉ p
  | [], p, h => by
    rw [List.mem_singleton.mp h]; exact List.not_mem_nil
  | a :: l, p, h => by
    have ih := fun q (hq : q ∈ spl c l) => spl_memN hq
    rw [spl_cons] at h
    by_cases hne : a = c
    · rw [if_pos hne] at h
      rcases List.mem_cons.mp h with rfl | h
      · exact List.not_mem_nil
      · exact ih p h
    · rw [if_neg hne] at h
      cases e : spl c l with
      | nil => exact absurd e (spl_ne c l)
      | cons q r =>
        rw [e] at h
        rcases List.mem_cons.mp h with rfl | h
        · have h1 := ih q (by rw [e]; exact .head _)
          intro hm
          rcases List.mem_cons.mp hm with z | z
          · exact hne z.symm
          · exact h1 z
        · exact ih p (by rw [e]; exact .tail _ h)
theorem com_mem {ds : List (List Nat)} {d : List Nat} (hd : d ∈ ds) {p : List Nat} (hp : p ∈ comN (ds.map stepsN)) : keepP p = true ∧ 47 ∉ p := by
  have h1 := (comN_pre (List.mem_map_of_mem (f := stepsN) hd)).subset hp
  rw [stepsN_eq] at h1
  exact ⟨(List.mem_filter.mp h1).2, spl_memN (List.mem_filter.mp h1).1⟩
theorem steps_ijoin {ps : List (List Nat)} (h : ∀ p ∈ ps, keepP p = true ∧ 47 ∉ p) : stepsN (ijoin 47 ps) = ps := by
  rw [stepsN_eq]
  cases ps with
  | nil => decide
  | cons a r =>
    rw [spl_ijoin 47 (a :: r) (by simp) fun p hp => (h p hp).2]
    exact List.filter_eq_self.mpr fun p hp => (h p hp).1
theorem steps_sl (l : List Nat) : stepsN (47 :: l) = stepsN l := by
  rw [stepsN_eq, stepsN_eq, show spl 47 (47 :: l) = [] :: spl 47 l from if_pos rfl, List.filter_cons]
  rfl
theorem ijoin_head {ps : List (List Nat)} (h : ∀ p ∈ ps, keepP p = true ∧ 47 ∉ p) : ((ijoin 47 ps).head? == some 47) = false := by
  cases ps with
  | nil => rfl
  | cons a r =>
    have h1 := h a (.head _)
    rw [ijoin_flat]
    cases a with
    | nil => exact absurd h1.1 (by decide)
    | cons x t =>
      rw [List.cons_append, List.head?_cons]
      have : x ≠ 47 := fun e => h1.2 (by rw [e]; exact .head _)
      simpa using this
theorem cpN_as {ds : List (List Nat)} {a : Bool} (hne : ds ≠ []) (h : ∀ d ∈ ds, (d.head? == some 47) = a) : cpN ds = (if a then [47] else []) ++ ijoin 47 (comN (ds.map stepsN)) := by
  cases ds with
  | nil => exact absurd rfl hne
  | cons d r => exact cpN_cons (h d (.head _))
theorem com_mems {ds : List (List Nat)} (hne : ds ≠ []) : ∀ p ∈ comN (ds.map stepsN), keepP p = true ∧ 47 ∉ p := fun p hp => by
  cases ds with
  | nil => exact absurd rfl hne
  | cons d r => exact com_mem (.head _) hp
theorem cpN_slash {ds : List (List Nat)} {a : Bool} (hne : ds ≠ []) (h : ∀ d ∈ ds, (d.head? == some 47) = a) : ((cpN ds).head? == some 47) = a := by
  rw [cpN_as hne h]
  cases a with
  | true => rfl
  | false => exact ijoin_head (com_mems hne)
theorem steps_cpN {ds : List (List Nat)} {a : Bool} (hne : ds ≠ []) (h : ∀ d ∈ ds, (d.head? == some 47) = a) : stepsN (cpN ds) = comN (ds.map stepsN) := by
  rw [cpN_as hne h]
  cases a with
  | true => exact (steps_sl _).trans (steps_ijoin (com_mems hne))
  | false => exact steps_ijoin (com_mems hne)
theorem cpN_halves {as bs : List (List Nat)} {a : Bool} (hA : as ≠ []) (hB : bs ≠ []) (h : ∀ d ∈ as ++ bs, (d.head? == some 47) = a) : cpN [cpN as, cpN bs] = cpN (as ++ bs) := by
  have h1 := fun d hd => h d (List.mem_append_left _ hd)
  have h2 := fun d hd => h d (List.mem_append_right _ hd)
  rw [cpN_cons (cpN_slash hA h1), cpN_as (by simp [hA]) h]
  congr 2
  rw [List.map_cons, List.map_cons, List.map_nil, steps_cpN hA h1, steps_cpN hB h2, List.map_append]
  exact (show comN [comN (List.map stepsN as), comN (List.map stepsN bs)] = com2 (comN (List.map stepsN as)) (comN (List.map stepsN bs)) from rfl).trans (comN_app (by simpa using hA) (by simpa using hB))
theorem com_sum {ds : List (List Nat)} {d : List Nat} (hd : d ∈ ds) : ((comN (ds.map stepsN)).map fun p => p.length + 1).sum ≤ d.length + 1 := by
  have h1 := comN_pre (List.mem_map_of_mem (f := stepsN) hd)
  have e1 : ((comN (ds.map stepsN)).map fun p => p.length + 1).sum ≤ ((stepsN d).map fun p => p.length + 1).sum := by
    obtain ⟨t, e⟩ := h1
    rw [← e, List.map_append, List.sum_append]; (first | lia | omega)
  have e2 : ((stepsN d).map fun p => p.length + 1).sum ≤ ((spl 47 d).map fun p => p.length + 1).sum := by
    rw [stepsN_eq]
    have : ∀ l : List (List Nat), ((l.filter keepP).map fun p => p.length + 1).sum ≤ (l.map fun p => p.length + 1).sum := fun l => by
      induction l with
      | nil => simp
      | cons a r ih =>
        rw [List.filter_cons]
        split
        · rw [List.map_cons, List.sum_cons, List.map_cons, List.sum_cons]; (first | lia | omega)
        · rw [List.map_cons, List.sum_cons]; (first | lia | omega)
    exact this _
  rw [spl_sum] at e2
  (first | lia | omega)
theorem cpN_len {ds : List (List Nat)} {d : List Nat} (hd : d ∈ ds) : (cpN ds).length ≤ d.length + 2 := by
  have h2 := com_sum hd
  have h3 := ijoin_lenN (c := 47) (comN (ds.map stepsN))
  unfold cpN
  rw [List.length_append]
  split <;> simp <;> (first | lia | omega)
theorem sum_mem {α : Type} {w : List (List α)} {p : List α} (h : p ∈ w) : p.length + 1 ≤ (w.map fun p => p.length + 1).sum := by
  induction w with
  | nil => cases h
  | cons a r ih =>
    rw [List.map_cons, List.sum_cons]
    rcases List.mem_cons.mp h with rfl | h
    · (first | lia | omega)
    · have := ih h; (first | lia | omega)
theorem al_drop {α : Type} {R : Value → α → Prop} {vs : List Value} {xs : List α} (r : Al R vs xs) (n : Nat) : Al R (vs.drop n) (xs.drop n) :=
  ⟨by simp [r.1], fun i v hv => by
    rw [List.getElem?_drop] at hv ⊢
    exact r.2 _ v hv⟩
theorem al_two {α : Type} {R : Value → α → Prop} {v w : Value} {x y : α} (h1 : R v x) (h2 : R w y) : Al R [v, w] [x, y] := Al.cons h1 (Al.cons h2 ⟨rfl, fun i v h => by simp at h⟩)
theorem lensL_app {α : Type} (a b : List (List α)) : lensL (a ++ b) = lensL a + lensL b := by simp [lensL]
theorem lensL_td {α : Type} (l : List (List α)) (i : Nat) : lensL (l.take i) + lensL (l.drop i) = lensL l := by rw [← lensL_app, List.take_append_drop]
theorem cpN_len2 {ds : List (List Nat)} {n : Nat} (hne : ds ≠ []) (h : lensL ds ≤ n) : (cpN ds).length ≤ n + 2 := by
  cases ds with
  | nil => exact absurd rfl hne
  | cons d r =>
    have h1 := cpN_len (ds := d :: r) (.head _)
    have h2 := row_len2 (rs := d :: r) (row := d) (.head _)
    (first | lia | omega)
end
end Mine
namespace Mine
section
open PySem.Calls
theorem six_turn {g h : Heap} {L : Addr} {a b c e f d : Addr × Obj} {l : List (Addr × Obj)} (N : News g L h (d :: (l ++ [a, b, c, e, f]))) : News g L h (d :: a :: b :: c :: e :: f :: l) := fun p hp => N p (by
  simp only [List.mem_cons, List.mem_append, List.not_mem_nil, or_false] at hp ⊢
  rcases hp with hp | hp | hp | hp | hp | hp | hp <;> simp [hp])
section
variable {M : Model} {A : Around} {E : Value → Shared → Prop} {Q : Flow → Shared → Prop} {s : Shared} {env : Env} {h₀ : Heap} {L : Addr} {m : MapS}
theorem var_merge {st : Stmt} {rest : List Stmt} (x : Str) (F : Fr h₀ L s.heap m) (J : Addr → List (Addr × Obj) → Prop) (step : ∀ K : Flow → Shared → Prop, (∀ h' tk W l, Fr h₀ L h' (fun y => if y = x then some (.ref W) else m y) → News h₀ L h' l → J W l → K .next { s with heap := h', toks := tk }) → wpAny M A (exec st env) K E s)
    (next : ∀ h' tk W l, Fr h₀ L h' (fun y => if y = x then some (.ref W) else m y) → News h₀ L h' l → J W l → wpAny M A (execs rest env) Q E { s with heap := h', toks := tk }) : wpAny M A (execs (st :: rest) env) Q E s := wpAny_execs_cons (step _ next)
end
section
variable {α : Type} [DecidableEq α]
noncomputable def WPre (ws : List (List α)) (w : List α) : Prop := ∀ s ∈ ws, s.take w.length = w
theorem wpre_nil (ws : List (List α)) : WPre ws [] := fun s _ => by simp
theorem wpre_le {ws : List (List α)} {w s : List α} (h : WPre ws w) (hs : s ∈ ws) : w <+: s := by
  have := h s hs
  rw [← this]; exact List.take_prefix _ _
theorem wpre_stop1 {ws : List (List α)} {w w0 : List α} (h : WPre ws w) (h0 : w0 ∈ ws) (hl : w0.length ≤ w.length) : w = comN ws := by
  have e : w = w0 := by
    have := h w0 h0
    rw [List.take_of_length_le hl] at this
    exact this.symm
  subst e
  exact pre_anti (comN_max (fun e => by rw [e] at h0; cases h0) fun d hd => wpre_le h hd) (comN_pre h0)
theorem wpre_stop2 {ws : List (List α)} {w w0 : List α} {x : α} (h : WPre ws w) (h0 : w0 ∈ ws) (hx : w0[w.length]? = some x) (hb : ws.filter (fun s => decide (s.take (w ++ [x]).length ≠ w ++ [x])) ≠ []) : w = comN ws := by
  have hne : ws ≠ [] := fun e => by rw [e] at h0; cases h0
  have h1 : w <+: comN ws := comN_max hne fun d hd => wpre_le h hd
  have h2 : (comN ws).length ≤ w.length := by
    refine Classical.byContradiction fun hgt => hb ?_
    rw [List.filter_eq_nil_iff]
    intro s hs
    have p0 := comN_pre h0
    have p1 := comN_pre hs
    have e1 : (comN ws).take (w.length + 1) = w ++ [x] := by
      obtain ⟨t, e⟩ := p0
      have hw := h w0 h0
      have e2 : w0.take (w.length + 1) = w ++ [x] := by rw [take_snoc hx, hw]
      rw [← e, List.take_append_of_le_length (by (first | lia | omega))] at e2
      exact e2
    obtain ⟨t, e⟩ := p1
    have e3 : s.take (w.length + 1) = w ++ [x] := by rw [← e, List.take_append_of_le_length (by (first | lia | omega)), e1]
    simp only [List.length_append, List.length_cons, List.length_nil, Nat.zero_add, e3]
    simp
  exact h1.eq_of_length (Nat.le_antisymm h1.length_le h2)
theorem wpre_go {ws : List (List α)} {w : List α} {x : α} (hb : ws.filter (fun s => decide (s.take (w ++ [x]).length ≠ w ++ [x])) = []) : WPre ws (w ++ [x]) := fun s hs => by
  have := List.filter_eq_nil_iff.mp hb s hs
  simpa using this
end
end
end Mine
namespace Mine
section
open PySem.Calls
open LCg
section
variable {prog : Program} {w : World} {A : Around} {E : Value → Shared → Prop} {s : Shared} {env : Env} {h₀ : Heap}
theorem forLoop_P {R : Result → Shared → Prop} {E₀ : Value → Shared → Prop} {Qn : Flow → Shared → Prop} {x y : Str} {px py tp : Pos} {kk : Nat} {body : List Stmt} {I : Addr} {fp wr : List Addr} {n : Nat} {P : Nat → Value → Value → Prop} {St : Nat → Heap → Prop} {Mid : Nat → Addr → Heap → Prop} {m : Str → Option Value}
    {news : List (Addr × Obj)} (J : Nat → (Str → Option Value) → List (Addr × Obj) → Prop) (hh : A.handled = none) (W : WalksT prog w A I fp wr n (fun i vs => ∃ a b, P i a b ∧ vs = #[a, b]) St Mid)
    (hx : env.kindOf x = some .local) (hy : env.kindOf y = some .local) (hp : (env.scope.kind == .class || (env.scope.kind == .module && env.locals != env.globals)) = false)
    (hLf : env.locals ∉ fp) (hwr : ∀ b ∈ wr, h₀.get? b = none) (hnw : ∀ p ∈ news, p.1 ∉ wr)
    (hst : St 0 s.heap) (F : Fr h₀ env.locals s.heap m) (N : News h₀ env.locals s.heap news) (hJ₀ : J 0 m news)
    (turn : ∀ i a b m₁ nx h tk own, i < n → P i a b → (∀ p ∈ own, p.1 ∈ fp) → (∀ p ∈ nx, p.1 ∉ wr) → J i m₁ nx → Fr h₀ env.locals h (fun z => if z = y then some b else if z = x then some a else m₁ z) → News h₀ env.locals h (own ++ nx) →
      wpAny (model prog w) A (execs body env) (TurnEnd h₀ env.locals wr own (J (i + 1)) s Qn) E₀ { s with heap := h, toks := tk })
    (hE : ∀ e s', E₀ e s' → notedBy (model prog w) A env (fun e s' => R (.error e) s') e s')
    (hQ : ∀ f s', Qn f s' → R (.ok f) s')
    (done : ∀ m₁ nx h tk, J n m₁ nx → Fr h₀ env.locals h m₁ → News h₀ env.locals h nx → R (.ok .next) { s with heap := h, toks := tk }) :
    codeAny (model prog w) A (.forLoop (.Tuple [.Name x px, .Name y py] kk tp) (.ref I) body [] env) R s := by
  have hLw : env.locals ∉ wr := fun h => hLf (W.sub _ h)
  have old : ∀ b o, h₀.get? b = some o → b ∉ wr := fun b o e hb => by rw [hwr b hb] at e; cases e
  refine codeAny_forLoop_any
    (ForSt h₀ env.locals wr J St n s) ?_ (n + 1)
    ⟨s.heap, s.toks, m, news, 0, rfl, hst, F, N, hnw, hJ₀, Nat.zero_le _, rfl⟩
  rintro k s' ⟨h', tk, m', nx, i, rfl, hst', F', N', off', hJ, hi, rfl⟩
  have next : ∀ h₁ : Heap, (∀ b o, b ∉ wr → h'.get? b = some o → h₁.get? b = some o) → Fr h₀ env.locals h₁ m' ∧ News h₀ env.locals h₁ nx := fun h₁ hk₁ =>
    ⟨⟨F'.ns.at' fun o e => hk₁ _ o hLw e, fun b o e => hk₁ b o (old b o e) (F'.keep b o e), F'.above⟩, fun p hp => ⟨hk₁ _ _ (off' p hp) (N' p hp).1, (N' p hp).2⟩⟩
  by_cases hlt : i < n
  · refine W.item i _ _ _ hlt hst' fun T vals h₁ tk₁ hPv hTl hT hmid hk₁ => ?_
    obtain ⟨a, b, hP, rfl⟩ := hPv
    dsimp only
    refine W.go _ _ _ i T { s with heap := h₁, toks := tk₁ } _ _ hmid fun h₂ hst₂ hk₂ => ?_
    have hk₂' : ∀ b o, b ∉ wr → h'.get? b = some o → h₂.get? b = some o := fun b o hb e => hk₂ b o hb (hk₁ b o hb e)
    have hT₂ : h₂.IsTuple T #[a, b] := hT.at fun o e => hk₂ _ o (W.apart _ _ _ hmid) e
    obtain ⟨F₂, N₂⟩ := next h₂ hk₂'
    have key : wpAny (model prog w) A (assign (.Tuple [.Name x px, .Name y py] kk tp) env (.ref T)) (fun _ s₂ => wpAny (model prog w) A (execs body env) (TurnEnd h₀ env.locals wr (ownOf h₀ h₂ fp) (J (i + 1)) s Qn) E₀ s₂) E₀ { s with heap := h₂, toks := tk₁ } := by
      refine assign_Tuple_tuple hh (by obtain ⟨ot, e, hc, nt, hd⟩ := hT₂; exact ⟨ot, e, hc, nt, hd⟩) rfl rfl fun h₅ he => ?_
      have he' : ∀ b o, h₂.get? b = some o → h₅.get? b = some o := fun b o e => he b o (Nat.ne_of_lt (Heap.lt_size e)) e
      have F₅ := F₂.keeps he'
      refine assignInOrder_cons (wpAny_assign_Name (wpAny_storeName_local hx F₅.ns (fun h₆ hn₆ hs₆ => ?_) hp))
      refine assignInOrder_cons (wpAny_assign_Name (wpAny_storeName_local hy hn₆ (fun h₇ hn₇ hs₇ => ?_) hp))
      refine assignInOrder_nil ?_
      have hL₀ : h₀.get? env.locals = none := Heap.get?_none_of_le F₂.above
      have old7 : ∀ b o, b ≠ env.locals → h₂.get? b = some o → h₇.get? b = some o := fun b o hb e => hs₇.extBut b o hb (hs₆.extBut b o hb (he' b o e))
      have F₇ : Fr h₀ env.locals h₇ (fun z => if z = y then some b else if z = x then some a else m' z) := ⟨hn₇, fun b o e => old7 b o (fun q => by rw [q, hL₀] at e; cases e) (F₂.keep b o e), F₂.above⟩
      refine turn i a b m' nx h₇ _ (ownOf h₀ h₂ fp) hlt hP (fun p hp => (ownOf_out hp).1) off' hJ F₇ fun p hp => ?_
      rcases List.mem_append.mp hp with hp | hp
      · obtain ⟨q1, q2, q3⟩ := ownOf_out hp
        have ne : p.1 ≠ env.locals := fun q => hLf (q ▸ q1)
        exact ⟨old7 _ _ ne q3, ne, q2⟩
      · exact ⟨old7 _ _ (N₂ p hp).2.1 (N₂ p hp).1, (N₂ p hp).2⟩
    refine wpAny_mono key (fun _ s₂ h₂' => wpAny_mono h₂' (fun f s₃ h₃ => ?_) hE) hE
    have step : TurnSt h₀ env.locals wr (ownOf h₀ h₂ fp) (J (i + 1)) s.gens s.drawn s.os s₃ →
        ∃ m, m < n + 1 - i ∧ ForSt h₀ env.locals wr J St n s m s₃ := by
      rintro ⟨g₃, tk₃, m₃, nx₃, e₃, F₃, N₃, off₃, hJ₃⟩
      refine ⟨n + 1 - (i + 1), by (first | lia | omega), g₃, tk₃, m₃, nx₃, i + 1, e₃, ?_, F₃, fun p hp => N₃ p (List.mem_append_right _ hp), off₃, hJ₃, hlt, rfl⟩
      refine W.frame _ _ _ hst₂ fun b hb o e => ?_
      cases hn : h₀.get? b with
      | some o₀ =>
        have : o₀ = o := by have := F₂.keep b o₀ hn; rw [e] at this; exact (Option.some.inj this).symm
        exact this ▸ F₃.keep b o₀ hn
      | none => exact (N₃ _ (List.mem_append_left _ (ownOf_in hb hn e))).1
    cases f with
    | ret v => exact hQ _ _ h₃
    | brk => exact hQ _ _ h₃
    | cont => exact step h₃
    | next => exact step h₃
  · obtain rfl : i = n := Nat.le_antisymm hi (Nat.not_lt.mp hlt)
    refine W.done _ _ _ hst' fun h₁ tk₁ hk₁ => wpAny_execs_nil ?_
    obtain ⟨F₁, N₁⟩ := next h₁ hk₁
    exact done _ _ _ _ hJ F₁ N₁
end
section
variable {prog : Program} {w : World} {A : Around} {E : Value → Shared → Prop} {s : Shared} {env : Env} {h₀ : Heap}
theorem enumT {x y : Str} {px py tp : Pos} {kk : Nat} {body : List Stmt} {Q : Flow → Shared → Prop} {ax : Addr} {vs : List Value} {m₀ : Str → Option Value} {news : List (Addr × Obj)} (J : List (Addr × Obj) → (Str → Option Value) → Nat → (Str → Option Value) → List (Addr × Obj) → Prop)
    (hh : A.handled = none) (F : Fr h₀ env.locals s.heap m₀) (N : News h₀ env.locals s.heap news) (hD : s.heap.IsList ax vs.toArray) (haL : ax ≠ env.locals) (hj : J news m₀ 0 m₀ news)
    (hx : env.kindOf x = some .local) (hy : env.kindOf y = some .local) (hp : (env.scope.kind == .class || (env.scope.kind == .module && env.locals != env.globals)) = false)
    (turn : ∀ wr i tv v m₁ nx h tk own, vs[i]? = some v → (∀ p ∈ nx, p.1 ∉ wr) → J news m₀ i m₁ nx → Fr h₀ env.locals h (fun z => if z = y then some v else if z = x then some (.int (i : Int) tv) else m₁ z) → News h₀ env.locals h (own ++ nx) →
      wpAny (model prog w) A (execs body env) (TurnEnd h₀ env.locals wr own (J news m₀ (i + 1)) s Q) E { s with heap := h, toks := tk })
    (done : ∀ m₁ nx h tk, J news m₀ vs.length m₁ nx → Fr h₀ env.locals h m₁ → News h₀ env.locals h nx → Q .next { s with heap := h, toks := tk })
    (hE : PassesOwn (model prog w) A env E := by passes_own) :
    wpAny (model prog w) A (call (.type "enumerate") [.ref ax]) (LoopT prog w A env (.Tuple [.Name x px, .Name y py] kk tp) body Q E) E s := by
  obtain ⟨oD, hoD, hr⟩ := id hD
  refine call_enumerate_list hD fun h' he hit hz hk => ?_
  have haI : ax ≠ s.heap.objs.size := lt_ne_size hoD
  have haE : ax ≠ s.heap.objs.size + 1 := Nat.ne_of_lt (Nat.lt_succ_of_lt (Heap.lt_size hoD))
  have nEI : s.heap.objs.size + 1 ≠ s.heap.objs.size := Nat.succ_ne_self _
  have hLlt : env.locals < s.heap.objs.size := F.ns.lt
  have F' := F.keeps hk
  have N' : News h₀ env.locals h' news := fun p hp => ⟨hk _ _ (N p hp).1, (N p hp).2⟩
  have fresh₀ : ∀ a, s.heap.objs.size ≤ a → h₀.get? a = none := fun a hq => by
    cases e : h₀.get? a with
    | none => rfl
    | some o' => have := F.keep a o' e; rw [none_size hq] at this; cases this
  refine wpAny_pyIter_enum he ?_
  have W := WalksT.enumerate (prog := prog) (w := w) hh (s.heap.objs.size + 1) s.heap.objs.size ax nEI haE haI vs.toArray
  have hlen : vs.toArray.size = vs.length := by simp
  rw [hlen] at W
  refine forLoop_P (s := { s with heap := h' }) (P := fun i a b => vs[i]? = some b ∧ ∃ t, a = .int (i : Int) t) (E₀ := E) (Qn := Q) (J news m₀) hh
    { W with
      item := fun i s' Q' E' hi st hq => W.item i s' Q' E' hi st fun T vals h2 tk a b c d e => by
        obtain ⟨t, v, hv, rfl⟩ := a
        exact hq T _ h2 tk ⟨_, _, ⟨by simpa using hv, _, rfl⟩, rfl⟩ b c d e } hx hy hp ?_ ?_ ?_ ⟨⟨_, he⟩, hit, ⟨oD, hk _ _ hoD, hr⟩⟩ F' N' hj ?_ ?_ (fun f s' q => q) ?_
  · intro hm
    rcases List.mem_cons.mp hm with e | hm
    · exact absurd hLlt (by rw [e]; exact Nat.not_lt.mpr (Nat.le_succ _))
    rcases List.mem_cons.mp hm with e | hm
    · exact absurd hLlt (by rw [e]; exact Nat.lt_irrefl _)
    · exact haL (List.mem_singleton.mp hm).symm
  · intro b hb
    rcases List.mem_cons.mp hb with rfl | hb
    · exact fresh₀ _ (Nat.le_succ _)
    · rw [List.mem_singleton.mp hb]; exact fresh₀ _ (Nat.le_refl _)
  · intro p hp hI
    have := Heap.lt_size (N p hp).1
    rcases List.mem_cons.mp hI with e | hI
    · exact absurd this (by rw [e]; exact Nat.not_lt.mpr (Nat.le_succ _))
    · exact absurd this (by rw [List.mem_singleton.mp hI]; exact Nat.lt_irrefl _)
  · rintro i a b m₁ nx h tk own hi ⟨hv, t, rfl⟩ hown off hJ F₁ N₁
    exact turn _ i t b m₁ nx h tk own hv off hJ F₁ N₁
  · exact hE
  · exact fun m₁ nx h tk hJ F₁ N₁ => done m₁ nx h tk hJ F₁ N₁
end
end
end Mine
namespace Mine
section
open PySem.Calls
open LCg
noncomputable def Apart (l l' : List (Addr × Obj)) : Prop := ∀ p ∈ l, ∀ q ∈ l', p.1 ≠ q.1
theorem apart_nil {l : List (Addr × Obj)} : Apart [] l := fun _ h => nomatch h
theorem apart_one {a : Addr × Obj} {l : List (Addr × Obj)} (h : ∀ q ∈ l, q.1 < a.1) : Apart [a] l := fun p hp q hq => by
  rw [List.mem_singleton.mp hp]; exact Nat.ne_of_gt (h q hq)
theorem apart_cons {a : Addr × Obj} {w l : List (Addr × Obj)} (h : ∀ q ∈ l, q.1 ≠ a.1) (t : Apart w l) : Apart (a :: w) l := fun p hp q hq => by
  rcases List.mem_cons.mp hp with rfl | hp
  · exact Ne.symm (h q hq)
  · exact t p hp q hq
theorem Apart.one {w l : List (Addr × Obj)} {q : Addr × Obj} (h : Apart w l) (hq : q ∈ l) : ∀ p ∈ w, p.1 ≠ q.1 := fun p hp => h p hp q hq
section
variable {h₀ : Heap} {L : Addr} {m : MapS} {s : Shared}
theorem elt_new {h' : Heap} {tk : Nat} {own inner news w : List (Addr × Obj)} {C D I : Addr} {oC oD : Obj} {J : List (Addr × Obj) → Prop} (hoff : ∀ p ∈ inner ++ news, p.1 ∉ [I] ∧ p.1 ≠ C ∧ p.1 ≠ D) (hin : Apart inner news) (hI : ∃ o, (I, o) ∈ own)
    (F : Fr h₀ L h' m) (N : News h₀ L h' (w ++ (own ++ ((C, oC) :: (D, oD) :: (inner ++ news))))) (hw : Apart w (own ++ ((C, oC) :: (D, oD) :: (inner ++ news)))) (hJ : J (w ++ inner)) :
    EltEnd h₀ L m own C D oC oD [I] (fun nx => ∃ inner, nx = inner ++ news ∧ Apart inner news ∧ J inner) s { s with heap := h', toks := tk } := by
  refine ⟨h', tk, (w ++ inner) ++ news, rfl, F, fun p hp => N p ?_, fun p hp => ?_, w ++ inner, rfl, fun p hp q hq => ?_, hJ⟩
  · simp only [List.mem_append, List.mem_cons] at hp ⊢
    rcases hp with hp | hp | hp | (hp | hp) | hp <;> simp [hp]
  · rcases List.mem_append.mp hp with hp | hp
    · rcases List.mem_append.mp hp with hp | hp
      · obtain ⟨o, ho⟩ := hI
        exact ⟨fun q => hw p hp _ (List.mem_append_left _ ho) (List.mem_singleton.mp q), fun q => hw p hp _ (List.mem_append_right _ (.head _)) q, fun q => hw p hp _ (List.mem_append_right _ (.tail _ (.head _))) q⟩
      · exact hoff p (List.mem_append_left _ hp)
    · exact hoff p (List.mem_append_right _ hp)
  · rcases List.mem_append.mp hp with hp | hp
    · exact hw p hp q (List.mem_append_right _ (.tail _ (.tail _ (List.mem_append_right _ hq))))
    · exact hin p hp q hq
end
section
variable {prog : Program} {w : World} {A : Around} {E : Value → Shared → Prop} {s : Shared} {h₀ : Heap} {L : Addr} {m : MapS} {env : Env} {elt : Expr} {scope : Scope} {cl : List (Str × Addr)} {Fin : Shared → List Value → List (Addr × Obj) → Prop}
noncomputable abbrev NewTurn (prog : Program) (w : World) (A : Around) (s : Shared) (h₀ : Heap) (L : Addr) (m : MapS) (elt : Expr) (cenv : Addr → Env) (x : Str) (vs : List Value) (news : List (Addr × Obj)) (J : Nat → List Value → List (Addr × Obj) → Prop) : Prop :=
  ∀ i v C oC D m₂ h tk own ys inner (K : Value → Shared → Prop) (E' : Value → Shared → Prop), vs[i]? = some v → J i ys inner → m₂ x = some v → NsObj oC m₂ → Fr h₀ L h m → News h₀ L h (own ++ ((C, oC) :: (D, lst ys) :: (inner ++ news))) →
    (∀ y h' tk' w', Fr h₀ L h' m → News h₀ L h' (w' ++ (own ++ ((C, oC) :: (D, lst ys) :: (inner ++ news)))) → Apart w' (own ++ ((C, oC) :: (D, lst ys) :: (inner ++ news))) → J (i + 1) (ys ++ [y]) (w' ++ inner) → K y { s with heap := h', toks := tk' }) →
    wpAny (model prog w) A (eval elt (cenv C)) K E' { s with heap := h, toks := tk }
theorem src_tupN {x : Str} {px : Pos} {ax : Addr} {vs : List Value} {news : List (Addr × Obj)} (J : Nat → List Value → List (Addr × Obj) → Prop)
    (hh : A.handled = none) (F : Fr h₀ L s.heap m) (N : News h₀ L s.heap news) (hD : s.heap.IsTuple ax vs.toArray) (haL : ax ≠ L) (hsz : vs.length ≤ sizeLine)
    (hkind : scope.kind = .function) (hx : scope.names.lookup x = some .local) (hJ : J 0 [] []) (turn : NewTurn prog w A s h₀ L m elt (fun C => compEnvC scope cl C env) x vs news J)
    (fin : ∀ g tk ys inner, Apart inner news → J vs.length ys inner → Fin { s with heap := g, toks := tk } ys (inner ++ news)) :
    CompAt prog w A h₀ L m env (.Name x px) elt [] scope cl E Fin (.ref ax) s := by
  refine src_tupS (fun n0 i ys nx => ∃ inner, nx = inner ++ n0 ∧ Apart inner n0 ∧ J i ys inner) hh F N hD haL hsz hkind hx ⟨[], rfl, apart_nil, hJ⟩ ?_ ?_
  · rintro I i v C oC D m₂ h tk own ys nx E' hv ⟨inner, rfl, hin, hj⟩ hm hC F₁ N₁ hoff hI _
    exact tests0 (turn i v C oC D m₂ h tk own ys inner _ E' hv hj hm hC F₁ N₁ fun y h' tk' w' F₂ N₂ hw hj₂ => elt_new hoff hin hI F₂ N₂ hw hj₂)
  · rintro g tk ys nx ⟨inner, rfl, hin, hj⟩
    exact fin g tk ys inner hin hj
theorem src_listN {x : Str} {px : Pos} {ax : Addr} {vs : List Value} {news : List (Addr × Obj)} (J : Nat → List Value → List (Addr × Obj) → Prop)
    (hh : A.handled = none) (F : Fr h₀ L s.heap m) (N : News h₀ L s.heap news) (hD : s.heap.IsList ax vs.toArray) (haL : ax ≠ L) (hsz : vs.length ≤ sizeLine)
    (hkind : scope.kind = .function) (hx : scope.names.lookup x = some .local) (hJ : J 0 [] []) (turn : NewTurn prog w A s h₀ L m elt (fun C => compEnvC scope cl C env) x vs news J)
    (fin : ∀ g tk ys inner, Apart inner news → J vs.length ys inner → Fin { s with heap := g, toks := tk } ys (inner ++ news)) :
    CompAt prog w A h₀ L m env (.Name x px) elt [] scope cl E Fin (.ref ax) s := by
  refine src_listS (fun n0 i ys nx => ∃ inner, nx = inner ++ n0 ∧ Apart inner n0 ∧ J i ys inner) hh F N hD haL hsz hkind hx ⟨[], rfl, apart_nil, hJ⟩ ?_ ?_
  · rintro I i v C oC D m₂ h tk own ys nx E' hv ⟨inner, rfl, hin, hj⟩ hm hC F₁ N₁ hoff hI _
    exact tests0 (turn i v C oC D m₂ h tk own ys inner _ E' hv hj hm hC F₁ N₁ fun y h' tk' w' F₂ N₂ hw hj₂ => elt_new hoff hin hI F₂ N₂ hw hj₂)
  · rintro g tk ys nx ⟨inner, rfl, hin, hj⟩
    exact fin g tk ys inner hin hj
theorem src_listF {x : Str} {px : Pos} {c : Expr} {ax : Addr} {vs : List Value} {news : List (Addr × Obj)} (J : Nat → List Value → Prop)
    (hh : A.handled = none) (F : Fr h₀ L s.heap m) (N : News h₀ L s.heap news) (hD : s.heap.IsList ax vs.toArray) (haL : ax ≠ L) (hsz : vs.length ≤ sizeLine)
    (hkind : scope.kind = .function) (hx : scope.names.lookup x = some .local) (hJ : J 0 [])
    (turn : ∀ i v C oC D m₂ h tk own ys (K : Value → Shared → Prop) (Z : Shared → Prop) (E' : Value → Shared → Prop), vs[i]? = some v → J i ys → m₂ x = some v → NsObj oC m₂ → Fr h₀ L h m → News h₀ L h (own ++ ((C, oC) :: (D, lst ys) :: news)) →
      (∀ y h' tk', Fr h₀ L h' m → News h₀ L h' (own ++ ((C, oC) :: (D, lst ys) :: news)) → J (i + 1) (ys ++ [y]) → K y { s with heap := h', toks := tk' }) →
      (∀ h' tk', Fr h₀ L h' m → News h₀ L h' (own ++ ((C, oC) :: (D, lst ys) :: news)) → J (i + 1) ys → Z { s with heap := h', toks := tk' }) →
      wpAny (model prog w) A (isTrue c (compEnvC scope cl C env) (eval c (compEnvC scope cl C env))) (fun ok s₃ => if ok = true then wpAny (model prog w) A (eval elt (compEnvC scope cl C env)) K E' s₃ else Z s₃) E' { s with heap := h, toks := tk })
    (fin : ∀ g tk ys, J vs.length ys → Fin { s with heap := g, toks := tk } ys news) :
    CompAt prog w A h₀ L m env (.Name x px) elt [c] scope cl E Fin (.ref ax) s := by
  refine src_listS (fun n0 i ys nx => nx = n0 ∧ J i ys) hh F N hD haL hsz hkind hx ⟨rfl, hJ⟩ ?_ fun g tk ys nx hj => hj.1 ▸ fin g tk ys hj.2
  rintro I i v C oC D m₂ h tk own ys nx E' hv ⟨rfl, hj⟩ hm hC F₁ N₁ hoff _ _
  exact tests1 (turn i v C oC D m₂ h tk own ys _ _ E' hv hj hm hC F₁ N₁ (fun y h' tk' F₂ N₂ hj₂ => ⟨h', tk', nx, rfl, F₂, N₂, hoff, rfl, hj₂⟩) fun h' tk' F₂ N₂ hj₂ => ⟨h', tk', nx, rfl, F₂, N₂, hoff, rfl, hj₂⟩)
end
section
variable {prog : Program} {w : World} {A : Around} {E : Value → Shared → Prop} {s : Shared} {env : Env} {h₀ : Heap}
theorem enumK {L : Addr} {x y : Str} {px py tp : Pos} {kk : Nat} {body : List Stmt} {Q : Flow → Shared → Prop} {ax : Addr} {vs : List Value} {m₀ : MapS} {news : List (Addr × Obj)} (J : Nat → MapS → Prop) (J' : MapS → List (Addr × Obj) → Prop)
    (hh : A.handled = none) (F : Fr h₀ L s.heap m₀) (N : News h₀ L s.heap news) (hL : env.locals = L) (hD : s.heap.IsList ax vs.toArray) (haL : ax ≠ L) (hj : J 0 m₀)
    (hx : env.kindOf x = some .local) (hy : env.kindOf y = some .local) (hp : (env.scope.kind == .class || (env.scope.kind == .module && env.locals != env.globals)) = false)
    (turn : ∀ i tv v m₁ h tk own (K : Flow → Shared → Prop), vs[i]? = some v → J i m₁ → Fr h₀ L h (fun z => if z = y then some v else if z = x then some (.int (i : Int) tv) else m₁ z) → News h₀ L h (own ++ news) →
      (∀ f h' tk' m', f = .next ∨ f = .cont → Fr h₀ L h' m' → News h₀ L h' (own ++ news) → J (i + 1) m' → K f { s with heap := h', toks := tk' }) →
      (∀ h' tk' m' l, Fr h₀ L h' m' → News h₀ L h' l → J' m' l → K .brk { s with heap := h', toks := tk' }) →
      wpAny (model prog w) A (execs body env) K E { s with heap := h, toks := tk })
    (last : ∀ m₁, J vs.length m₁ → J' m₁ news)
    (done : ∀ m₁ l h tk, J' m₁ l → Fr h₀ L h m₁ → News h₀ L h l → Q .next { s with heap := h, toks := tk })
    (hE : PassesOwn (model prog w) A env E := by passes_own) :
    wpAny (model prog w) A (call (.type "enumerate") [.ref ax]) (LoopT prog w A env (.Tuple [.Name x px, .Name y py] kk tp) body Q E) E s := by
  subst hL
  refine enumT (fun n0 _ i m nx => nx = n0 ∧ J i m) hh F N hD haL ⟨rfl, hj⟩ hx hy hp ?_ (fun m₁ nx h tk hj₂ F₁ N₁ => done m₁ nx h tk (hj₂.1 ▸ last m₁ hj₂.2) F₁ N₁) hE
  rintro wr i tv v m₁ nx h tk own hv off ⟨rfl, hj₂⟩ F₁ N₁
  refine turn i tv v m₁ h tk own _ hv hj₂ F₁ N₁ (fun f h' tk' m' hf F₂ N₂ hj₃ => ?_) fun h' tk' m' l F₂ N₂ hj₃ => done m' l h' tk' hj₃ F₂ N₂
  rcases hf with rfl | rfl
  · exact ⟨h', tk', m', nx, rfl, F₂, N₂, off, rfl, hj₃⟩
  · exact ⟨h', tk', m', nx, rfl, F₂, N₂, off, rfl, hj₃⟩
end
inductive ComEnd (oct ab : Bool) (ps : List (List Nat)) (nw : List (Addr × Obj)) (m : MapS) (l : List (Addr × Obj)) : Prop
  | mk {w : List (Addr × Obj)} {R : Addr} {cR : Nat} {us : List Value} (hi : m "isabs" = some (.bool ab)) (hc : m "common" = some (.ref R)) (hl : l = w ++ nw) (hR : (R, lobj us cR) ∈ w ++ nw) (hu : Al (VC oct) us ps)
inductive ComAt (ab : Bool) (r1 r2 : Addr) (d1 d2 : List (List Nat)) (i : Nat) (m : MapS) : Prop
  | mk (hi : m "isabs" = some (.bool ab)) (h1 : m "s1" = some (.ref r1)) (h2 : m "s2" = some (.ref r2)) (hc : m "common" = some (.ref r1)) (ht : d1.take i = d2.take i)
theorem slash_ways {ds : List (List Nat)} (P : List Nat → Bool) : (∃ b, ∀ d ∈ ds, P d = b) ∨ ((∃ d ∈ ds, P d = false) ∧ ∃ d ∈ ds, P d = true) := by
  by_cases h0 : ∃ d ∈ ds, P d = false
  · by_cases h1 : ∃ d ∈ ds, P d = true
    · exact .inr ⟨h0, h1⟩
    · exact .inl ⟨false, fun d hd => by cases e : P d with
        | false => rfl
        | true => exact absurd ⟨d, hd, e⟩ h1⟩
  · exact .inl ⟨true, fun d hd => by cases e : P d with
      | true => rfl
      | false => exact absurd ⟨d, hd, e⟩ h0⟩
noncomputable def RowsAt (f : List Nat → List (List Nat)) (oct : Bool) (ds : List (List Nat)) (i : Nat) (ys : List Value) (inner : List (Addr × Obj)) : Prop := Al (TRow oct inner) ys ((ds.take i).map f)
theorem RowsAt.start {f : List Nat → List (List Nat)} {oct : Bool} {ds : List (List Nat)} : RowsAt f oct ds 0 [] [] := alnil
theorem RowsAt.step {f : List Nat → List (List Nat)} {oct : Bool} {ds : List (List Nat)} {i : Nat} {ys us : List Value} {inner : List (Addr × Obj)} {d : List Nat} {D : Addr} {c : Nat} (h : RowsAt f oct ds i ys inner) (hd : ds[i]? = some d) (hu : Al (VC oct) us (f d)) :
    RowsAt f oct ds (i + 1) (ys ++ [.ref D]) ((D, lobj us c) :: inner) := by
  unfold RowsAt
  rw [take_snoc hd, List.map_append, List.map_singleton]
  exact rows_turn h hu
theorem RowsAt.all {f : List Nat → List (List Nat)} {oct : Bool} {ds : List (List Nat)} {i : Nat} {ys : List Value} {inner : List (Addr × Obj)} (h : RowsAt f oct ds i ys inner) (hi : ds.length ≤ i) : Al (TRow oct inner) ys (ds.map f) := by
  unfold RowsAt at h
  rw [List.take_of_length_le hi] at h
  exact h
noncomputable def KeepAt (oct : Bool) (l : List (List Nat)) (j : Nat) (ws : List Value) : Prop := Al (VC oct) ws ((l.take j).filter keepP)
theorem KeepAt.all {oct : Bool} {d : List Nat} {n : Nat} {ws : List Value} (h : KeepAt oct (spl 47 d) n ws) (hn : (spl 47 d).length ≤ n) : Al (VC oct) ws (stepsN d) := by
  unfold KeepAt at h
  rw [List.take_of_length_le hn] at h
  exact h
theorem com_merge {M : Model} {A : Around} {E : Value → Shared → Prop} {s : Shared} {env : Env} {Q : Flow → Shared → Prop} {st : Stmt} {h₀ : Heap} {L : Addr} {m : MapS} {nw : List (Addr × Obj)} (oct ab : Bool) (ps : List (List Nat)) (_F : Fr h₀ L s.heap m) (_N : News h₀ L s.heap nw)
    (step : ∀ K : Flow → Shared → Prop, (∀ h' tk m' l, Fr h₀ L h' m' → News h₀ L h' l → ComEnd oct ab ps nw m' l → K .next { s with heap := h', toks := tk }) → wpAny M A (exec st env) K E s)
    (next : ∀ h' tk m' w R cR us, Fr h₀ L h' m' → News h₀ L h' (w ++ nw) → m' "isabs" = some (.bool ab) → m' "common" = some (.ref R) → (R, lobj us cR) ∈ w ++ nw → Al (VC oct) us ps → Q .next { s with heap := h', toks := tk }) : wpAny M A (exec st env) Q E s :=
  step Q fun h' tk m' l F N ⟨hi, hc, hl, hR, hu⟩ => by subst hl; exact next h' tk m' _ _ _ _ F N hi hc hR hu
end
end Mine
namespace Mine
section
open PySem.Calls
section
open Builtin
set_option maxHeartbeats 1000000 in
theorem meets_ssplit_bad {x : Str} {c : Array UInt8} {t u : Tok} : Meets (Builtin.«str.split» ⟨[.str x t, .bytes c u], []⟩) (raisesNew "TypeError") := by
  intro prog w A R s ⟨hh, hs⟩
  have hT : s.TypeIs (.bytes c u) "bytes" := rfl
  have f1 := bytes_sub_str
  unfold Builtin.«str.split»
  repeat wp_step
  exact wpAny_raiseErrorMade plainExc_TypeError hh hs (by rw [sizeLine_eq]; decide +kernel)
set_option maxHeartbeats 1000000 in
theorem meets_bsplit_bad {x : Str} {c : Array UInt8} {t u : Tok} : Meets (Builtin.«bytes.split» ⟨[.bytes c u, .str x t], []⟩) (raisesNew "TypeError") := by
  intro prog w A R s ⟨hh, hs⟩
  have hT : s.TypeIs (.str x t) "str" := rfl
  have f3 := str_no_buffer
  unfold Builtin.«bytes.split» Bytes.splitM
  repeat wp_step
  exact wpAny_raiseErrorMade plainExc_TypeError hh hs (by rw [sizeLine_eq]; decide +kernel)
end
section
variable {prog : Program} {w : World} {A : Around} {E : Value → Shared → Prop} {s : Shared} {t u : Tok} {x : Str} {c : Array UInt8} {Q : Value → Shared → Prop}
theorem s_split_bad (hh : A.handled = none) (h : ∀ h' tk e, Heap.NewExc s.heap h' e "TypeError" → E (.ref e) { s with heap := h', toks := tk }) : wpAny (model prog w) A (call (.builtin "str.split") [.str x t, .bytes c u]) Q E s :=
  call_meets F.slot_str_split (typeIs_str _ _ _) F.entry_str_split (F.args_str_split_2 _ _) meets_ssplit_bad ⟨hh, h⟩
theorem b_split_bad (hh : A.handled = none) (h : ∀ h' tk e, Heap.NewExc s.heap h' e "TypeError" → E (.ref e) { s with heap := h', toks := tk }) : wpAny (model prog w) A (call (.builtin "bytes.split") [.bytes c u, .str x t]) Q E s :=
  call_meets sl_bsplit (typeIs_bytes _ _ _) en_bsplit (ar_bsplit _ _) meets_bsplit_bad ⟨hh, h⟩
theorem truthy_tup {D : Addr} {v : Value} {vs : List Value} {k : Nat} {Q : Bool → Shared → Prop} (hD : s.heap.get? D = some { cls := .type "tuple", data := .seq (v :: vs).toArray k }) (hz : (v :: vs).length ≤ sizeLine)
    (h : Q true { s with toks := s.toks + 1 + 1 }) : wpAny (model prog w) A (truthy (.ref D)) Q E s :=
  ktl_truthy hD (by rw [List.size_toArray]; rw [sizeLine_eq] at hz; (first | lia | omega)) h
theorem tup_zero {value slice : Expr} {D : Addr} {v : Value} {vs : List Value} {u : Tok} {Q : Value → Shared → Prop} {k : Nat} (hD : s.heap.get? D = some { cls := .type "tuple", data := .seq (v :: vs).toArray k }) (h : Q v s)
    (hs : subscripted slice false (.ref D) (.int 0 u) = operate [.ref D, .int 0 u] (getItem (.ref D) (.int 0 u)) := by with_unfolding_all rfl) (hg : ∀ r, letTemporaryGo value (.ref D) r = pure () := by intro _; with_unfolding_all rfl) :
    wpAny (model prog w) A (subscriptTail value slice (.ref D) (.int 0 u)) Q E s :=
  item_tupleL (j := 0) ⟨_, hD, rfl, _, rfl⟩ (by decide) (by decide) (by
    have : (0 : Int) < (((v :: vs).length : Nat) : Int) := by simp
    exact seqIndex_of (Int.le_refl 0) this) rfl h hs hg
end
theorem truthy_tup0 {prog : Program} {w : World} {A : Around} {E : Value → Shared → Prop} {s : Shared} {D : Addr} {k : Nat} {Q : Bool → Shared → Prop} (hD : s.heap.get? D = some { cls := .type "tuple", data := .seq ([] : List Value).toArray k })
    (h : Q false { s with toks := s.toks + 1 + 1 }) : wpAny (model prog w) A (truthy (.ref D)) Q E s :=
  ktl_truthy hD (by decide) h
end
end Mine
namespace Mine
set_option maxHeartbeats 8000000 in
open_top hd for PySem.Challenge.rw_ko0128_01
end Mine
namespace Mine
open PySem.Calls
local macro_rules | `(tactic| walk_at $s:str) => `(tactic| k_extra $s)
local macro_rules | `(tactic| k_room) => `(tactic| k_extra "MY k_room")
local macro_rules | `(tactic| k_ne) => `(tactic| k_extra "MY k_ne")
local macro_rules | `(tactic| k_all) => `(tactic| k_extra "MY k_all")
local macro_rules | `(tactic| k_mem) => `(tactic| k_extra "MY k_mem")
section
theorem fill_E1 (w : World) (h : Heap) : PySem.Challenge.rw_ko0128_01.Holds → (Mine.hd.heap_39 w.params).In h → True := by
  w_top off
  k_with_none
  (k_with "MY k_room" => ((try simp only [depth_under_make, depth_under_kw, depth_in1, depth_deeper]); (try unfold recursionLimit); first | exact room_le (by assumption) | exact room_lt (by assumption) | (first | lia | omega)))
  (k_with "MY top" => first | assumption | exact Top.keeps (by assumption) (Fr.keep (by assumption)))
  (k_with "MY enter" => (refine wpAny_call ?_; (refine' enterK ?kzk1z ?kzk2z ?kzk3z ?kzk4z ?kzk5z ?kzk6z ?kzk7z ?_ ?kzk8z ?kzk9z ?kzk10z ?kzk11z; (case kzk1z => assumption); (case kzk2z => assumption); (case kzk3z => k_room); (case kzk4z => k_is); (case kzk5z => k_is); (case kzk6z => first | exact BindsTo.of_eq rfl | exact binds_K (by k_in) rfl (by k_is) rfl rfl rfl); (case kzk7z => exact locs rfl); (case kzk8z => decide); (case kzk9z => exact rfl); (case kzk10z => exact rfl); (case kzk11z => exact rfl); k_whole; intro LZq hZq FZq NZq; (try dsimp only); (try k_fold))))
  (k_with "call type:type" => (k_here; (with_reducible show wpAny _ _ (call (Value.type "type") [Value.bytes _ _]) _ _ _); refine call_type_of (Tx := "bytes") rfl (by decide) ?_))
  (k_with "call builtin:issubclass" => (k_here; refine call_isub (by first | exact .inl rfl | exact .inr rfl) (News.get (by k_asm) (by k_mem)) ?_))
  (k_with "MY same" => (intro y hy; (try dsimp only); repeat (first | exact rfl | (refine (if_neg ?kzhz).trans ?_; (case kzhz => first | (intro e; subst e; exact absurd hy (by decide)) | (intro e; rw [hy] at e; cases e))))))
  (k_with "assign Tuple" => (k_here; (with_reducible show wpAny _ _ (assign (Expr.Tuple _ _ _) _ (Value.ref _)) _ _ _); k_dflt (refine' kun_list ?kzk1z ?kzk2z ?kzk3z ?kzk4z ?kzk5z ?kzk6z ?_; (case kzk1z => k_asm); (case kzk2z => k_asm); (case kzk3z => kun_lst); (case kzk4z => first | exact rfl | assumption); (case kzk5z => exact rfl); (case kzk6z => exact rfl); k_whole); intro hZq FZq NZq; (try k_sweep)))
  (k_with "assign Tuple" => (k_here; (with_reducible show wpAny _ _ (assign (Expr.Tuple _ _ _) _ (Value.ref _)) _ _ _); k_dflt (refine' unpackN_ ?kzk1z ?kzk2z ?kzk3z ?kzk4z ?kzk5z ?kzk6z ?_; (case kzk1z => k_asm); (case kzk2z => k_asm); (case kzk3z => kun_tup); (case kzk4z => first | exact rfl | assumption); (case kzk5z => exact rfl); (case kzk6z => exact rfl); k_whole); intro hZq FZq NZq; (try k_sweep)))
  (k_with "MY hideT" => (refine hide_post (m := execs _ _) ?_; intro kTE kTEh))
  (k_with "MY hideW" => (intro kWT kWZ kWTh kWZh))
  (k_with "MY showT" => (rename Hid (TurnEnd _ _ _ _ _ _ _) _ => kTEh; refine kTEh _ _ ?_))
  (k_with "MY showW" => (rename Hid (WTurn _ _ _ _ _ _) _ => kWTh; refine kWTh _ _ ?_))
  (k_with "MY showZ" => (rename (∀ s : Shared, _ → _) => kWZh; refine kWZh _ ?_))
  (k_with "execs cons" => (k_here; first | (dsimp only; try (rename Fr _ _ _ _ => kFd; dsimp only at kFd)) | (rename Fr _ _ _ _ => kFd; dsimp only at kFd) | k_gentoks | k_made | ((with_reducible refine wpAny_execs_cons ?_); (try dsimp only); (try k_fold))))
  (k_with "MY k_ne" => (refine neN ?_; (try dsimp only); first | assumption | exact Ne.symm (by assumption) | exact Nat.ne_of_lt (Nat.lt_succ_self _) | exact Nat.ne_of_gt (Nat.lt_succ_self _) | exact Nat.ne_of_lt (Nat.lt_succ_of_lt (Nat.lt_succ_self _)) | exact Nat.ne_of_gt (Nat.lt_succ_of_lt (Nat.lt_succ_self _)) | exact Nat.ne_of_gt (by first | assumption | exact at1 (by assumption) | exact at2 (by assumption) | exact at3 (by assumption) | exact at4 (by assumption) | exact at5 (by assumption) | exact at6 (by assumption) | exact at7 (by assumption) | exact at8 (by assumption)) | (first | lia | omega)))
  k_fill
  intros; trivial
set_option maxHeartbeats 8000000
section
variable {w : World} {A : Around} {mg mb : Str → Option Value} {mean : ExcName → Option Value} {loose : List Str} {s : Shared} {Q : Value → Shared → Prop} {E : Value → Shared → Prop}
theorem fspath_str {x : Str} {t : Tok} (X : (Mine.hd.heap_39 w.params).In s.heap) (T : Top Mine.hd.view_39 loose mean mg mb s.heap) (hd : A.depth ≤ 560)
    (h : ∀ h' tk, Kp s.heap h' → Q (.str x t) { s with heap := h', toks := tk }) : wpAny (model PySem.Challenge.rw_ko0128_01.row.prog w) A (call (.ref 94) [.str x t]) Q E s := by
  walk_at "MY enter"
  k_steps
  exact h _ _ (Fr.keep (by k_asm))
theorem fspath_bytes {x : Array UInt8} {t : Tok} (X : (Mine.hd.heap_39 w.params).In s.heap) (T : Top Mine.hd.view_39 loose mean mg mb s.heap) (hd : A.depth ≤ 560)
    (h : ∀ h' tk, Kp s.heap h' → Q (.bytes x t) { s with heap := h', toks := tk }) : wpAny (model PySem.Challenge.rw_ko0128_01.row.prog w) A (call (.ref 94) [.bytes x t]) Q E s := by
  walk_at "MY enter"
  k_steps
  exact h _ _ (Fr.keep (by k_asm))
theorem fspath_id {x : TB} {v : Value} {h₀ : Heap} (X : (Mine.hd.heap_39 w.params).In h₀) (T : Top Mine.hd.view_39 loose mean mg mb h₀) (hv : RTB v x) : IdCall PySem.Challenge.rw_ko0128_01.row.prog w 560 (.ref 94) h₀ v := by
  intro A s Q E hd hh hk hq
  cases x with
  | t x => obtain ⟨t, rfl⟩ := hv; exact fspath_str (X.keeps hk) (T.keeps hk) hd hq
  | b x => obtain ⟨t, rfl⟩ := hv; exact fspath_bytes (X.keeps hk) (T.keeps hk) hd hq
end
end
section
theorem fill_E18 (w : World) (h : Heap) : PySem.Challenge.rw_ko0128_01.Holds → (Mine.hd.heap_39 w.params).In h → True := by
  w_top off
  k_with_none
  (k_with "MY k_room" => ((try simp only [depth_under_make, depth_under_kw, depth_in1, depth_deeper]); (try unfold recursionLimit); first | exact room_le (by assumption) | exact room_lt (by assumption) | (first | lia | omega)))
  (k_with "MY top" => first | assumption | exact Top.keeps (by assumption) (Fr.keep (by assumption)))
  (k_with "MY enter" => (refine wpAny_call ?_; (refine' enterK ?kzk1z ?kzk2z ?kzk3z ?kzk4z ?kzk5z ?kzk6z ?kzk7z ?_ ?kzk8z ?kzk9z ?kzk10z ?kzk11z; (case kzk1z => assumption); (case kzk2z => assumption); (case kzk3z => k_room); (case kzk4z => k_is); (case kzk5z => k_is); (case kzk6z => first | exact BindsTo.of_eq rfl | exact binds_K (by k_in) rfl (by k_is) rfl rfl rfl); (case kzk7z => exact locs rfl); (case kzk8z => decide); (case kzk9z => exact rfl); (case kzk10z => exact rfl); (case kzk11z => exact rfl); k_whole; intro LZq hZq FZq NZq; (try dsimp only); (try k_fold))))
  (k_with "call type:type" => (k_here; (with_reducible show wpAny _ _ (call (Value.type "type") [Value.bytes _ _]) _ _ _); refine call_type_of (Tx := "bytes") rfl (by decide) ?_))
  (k_with "call builtin:issubclass" => (k_here; refine call_isub (by first | exact .inl rfl | exact .inr rfl) (News.get (by k_asm) (by k_mem)) ?_))
  (k_with "MY same" => (intro y hy; (try dsimp only); repeat (first | exact rfl | (refine (if_neg ?kzhz).trans ?_; (case kzhz => first | (intro e; subst e; exact absurd hy (by decide)) | (intro e; rw [hy] at e; cases e))))))
  (k_with "assign Tuple" => (k_here; (with_reducible show wpAny _ _ (assign (Expr.Tuple _ _ _) _ (Value.ref _)) _ _ _); k_dflt (refine' kun_list ?kzk1z ?kzk2z ?kzk3z ?kzk4z ?kzk5z ?kzk6z ?_; (case kzk1z => k_asm); (case kzk2z => k_asm); (case kzk3z => kun_lst); (case kzk4z => first | exact rfl | assumption); (case kzk5z => exact rfl); (case kzk6z => exact rfl); k_whole); intro hZq FZq NZq; (try k_sweep)))
  (k_with "assign Tuple" => (k_here; (with_reducible show wpAny _ _ (assign (Expr.Tuple _ _ _) _ (Value.ref _)) _ _ _); k_dflt (refine' unpackN_ ?kzk1z ?kzk2z ?kzk3z ?kzk4z ?kzk5z ?kzk6z ?_; (case kzk1z => k_asm); (case kzk2z => k_asm); (case kzk3z => kun_tup); (case kzk4z => first | exact rfl | assumption); (case kzk5z => exact rfl); (case kzk6z => exact rfl); k_whole); intro hZq FZq NZq; (try k_sweep)))
  (k_with "MY hideT" => (refine hide_post (m := execs _ _) ?_; intro kTE kTEh))
  (k_with "MY hideW" => (intro kWT kWZ kWTh kWZh))
  (k_with "MY showT" => (rename Hid (TurnEnd _ _ _ _ _ _ _) _ => kTEh; refine kTEh _ _ ?_))
  (k_with "MY showW" => (rename Hid (WTurn _ _ _ _ _ _) _ => kWTh; refine kWTh _ _ ?_))
  (k_with "MY showZ" => (rename (∀ s : Shared, _ → _) => kWZh; refine kWZh _ ?_))
  (k_with "execs cons" => (k_here; first | (dsimp only; try (rename Fr _ _ _ _ => kFd; dsimp only at kFd)) | (rename Fr _ _ _ _ => kFd; dsimp only at kFd) | k_gentoks | k_made | ((with_reducible refine wpAny_execs_cons ?_); (try dsimp only); (try k_fold))))
  (k_with "MY k_ne" => (refine neN ?_; (try dsimp only); first | assumption | exact Ne.symm (by assumption) | exact Nat.ne_of_lt (Nat.lt_succ_self _) | exact Nat.ne_of_gt (Nat.lt_succ_self _) | exact Nat.ne_of_lt (Nat.lt_succ_of_lt (Nat.lt_succ_self _)) | exact Nat.ne_of_gt (Nat.lt_succ_of_lt (Nat.lt_succ_self _)) | exact Nat.ne_of_gt (by first | assumption | exact at1 (by assumption) | exact at2 (by assumption) | exact at3 (by assumption) | exact at4 (by assumption) | exact at5 (by assumption) | exact at6 (by assumption) | exact at7 (by assumption) | exact at8 (by assumption)) | (first | lia | omega)))
  (k_with "MY back" => (rename Fr _ _ _ _ => kFZq; rename News _ _ _ _ => kNZq; rename Kp _ _ => hkZq; replace kFZq := Fr.grownK kFZq hkZq; replace kNZq := News.grown kNZq hkZq; clear hkZq))
  (k_with "MY prem" => ((case kzXz => k_in); (case kzTz => walk_at "MY top"); (case kzdz => k_room); k_whole))
  (k_with "call ref" => (k_here; (with_reducible show wpAny _ _ (call (Value.ref 94) [Value.str _ _]) _ _ _); refine' fspath_str ?kzXz ?kzTz ?kzdz ?_; walk_at "MY prem"; intro hZq tkZq hkZq; walk_at "MY back"))
  (k_with "call ref" => (k_here; (with_reducible show wpAny _ _ (call (Value.ref 94) [Value.bytes _ _]) _ _ _); refine' fspath_bytes ?kzXz ?kzTz ?kzdz ?_; walk_at "MY prem"; intro hZq tkZq hkZq; walk_at "MY back"))
  (k_with "exec For Name Name cons nil" => (k_here; (rename Fr _ _ _ _ => lFZq); (with_unfolding_all refine' For_invVF lFZq ?kzk1z ?kzk2z ?_; (case kzk1z => exact rfl); (case kzk2z => exact rfl); k_whole)))
  (k_with "exec For Name Call cons nil" => (k_here; (rename Fr _ _ _ _ => lFZq); (with_unfolding_all refine' For_invVF lFZq ?kzk1z ?kzk2z ?_; (case kzk1z => exact rfl); (case kzk2z => exact rfl); k_whole)))
  (k_with "exec For Name Subscript cons nil" => (k_here; (rename Fr _ _ _ _ => lFZq); (with_unfolding_all refine' For_invVF lFZq ?kzk1z ?kzk2z ?_; (case kzk1z => exact rfl); (case kzk2z => exact rfl); k_whole)))
  (k_with "exec For Name IfExp cons nil" => (k_here; (rename Fr _ _ _ _ => lFZq); (with_unfolding_all refine' For_invVF lFZq ?kzk1z ?kzk2z ?_; (case kzk1z => exact rfl); (case kzk2z => exact rfl); k_whole)))
  (k_with "exec While BoolOp cons nil" => (k_here; refine Halt.mk ?_))
  (k_with "exec While Compare cons nil" => (k_here; refine Halt.mk ?_))
  (k_with "MY go" => show wpAny _ _ _ _ _ _)
  (k_with "eval ListComp" => (k_here; k_dflt (refine ListComp_G (F₀ := by k_asm) (by with_unfolding_all rfl) (by decide) (by rfl) (by decide) ?_)))
  (k_with "exec Assign cons ListComp" => (k_here; k_dflt (refine Assign_ListComp_G (F₀ := by k_asm) (by rfl) (by with_unfolding_all rfl) (by with_unfolding_all rfl) (by decide) (by rfl) (by decide) (by rfl) (by rfl) ?_)))
  (k_with "CompAt" => (k_here; refine Halt.mk ?_))
  (k_with "call type:zip" => (k_here; refine Halt.mk ?_))
  (k_with "MY open" => unfold Halt)
  (k_with "call builtin:len" => (k_here; (with_reducible show wpAny _ _ (call (Value.builtin "len") [Value.ref _]) _ _ _); k_dflt (refine' len_any ?kzlz ?kzzz ?_; (case kzlz => kmk_list); (case kzzz => first | assumption | exact Nat.le_of_ble_eq_true rfl))))
  (k_with "subscriptTail Name Name ref int" => (k_here; k_dflt (refine' item_nat ?kzlz ?kzxz ?kzzz ?_; (case kzlz => kmk_list); (case kzxz => assumption); (case kzzz => assumption))))
  (k_with "call type:range" => (k_here; (with_reducible show wpAny _ _ (call _ _) (CompAt _ _ _ _ _ _ _ _ _ _ _ _ _ _) _ _); refine Halt.mk ?_))
  (k_with "binaryOp Add ref ref" => (k_here; k_dflt (refine' add_any ?kzFz ?kzNz ?kzlz ?kzbz ?kzzz ?_; (case kzFz => k_asm); (case kzNz => k_asm); (case kzlz => kmk_list); (case kzbz => kmk_list); (case kzzz => (rw [sizeLine_eq]; (try simp only [List.length_cons, List.length_nil]); first | exact sz_one (by assumption) | exact sz_zero (by assumption) | exact sz_one2 (by assumption) (by assumption) | exact sz_zero2 (by assumption) (by assumption) | exact sz_two (by assumption) (by assumption) | decide | (first | lia | omega)))); intro DZq hZq FZq NZq l1; (try k_lt l1); (try k_sweep)))
  (k_with "call builtin:max" => (k_here; (with_reducible show wpAny _ _ (call (Value.builtin "max") [Value.ref _]) _ _ _); k_dflt (refine' max_list_N ?kzhz ?kzFz ?kzNz ?kzlz ?kziz ?kzzz ?_; (case kzhz => first | assumption | exact rfl); (case kzFz => k_asm); (case kzNz => k_asm); (case kzlz => kmk_list); (case kziz => first | assumption | exact (IntsAre.cons _ _ .nil).append (by assumption) | exact IntsAre.cons _ _ (by assumption)); (case kzzz => simp)); intro hZq MZq tZq tkZq FZq NZq hM1Zq hM2Zq; (try k_sweep)))
  (k_with "call ref" => (k_here; (with_reducible show wpAny _ _ (call (Value.ref 127) [Value.str _ _, Value.int _ _]) _ _ _); (fail_if_success with_reducible show wpAny _ _ (call (Value.ref 127) [Value.str _ _, Value.int 0 _]) _ _ _); (fail_if_success with_reducible show wpAny _ _ (call (Value.ref 127) [Value.str _ _, Value.int 1 _]) _ _ _); refine Halt.mk ?_))
  (k_with "subscriptTail Name UnaryOp ref int" => (k_here; k_dflt (refine' item_last ?kzlz ?kzxz ?kzzz ?_; (case kzlz => kmk_list); (case kzxz => assumption); (case kzzz => assumption))))
  k_fill
  intros; trivial
set_option maxHeartbeats 8000000
noncomputable def strOf (row : List Int) : Str := ⟨(row.map Int.toNat).toArray⟩
theorem glue_fold (rest : List Str) : ∀ acc : Array Nat, (rest.foldl (fun acc p => acc ++ (Str.ofString "").cps ++ p.cps) acc).toList = acc.toList ++ rest.flatMap cpl := by
  have e : (Str.ofString "").cps = #[] := by decide
  induction rest with
  | nil => intro acc; simp
  | cons p r ih => intro acc; rw [List.foldl_cons, ih, e]; simp [cpl]
theorem glue0 (ys : List Str) : cpl (Txt.join (Str.ofString "") ys) = ys.flatMap cpl := by
  show (((ys.drop 1).foldl (fun acc p => acc ++ (Str.ofString "").cps ++ p.cps) (ys.headD Str.empty).cps)).toList = _
  rw [glue_fold]
  cases ys with
  | nil => rfl
  | cons y r => simp [cpl]
theorem glue_row (row : List Int) : Txt.join (Str.ofString "") (row.map fun c => (⟨#[c.toNat]⟩ : Str)) = strOf row := by
  apply cpl_inj
  rw [glue0]
  show _ = row.map Int.toNat
  induction row with
  | nil => rfl
  | cons c r ih => rw [List.map_cons, List.flatMap_cons, ih]; rfl
section
variable {w : World} {A : Around} {mg mb : Str → Option Value} {mean : ExcName → Option Value} {loose : List Str} {s : Shared} {Q : Value → Shared → Prop} {E : Value → Shared → Prop}
theorem made_s {r : Addr} {vs : List Value} {row : List Int} {u : Tok} (X : (Mine.hd.heap_39 w.params).In s.heap) (T : Top Mine.hd.view_39 loose mean mg mb s.heap) (hd : A.depth ≤ 560) (hh : A.handled = none)
    (hr : s.heap.IsList r vs.toArray) (hi : IntsAre vs row) (hrow : ∀ c ∈ row, Cp c) (hlen : row.length ≤ 1000)
    (h : ∀ h' tk v, Kp s.heap h' → VC false v (row.map Int.toNat) → Q v { s with heap := h', toks := tk }) : wpAny (model PySem.Challenge.rw_ko0128_01.row.prog w) A (call (.ref 118) [.ref r, .int 0 u]) Q E s := by
  walk_at "MY enter"
  k_steps
  walk_at "MY open"
  rename Fr _ _ _ _ => F1
  rename News _ _ _ _ => N1
  refine src_listS (vs := vs) (fun n0 i ys nx => nx = n0 ∧ StrsAre ys ((row.take i).map fun c => (⟨#[c.toNat]⟩ : Str))) hh F1 N1 (hr.at fun o e => F1.keep _ o e) ?_ (by rw [hi.length]; exact le_size hlen) rfl rfl ⟨rfl, .nil⟩ ?_ ?_
  · obtain ⟨o, e, _⟩ := hr; exact fun q => by rw [q] at e; rw [fr_none F1] at e; cases e
  · rintro I i v C oC D m₂ h₂ tk own ys nx E' hv ⟨rfl, hys⟩ hm hC F₂ N₂ hoff _ hCD
    obtain ⟨n, t, rfl, hn⟩ := ints_item hi hv
    have hc := hrow n (List.mem_of_getElem? hn)
    have hc1 := hc.1
    have hc2 := hc.2
    refine tests0 ?_
    k_steps
    exact ⟨_, _, _, rfl, by k_asm, by k_asm, hoff, rfl, strs_step hn hys rfl⟩
  rintro g tk ys nx ⟨rfl, hys⟩ D h₂ tk₂ F₂ N₂ hoff
  rw [List.take_of_length_le (by rw [hi.length]; exact Nat.le_refl _)] at hys
  clear F1 N1
  k_steps
  have hw : ∀ l : List Int, ((l.map fun c => (⟨#[c.toNat]⟩ : Str)).map (·.length)).sum = l.length := fun l => by
    induction l with
    | nil => rfl
    | cons c r ih => rw [List.map_cons, List.map_cons, List.sum_cons, ih, List.length_cons]; show 1 + r.length = _; (first | lia | omega)
  refine join_listW (News.isList N₂ (.head _)) (by simpa using hys) (by decide) (by rw [hw, List.length_map]; (first | lia | omega)) fun t' k => ?_
  k_steps
  rw [glue_row]
  exact h _ _ _ F₂.keep ⟨_, _, rfl, rfl⟩
theorem made_b {r : Addr} {vs : List Value} {row : List Int} {u : Tok} (X : (Mine.hd.heap_39 w.params).In s.heap) (T : Top Mine.hd.view_39 loose mean mg mb s.heap) (hd : A.depth ≤ 560) (hh : A.handled = none)
    (hr : s.heap.IsList r vs.toArray) (hi : IntsAre vs row) (hrow : ∀ c ∈ row, 0 ≤ c ∧ c < 256) (hlen : row.length ≤ 1000)
    (h : ∀ h' tk v, Kp s.heap h' → VC true v (row.map Int.toNat) → Q v { s with heap := h', toks := tk }) : wpAny (model PySem.Challenge.rw_ko0128_01.row.prog w) A (call (.ref 118) [.ref r, .int 1 u]) Q E s := by
  walk_at "MY enter"
  k_steps
  rename Fr _ _ _ _ => F1
  refine call_bytes_ints (vs := vs) (hr.at fun o e => F1.keep _ o e) hi ?_ (by rw [hi.length]; exact le_size hlen) hh fun h' t' k hk => ?_
  · intro n hn
    have := hrow n hn
    (first | lia | omega)
  · k_steps
    refine h _ _ _ (Kp.trans F1.keep hk) ⟨_, _, rfl, ?_⟩
    rw [nats, byteArr, List.toList_toArray, List.map_map]
    refine List.map_congr_left fun c hc => ?_
    have := hrow c hc
    show ((c.toNat.toUInt8).toNat : Nat) = _
    simp
    (first | lia | omega)
theorem made_any {r : Addr} {vs : List Value} {row : List Int} {u : Tok} {kd : Int} (X : (Mine.hd.heap_39 w.params).In s.heap) (T : Top Mine.hd.view_39 loose mean mg mb s.heap) (hd : A.depth ≤ 560) (hh : A.handled = none)
    (hr : s.heap.IsList r vs.toArray) (hi : IntsAre vs row) (hk : kd = 0 ∨ kd = 1) (hrow : ∀ c ∈ row, Cp c) (hrow1 : kd = 1 → ∀ c ∈ row, c < 256) (hlen : row.length ≤ 1000)
    (h : ∀ h' tk v, Kp s.heap h' → VC (kd == 1) v (row.map Int.toNat) → Q v { s with heap := h', toks := tk }) : wpAny (model PySem.Challenge.rw_ko0128_01.row.prog w) A (call (.ref 118) [.ref r, .int kd u]) Q E s := by
  rcases hk with rfl | rfl
  · exact made_s X T hd hh hr hi hrow hlen h
  · exact made_b X T hd hh hr hi (fun c hc => ⟨by have := (hrow c hc).1; (first | lia | omega), hrow1 rfl c hc⟩) hlen h
end
end
section
theorem fill_E20 (w : World) (h : Heap) : PySem.Challenge.rw_ko0128_01.Holds → (Mine.hd.heap_39 w.params).In h → True := by
  w_top off
  k_with_none
  (k_with "MY k_room" => ((try simp only [depth_under_make, depth_under_kw, depth_in1, depth_deeper]); (try unfold recursionLimit); first | exact room_le (by assumption) | exact room_lt (by assumption) | (first | lia | omega)))
  (k_with "MY top" => first | assumption | exact Top.keeps (by assumption) (Fr.keep (by assumption)))
  (k_with "MY enter" => (refine wpAny_call ?_; (refine' enterK ?kzk1z ?kzk2z ?kzk3z ?kzk4z ?kzk5z ?kzk6z ?kzk7z ?_ ?kzk8z ?kzk9z ?kzk10z ?kzk11z; (case kzk1z => assumption); (case kzk2z => assumption); (case kzk3z => k_room); (case kzk4z => k_is); (case kzk5z => k_is); (case kzk6z => first | exact BindsTo.of_eq rfl | exact binds_K (by k_in) rfl (by k_is) rfl rfl rfl); (case kzk7z => exact locs rfl); (case kzk8z => decide); (case kzk9z => exact rfl); (case kzk10z => exact rfl); (case kzk11z => exact rfl); k_whole; intro LZq hZq FZq NZq; (try dsimp only); (try k_fold))))
  (k_with "call type:type" => (k_here; (with_reducible show wpAny _ _ (call (Value.type "type") [Value.bytes _ _]) _ _ _); refine call_type_of (Tx := "bytes") rfl (by decide) ?_))
  (k_with "call builtin:issubclass" => (k_here; refine call_isub (by first | exact .inl rfl | exact .inr rfl) (News.get (by k_asm) (by k_mem)) ?_))
  (k_with "MY same" => (intro y hy; (try dsimp only); repeat (first | exact rfl | (refine (if_neg ?kzhz).trans ?_; (case kzhz => first | (intro e; subst e; exact absurd hy (by decide)) | (intro e; rw [hy] at e; cases e))))))
  (k_with "assign Tuple" => (k_here; (with_reducible show wpAny _ _ (assign (Expr.Tuple _ _ _) _ (Value.ref _)) _ _ _); k_dflt (refine' kun_list ?kzk1z ?kzk2z ?kzk3z ?kzk4z ?kzk5z ?kzk6z ?_; (case kzk1z => k_asm); (case kzk2z => k_asm); (case kzk3z => kun_lst); (case kzk4z => first | exact rfl | assumption); (case kzk5z => exact rfl); (case kzk6z => exact rfl); k_whole); intro hZq FZq NZq; (try k_sweep)))
  (k_with "assign Tuple" => (k_here; (with_reducible show wpAny _ _ (assign (Expr.Tuple _ _ _) _ (Value.ref _)) _ _ _); k_dflt (refine' unpackN_ ?kzk1z ?kzk2z ?kzk3z ?kzk4z ?kzk5z ?kzk6z ?_; (case kzk1z => k_asm); (case kzk2z => k_asm); (case kzk3z => kun_tup); (case kzk4z => first | exact rfl | assumption); (case kzk5z => exact rfl); (case kzk6z => exact rfl); k_whole); intro hZq FZq NZq; (try k_sweep)))
  (k_with "MY hideT" => (refine hide_post (m := execs _ _) ?_; intro kTE kTEh))
  (k_with "MY hideW" => (intro kWT kWZ kWTh kWZh))
  (k_with "MY showT" => (rename Hid (TurnEnd _ _ _ _ _ _ _) _ => kTEh; refine kTEh _ _ ?_))
  (k_with "MY showW" => (rename Hid (WTurn _ _ _ _ _ _) _ => kWTh; refine kWTh _ _ ?_))
  (k_with "MY showZ" => (rename (∀ s : Shared, _ → _) => kWZh; refine kWZh _ ?_))
  (k_with "execs cons" => (k_here; first | (dsimp only; try (rename Fr _ _ _ _ => kFd; dsimp only at kFd)) | (rename Fr _ _ _ _ => kFd; dsimp only at kFd) | k_gentoks | k_made | ((with_reducible refine wpAny_execs_cons ?_); (try dsimp only); (try k_fold))))
  (k_with "MY k_ne" => (refine neN ?_; (try dsimp only); first | assumption | exact Ne.symm (by assumption) | exact Nat.ne_of_lt (Nat.lt_succ_self _) | exact Nat.ne_of_gt (Nat.lt_succ_self _) | exact Nat.ne_of_lt (Nat.lt_succ_of_lt (Nat.lt_succ_self _)) | exact Nat.ne_of_gt (Nat.lt_succ_of_lt (Nat.lt_succ_self _)) | exact Nat.ne_of_gt (by first | assumption | exact at1 (by assumption) | exact at2 (by assumption) | exact at3 (by assumption) | exact at4 (by assumption) | exact at5 (by assumption) | exact at6 (by assumption) | exact at7 (by assumption) | exact at8 (by assumption)) | (first | lia | omega)))
  (k_with "MY back" => (rename Fr _ _ _ _ => kFZq; rename News _ _ _ _ => kNZq; rename Kp _ _ => hkZq; replace kFZq := Fr.grownK kFZq hkZq; replace kNZq := News.grown kNZq hkZq; clear hkZq))
  (k_with "MY prem" => ((case kzXz => k_in); (case kzTz => walk_at "MY top"); (case kzdz => k_room); k_whole))
  (k_with "call ref" => (k_here; (with_reducible show wpAny _ _ (call (Value.ref 94) [Value.str _ _]) _ _ _); refine' fspath_str ?kzXz ?kzTz ?kzdz ?_; walk_at "MY prem"; intro hZq tkZq hkZq; walk_at "MY back"))
  (k_with "call ref" => (k_here; (with_reducible show wpAny _ _ (call (Value.ref 94) [Value.bytes _ _]) _ _ _); refine' fspath_bytes ?kzXz ?kzTz ?kzdz ?_; walk_at "MY prem"; intro hZq tkZq hkZq; walk_at "MY back"))
  (k_with "exec For Name Name cons nil" => (k_here; (rename Fr _ _ _ _ => lFZq); (with_unfolding_all refine' For_invVF lFZq ?kzk1z ?kzk2z ?_; (case kzk1z => exact rfl); (case kzk2z => exact rfl); k_whole)))
  (k_with "exec For Name Call cons nil" => (k_here; (rename Fr _ _ _ _ => lFZq); (with_unfolding_all refine' For_invVF lFZq ?kzk1z ?kzk2z ?_; (case kzk1z => exact rfl); (case kzk2z => exact rfl); k_whole)))
  (k_with "exec For Name Subscript cons nil" => (k_here; (rename Fr _ _ _ _ => lFZq); (with_unfolding_all refine' For_invVF lFZq ?kzk1z ?kzk2z ?_; (case kzk1z => exact rfl); (case kzk2z => exact rfl); k_whole)))
  (k_with "exec For Name IfExp cons nil" => (k_here; (rename Fr _ _ _ _ => lFZq); (with_unfolding_all refine' For_invVF lFZq ?kzk1z ?kzk2z ?_; (case kzk1z => exact rfl); (case kzk2z => exact rfl); k_whole)))
  (k_with "exec While BoolOp cons nil" => (k_here; refine Halt.mk ?_))
  (k_with "exec While Compare cons nil" => (k_here; refine Halt.mk ?_))
  (k_with "MY go" => show wpAny _ _ _ _ _ _)
  (k_with "eval ListComp" => (k_here; k_dflt (refine ListComp_G (F₀ := by k_asm) (by with_unfolding_all rfl) (by decide) (by rfl) (by decide) ?_)))
  (k_with "exec Assign cons ListComp" => (k_here; k_dflt (refine Assign_ListComp_G (F₀ := by k_asm) (by rfl) (by with_unfolding_all rfl) (by with_unfolding_all rfl) (by decide) (by rfl) (by decide) (by rfl) (by rfl) ?_)))
  (k_with "CompAt" => (k_here; refine Halt.mk ?_))
  (k_with "call type:zip" => (k_here; refine Halt.mk ?_))
  (k_with "MY open" => unfold Halt)
  (k_with "call builtin:len" => (k_here; (with_reducible show wpAny _ _ (call (Value.builtin "len") [Value.ref _]) _ _ _); k_dflt (refine' len_any ?kzlz ?kzzz ?_; (case kzlz => kmk_list); (case kzzz => first | assumption | exact Nat.le_of_ble_eq_true rfl))))
  (k_with "subscriptTail Name Name ref int" => (k_here; k_dflt (refine' item_nat ?kzlz ?kzxz ?kzzz ?_; (case kzlz => kmk_list); (case kzxz => assumption); (case kzzz => assumption))))
  (k_with "call type:range" => (k_here; (with_reducible show wpAny _ _ (call _ _) (CompAt _ _ _ _ _ _ _ _ _ _ _ _ _ _) _ _); refine Halt.mk ?_))
  (k_with "binaryOp Add ref ref" => (k_here; k_dflt (refine' add_any ?kzFz ?kzNz ?kzlz ?kzbz ?kzzz ?_; (case kzFz => k_asm); (case kzNz => k_asm); (case kzlz => kmk_list); (case kzbz => kmk_list); (case kzzz => (rw [sizeLine_eq]; (try simp only [List.length_cons, List.length_nil]); first | exact sz_one (by assumption) | exact sz_zero (by assumption) | exact sz_one2 (by assumption) (by assumption) | exact sz_zero2 (by assumption) (by assumption) | exact sz_two (by assumption) (by assumption) | decide | (first | lia | omega)))); intro DZq hZq FZq NZq l1; (try k_lt l1); (try k_sweep)))
  (k_with "call builtin:max" => (k_here; (with_reducible show wpAny _ _ (call (Value.builtin "max") [Value.ref _]) _ _ _); k_dflt (refine' max_list_N ?kzhz ?kzFz ?kzNz ?kzlz ?kziz ?kzzz ?_; (case kzhz => first | assumption | exact rfl); (case kzFz => k_asm); (case kzNz => k_asm); (case kzlz => kmk_list); (case kziz => first | assumption | exact (IntsAre.cons _ _ .nil).append (by assumption) | exact IntsAre.cons _ _ (by assumption)); (case kzzz => simp)); intro hZq MZq tZq tkZq FZq NZq hM1Zq hM2Zq; (try k_sweep)))
  (k_with "call ref" => (k_here; (with_reducible show wpAny _ _ (call (Value.ref 127) [Value.str _ _, Value.int _ _]) _ _ _); (fail_if_success with_reducible show wpAny _ _ (call (Value.ref 127) [Value.str _ _, Value.int 0 _]) _ _ _); (fail_if_success with_reducible show wpAny _ _ (call (Value.ref 127) [Value.str _ _, Value.int 1 _]) _ _ _); refine Halt.mk ?_))
  (k_with "subscriptTail Name UnaryOp ref int" => (k_here; k_dflt (refine' item_last ?kzlz ?kzxz ?kzzz ?_; (case kzlz => kmk_list); (case kzxz => assumption); (case kzzz => assumption))))
  (k_with "subscriptTail Name Slice ref ref" => (k_here; (with_reducible show wpAny _ _ (subscriptTail _ (PySem.Expr.Slice _ _ none _) (Value.ref _) (Value.ref _)) _ _ _); k_dflt (refine' slice_any ?kzFz ?kzNz ?kzlz ?kzpz ?kzqz ?_ ?kzsz ?kztz ?kzzz; (case kzFz => k_asm); (case kzNz => k_asm); (case kzlz => kmk_list); (case kzpz => kmk_part); (case kzqz => kmk_part); (case kzsz => with_unfolding_all rfl); (case kztz => kmk_pure); (case kzzz => first | assumption | exact Nat.le_of_ble_eq_true rfl)); intro DZq hZq FZq NZq l1; (try simp only [pick_tail1] at NZq); (try k_lt l1); (try k_sweep)))
  (k_with "MY k_all" => assumption)
  (k_with "MY k_mem" => first | assumption | (refine List.mem_append_right _ ?_; k_mem) | exact List.mem_append_left _ (by assumption))
  (k_with "subscriptTail Name Constant ref int" => (k_here; k_dflt (refine' item_zero ?kzlz ?_; (case kzlz => kmk_list))))
  (k_with "compareOp Eq ref ref" => (k_here; first | k_dflt (refine' ke_eq_ints ?kzaz ?kzbz ?kziz ?kzjz ?kzuz ?_; (case kzaz => kmk_list); (case kzbz => kmk_list); (case kziz => first | assumption | exact IntsAre.nil); (case kzjz => first | assumption | exact IntsAre.nil); (case kzuz => (simp only [units_in1, units_deeper, Around.mark_units]; rw [show cLine = 9900 from rfl]; first | exact units64 (by assumption) | exact units1 (by assumption) | (first | lia | omega)))) | refine Halt.mk ?_))
  (k_with "call builtin:list.append" => (k_here; refine Halt.mk ?_))
  (k_with "call type:list" => (k_here; (with_reducible show wpAny _ _ (call (Value.type "list") [Value.bytes _ _]) _ _ _); refine Halt.mk ?_))
  (k_with "unpackItems ref" => (k_here; k_dflt (refine' unpackItemsN_ ?kzk1z ?kzk2z ?kzk3z ?kzk4z ?kzk5z ?_; (case kzk1z => k_asm); (case kzk2z => k_asm); (case kzk3z => kun_tup); (case kzk4z => first | exact rfl | assumption); (case kzk5z => exact rfl); k_whole); intro hZq FZq NZq; (try k_sweep)))
  (k_with "exec If" => (k_here; rename MergeMark => kMM; clear kMM; refine Halt.mk ?_))
  (k_with "exec Expr" => (k_here; rename MergeExpr => kME; clear kME; refine Halt.mk ?_))
  (k_with "subscriptTail Name Constant ref int" => (k_here; k_dflt (refine' item_first ?kzlz ?kzxz ?_; (case kzlz => kmk_list); (case kzxz => assumption))))
  (k_with "call builtin:sum" => (k_here; k_dflt (refine' LSm.sum_ints ?kzfz ?kznz ?kzhz ?kzlz ?kziz ?_; (case kzfz => k_asm); (case kznz => k_asm); (case kzhz => first | assumption | exact rfl); (case kzlz => kmk_list); (case kziz => assumption)); intro hZq tkZq tZq FZq NZq; (try k_sweep)))
  (k_with "compareOp NotEq ref ref" => (k_here; first | k_dflt (refine' ke_ne_ints ?kzaz ?kzbz ?kziz ?kzjz ?kzuz ?_; (case kzaz => kmk_list); (case kzbz => kmk_list); (case kziz => first | assumption | exact IntsAre.nil); (case kzjz => first | assumption | exact IntsAre.nil | exact IntsAre.cons _ _ IntsAre.nil); (case kzuz => (simp only [units_in1, units_deeper, Around.mark_units]; rw [show cLine = 9900 from rfl]; first | exact units64 (by assumption) | exact units1 (by assumption) | (first | lia | omega)))) | k_dflt (refine' ne_rows_some ?kznz ?kzaz ?kzraz ?kzbz ?kzuz ?_; (case kznz => k_asm); (case kzaz => k_mem); (case kzbz => k_mem); (case kzraz => exact Rows.sub (by assumption) (fun p hp => by repeat (first | exact hp | refine List.Mem.tail _ ?_ | refine List.mem_append_right _ ?_))); (case kzuz => (simp only [units_in1, units_deeper, Around.mark_units]; rw [show cLine = 9900 from rfl]; first | exact units64 (by assumption) | exact units1 (by assumption) | (first | lia | omega))))))
  (k_with "compareOp Eq ref ref" => (k_here; first | k_dflt (refine' ke_eq_ints ?kzaz ?kzbz ?kziz ?kzjz ?kzuz ?_; (case kzaz => kmk_list); (case kzbz => kmk_list); (case kziz => first | assumption | exact IntsAre.nil); (case kzjz => first | assumption | exact IntsAre.nil | exact IntsAre.cons _ _ IntsAre.nil); (case kzuz => (simp only [units_in1, units_deeper, Around.mark_units]; rw [show cLine = 9900 from rfl]; first | exact units64 (by assumption) | exact units1 (by assumption) | (first | lia | omega)))) | k_dflt (refine' eq_rows_some ?kznz ?kzaz ?kzraz ?kzbz ?kzuz ?_; (case kznz => k_asm); (case kzaz => k_mem); (case kzbz => k_mem); (case kzraz => exact Rows.sub (by assumption) (fun p hp => by repeat (first | exact hp | refine List.Mem.tail _ ?_ | refine List.mem_append_right _ ?_))); (case kzuz => (simp only [units_in1, units_deeper, Around.mark_units]; rw [show cLine = 9900 from rfl]; first | exact units64 (by assumption) | exact units1 (by assumption) | (first | lia | omega))))))
  (k_with "eval BinOp" => (k_here; k_fold))
  (k_with "eval Call Attribute" => (k_here; k_fold))
  (k_with "eval IfExp" => (k_here; k_fold))
  (k_with "eval Subscript" => (k_here; k_fold))
  (k_with "isTrue BoolOp" => (k_here; k_fold))
  (k_with "isTrue Compare" => (k_here; k_fold))
  (k_with "eval List" => (k_here; k_fold))
  (k_with "eval Tuple" => (k_here; k_fold))
  k_fill
  intros; trivial
set_option maxHeartbeats 8000000
theorem fmod2 (n : Int) : n.fmod 2 = 0 ∨ n.fmod 2 = 1 := by
  have h0 : 0 ≤ n.fmod 2 := Int.fmod_nonneg_of_pos _ (by decide)
  have h1 : n.fmod 2 < 2 := Int.fmod_lt_of_pos _ (by decide)
  (first | lia | omega)
inductive J20z (P Kd : Addr) (z : Int) (m : MapS) (nx : List (Addr × Obj)) : Prop
  | mk {tz : Tok} {rs : List (List Int)} {ks : List Int} (hP : m "rows" = some (.ref P)) (hK : m "kinds" = some (.ref Kd)) (hz : m "size" = some (.int z tz)) (hst : PS1 P Kd nx rs ks) (hg : PG rs ks (3 * z)) (h0 : 0 ≤ z) (h4 : z ≤ 40)
inductive J20e (P Kd : Addr) (m : MapS) (nx : List (Addr × Obj)) : Prop
  | mk {z : Int} (h : J20z P Kd z m nx)
inductive J20w (P Kd I : Addr) (oI : Obj) (k : Nat) (m : MapS) (l : List (Addr × Obj)) : Prop
  | mk {nx : List (Addr × Obj)} {x : Int} {tx : Tok} {z : Int} (hl : l = (I, oI) :: nx) (off : ∀ p ∈ nx, p.1 ≠ I) (gx : m "x" = some (.int x tx)) (h : J20z P Kd z m nx) (hk : k = (40 - z).toNat)
inductive J20f (P Kd I : Addr) (oI : Obj) (m : MapS) (l : List (Addr × Obj)) : Prop
  | mk {nx : List (Addr × Obj)} (hl : l = (I, oI) :: nx) (off : ∀ p ∈ nx, p.1 ≠ I) (h : J20e P Kd m nx)
inductive M20 (P Kd I : Addr) (oI : Obj) (b : Int) (l : List (Addr × Obj)) : Prop
  | mk {nx : List (Addr × Obj)} {rs : List (List Int)} {r ks : List Int} (hl : l = (I, oI) :: nx) (off : ∀ p ∈ nx, p.1 ≠ I) (hst : PSt P Kd nx rs r ks) (hg : PG (rs ++ [r]) ks b)
inductive M20r (P Kd I : Addr) (oI : Obj) (rs : List (List Int)) (ks : List Int) (l : List (Addr × Obj)) : Prop
  | mk {nx : List (Addr × Obj)} {r : List Int} (hl : l = (I, oI) :: nx) (off : ∀ p ∈ nx, p.1 ≠ I) (hst : PSt P Kd nx rs r ks) (hr : r = [] ∨ r = [47])
theorem snoc_len (rs : List (List Int)) (r : List Int) : rs.length + 1 = (rs ++ [r]).length := by rw [List.length_append]; rfl
theorem pg_small {rs : List (List Int)} {ks : List Int} {z : Int} (g : PG rs ks (3 * z)) (h : z ≤ 40) : lensL rs ≤ 1000 := by have := g.size; (first | lia | omega)
theorem pg_small2 {rs : List (List Int)} {ks : List Int} {z : Int} (g : PG rs ks (3 * z + 2)) (h : z ≤ 40) : lensL rs ≤ 1000 := by have := g.size; (first | lia | omega)
theorem cp_sign1 {c : Int} (h0 : 0 ≤ c) (h1 : c < 1112063) : Cp (c + 1) := ⟨by (first | lia | omega), by (first | lia | omega)⟩
theorem cp_sign2 {c : Int} (h0 : 0 ≤ c) (h1 : c < 1112063) : Cp (c + 2049) := ⟨by (first | lia | omega), by (first | lia | omega)⟩
theorem size_less {z : Int} (h : z < 40) : (40 - (z + 1)).toNat < (40 - z).toNat := by (first | lia | omega)
theorem size_all {z : Int} (h : z ≤ 40) : 3 * z ≤ 120 := by (first | lia | omega)
section
variable {w : World} {A : Around} {mg mb : Str → Option Value} {mean : ExcName → Option Value} {loose : List Str} {s : Shared} {Q : Value → Shared → Prop} {E : Value → Shared → Prop}
theorem law_paths {Ls : Addr} {svs : List Value} {ns : List Int} (X : (Mine.hd.heap_39 w.params).In s.heap) (T : Top Mine.hd.view_39 loose mean mg mb s.heap) (hd : A.depth ≤ 560) (hh : A.handled = none) (hu : A.units ≤ 5000)
    (hl : s.heap.IsList Ls svs.toArray) (hi : IntsAre svs ns) (hlen : ns.length ≤ 63)
    (h : ∀ h' tk D P Kd vs kvs c c' nx rs ks, Kp s.heap h' → (∀ p ∈ (D, ({ cls := .type "tuple", data := .seq #[.ref P, .ref Kd] } : Obj)) :: (Kd, lobj kvs c') :: (P, lobj vs c) :: nx, h'.get? p.1 = some p.2 ∧ s.heap.get? p.1 = none) → Rows nx vs rs → IntsAre kvs ks → PG rs ks 120 → Q (.ref D) { s with heap := h', toks := tk }) : wpAny (model PySem.Challenge.rw_ko0128_01.row.prog w) A (call (.ref 113) [.ref Ls]) Q E s := by
  walk_at "MY enter"
  k_steps
  rename Fr _ _ _ _ => F1
  rename News _ _ _ _ => N1
  obtain ⟨P, eP⟩ := fr_at F1 "rows" rfl
  subst eP
  obtain ⟨Kd, eK⟩ := fr_at F1 "kinds" rfl
  subst eK
  have hLL : Ls ≠ _ := fun q => by obtain ⟨o, e, _⟩ := hl; rw [q] at e; exact nomatch (fr_none F1).symm.trans e
  try dsimp only
  refine for_listB (vs := svs) (fun _ => J20e P Kd) hh F1 (led1 N1) rfl hl hLL (.mk (.mk (z := 0) rfl rfl rfl (.none rfl rfl 0 0 rfl (by k_ne)) PG.start (by decide) (by decide))) ?_ ?_
  · intro I oI i v m1 nx h1 tk1 K hv hnx hJ F3 N3 hK
    obtain @⟨z, hJ⟩ := hJ
    obtain @⟨tz, rs, ks, hP, hKd, hz, hst, hg, hz0, hz4⟩ := hJ
    obtain ⟨n, t, rfl, hn⟩ := ints_item hi hv
    rw [map3k hz hP hKd] at F3
    clear F1 N1
    k_steps
    walk_at "MY go"
    rename Fr _ _ _ _ => F4
    rename News _ _ _ _ => N4
    try dsimp only
    refine while_invK (J20w P Kd I oI) (J20f P Kd I oI) _ F4 N4 (.mk rfl hnx rfl (.mk rfl rfl rfl hst hg hz0 hz4) rfl) ?_ ?_
    · clear hst hg hz hnx hP hKd F4 N4 hz0 hz4 hK
      intro k mw nw hw tkw K Z hJ F4 N4 hK hB hZ
      obtain @⟨nx, x, tx, z, rfl, hnI, gx, hJ, rfl⟩ := hJ
      obtain @⟨tz, rs, ks, gP, gK, gz, hst, hg, hz0, hz4⟩ := hJ
      rw [map4k gx gz gP gK] at F4
      have kMM := MergeMark.mk
      k_steps
      · walk_at "MY open"
        rename Fr _ _ _ _ => F5
        rename News _ _ _ _ => N5
        have N5' := led1 N5
        clear N5
        rename (z < 40) => hz40
        obtain ⟨ts, tk5, tc, tx5, m5, F5⟩ := fr_six (a := "size") (b := "kind") (c := "c") (d := "x") (e := "rows") (f := "kinds") F5 rfl rfl rfl rfl rfl rfl
        refine exec_mergeJ F5 (M20 P Kd I oI (3 * z + 2)) ?_ ?_
        · intro K' hK'
          rcases hst with ⟨rfl, rfl, c1, c3, rfl, dPK⟩ | ⟨rs', r, rfl, hst⟩
          · have hoP : ∀ q ∈ [(_, lobj [] c3), (_, lobj [] c1)], ∀ p ∈ [(I, oI)], p.1 ≠ q.1 := fun q hq p hp => by
              rw [List.mem_singleton.mp hp]; exact Ne.symm (hnI q hq)
            have hk0 : IntsAre (kms_pick [] (some (-1)) none) [] := by simp only [kms_pick, List.drop_nil, List.take_nil]; exact .nil
            have hz0' : ([] : List Value).length ≤ sizeLine := le_size (k := 0) (by simp)
            k_steps
            all_goals (
              walk_at "MY open"
              rename Fr _ _ _ _ => F7
              rename News _ _ _ _ => N7
              rename (_ < _ ∧ _) => lt7
              first | have ltn := lt_three (a := (I, oI)) (b := (Kd, lobj [] c3)) (c := (P, lobj [] c1)) lt7 | have ltn := lt_three (a := (I, oI)) (b := (Kd, lobj [] c3)) (c := (P, lobj [] c1)) lt7.2 | have ltn := lt_three (a := (I, oI)) (b := (Kd, lobj [] c3)) (c := (P, lobj [] c1)) lt7.2.2 | have ltn := lt_three (a := (I, oI)) (b := (Kd, lobj [] c3)) (c := (P, lobj [] c1)) lt7.2.2.2
              refine append_led F7 N7 (by k_mem) (le_size (k := 0) (by simp)) fun h5 k5 F8 hP8 hk8 => ?_
              have hnI2 := Nat.ne_of_gt (ltn (I, oI) (.head _))
              have dPn := Nat.ne_of_lt (ltn (P, lobj [] c1) (.tail _ (.tail _ (.head _))))
              have dnK := Nat.ne_of_gt (ltn (Kd, lobj [] c3) (.tail _ (.head _)))
              first | have N8 := st_first (own := [(I, oI)]) N7 hP8 hk8 ltn (hoP _ (.tail _ (.head _))) dPK | have N8 := st_first (own := [(I, oI)]) (led_drop2 N7) hP8 hk8 ltn (hoP _ (.tail _ (.head _))) dPK | have N8 := st_first (own := [(I, oI)]) (led_drop2 (led_drop2 N7)) hP8 hk8 ltn (hoP _ (.tail _ (.head _))) dPK | have N8 := st_first (own := [(I, oI)]) (led_drop2 (led_drop2 (led_drop2 N7))) hP8 hk8 ltn (hoP _ (.tail _ (.head _))) dPK
              clear F7 N7
              k_steps)
            all_goals (
              walk_at "MY open"
              rename Fr _ _ _ _ => F9
              rename News _ _ _ _ => N9
              refine append_led F9 N9 (by repeat (first | exact List.mem_append_right _ (.head _) | refine List.Mem.tail _ ?_)) (le_size (k := 0) (by simp)) fun h6 k6 F10 hP10 hk10 => ?_
              first | have N10 := st_kind (own := [(I, oI)]) N9 hP10 hk10 (hoP _ (.head _)) (off_two dPK dnK) | have N10 := st_kind (own := [(I, oI)]) (led1 N9) hP10 hk10 (hoP _ (.head _)) (off_two dPK dnK) | have N10 := st_kind (own := [(I, oI)]) (led1 (led1 N9)) hP10 hk10 (hoP _ (.head _)) (off_two dPK dnK) | have N10 := st_kind (own := [(I, oI)]) (led1 (led1 (led1 N9))) hP10 hk10 (hoP _ (.head _)) (off_two dPK dnK)
              clear F9 N9
              k_steps
              exact hK' _ _ _ (by k_asm) N10 (.mk rfl (off_first (Z := fun b => b ≠ I) hnI hnI2) (pst_first .nil (.cons _ _ .nil) dPn dPK dnK) (hg.row (by first | exact .inl rfl | exact fmod2 _) (.inl rfl))))
          · obtain ⟨vs, a, zs, kvs, c1, c2, c3, rest, rfl, hr, hz, hk, hd, d1, d2, d3⟩ := hst
            have hoP : ∀ q ∈ (Kd, lobj kvs c3) :: (P, lobj (vs ++ [Value.ref a]) c1) :: (a, lobj zs c2) :: rest, ∀ p ∈ [(I, oI)], p.1 ≠ q.1 := fun q hq p hp => by
              rw [List.mem_singleton.mp hp]; exact Ne.symm (hnI q hq)
            have hgs := hg.size
            have hgl := hg.len
            have hlr := lensL_ge (rs' ++ [r])
            have hL := pg_small hg hz4
            have hvl : (vs ++ [Value.ref a]).length ≤ sizeLine := le_size (k := 1000) (by rw [List.length_append, hr.1]; exact Nat.le_trans (Nat.le_of_eq (snoc_len rs' r)) (Nat.le_trans hlr hL))
            have hkl : kvs.length ≤ sizeLine := le_size (k := 1000) (by rw [hk.length, hgl]; exact Nat.le_trans hlr hL)
            obtain ⟨ms, hms⟩ := ints_pick hk (some (-1)) none
            have hall : Rows ((a, lobj zs c2) :: rest) (vs ++ [Value.ref a]) (rs' ++ [r]) := alsnoc (hr.sub fun p hp => .tail _ hp) ⟨a, c2, zs, rfl, .head _, hz⟩
            have h0l : 0 < (vs ++ [Value.ref a]).length := by simp
            obtain ⟨d0, hd0, b, cb, us, hvb, hbm, hus⟩ := hall.2 0 _ (List.getElem?_eq_getElem h0l)
            have hv0 := List.getElem?_eq_getElem h0l
            rw [hvb] at hv0
            have hus1 := ints_pick1 hus
            have hul : us.length ≤ sizeLine := le_size (k := 1000) (by rw [hus.length]; exact Nat.le_trans (row_len2 (List.mem_of_getElem? hd0)) hL)
            have hbm2 : (b, lobj us cb) ∈ (Kd, lobj kvs c3) :: (P, lobj (vs ++ [Value.ref a]) c1) :: (a, lobj zs c2) :: rest := .tail _ (.tail _ hbm)
            have kME := MergeExpr.mk
            k_steps
            rotate_left 1
            · rename News _ _ _ _ => N7
              exact hK' _ _ _ (by k_asm) (by first | exact N7 | exact led1 N7 | exact led1 (led1 N7)) (.mk rfl hnI ⟨vs, a, zs, kvs, c1, c2, c3, rest, rfl, hr, hz, hk, hd, d1, d2, d3⟩ (hg.mono (Int.le_add_of_nonneg_right (by decide))))
            walk_at "MY open"
            rename Fr _ _ _ _ => F6
            refine exec_mergeJ F6 (M20r P Kd I oI (rs' ++ [r]) ks) ?_ ?_
            · intro K6 hK6
              k_steps
              all_goals (
                walk_at "MY open"
                rename Fr _ _ _ _ => F7
                rename News _ _ _ _ => N7
                rename (_ < _ ∧ _) => lt7
                first | have ltn := ktn_ltOf (l := (I, oI) :: (Kd, lobj kvs c3) :: (P, lobj (vs ++ [Value.ref a]) c1) :: (a, lobj zs c2) :: rest) lt7.2.2 | have ltn := ktn_ltOf (l := (I, oI) :: (Kd, lobj kvs c3) :: (P, lobj (vs ++ [Value.ref a]) c1) :: (a, lobj zs c2) :: rest) lt7.2.2.2.2 | have ltn := ktn_ltOf (l := (I, oI) :: (Kd, lobj kvs c3) :: (P, lobj (vs ++ [Value.ref a]) c1) :: (a, lobj zs c2) :: rest) lt7.2 | have ltn := ktn_ltOf (l := (I, oI) :: (Kd, lobj kvs c3) :: (P, lobj (vs ++ [Value.ref a]) c1) :: (a, lobj zs c2) :: rest) lt7.2.2.2 | have ltn := ktn_ltOf (l := (I, oI) :: (Kd, lobj kvs c3) :: (P, lobj (vs ++ [Value.ref a]) c1) :: (a, lobj zs c2) :: rest) lt7
                refine append_led F7 N7 (by k_mem) hvl fun h5 k5 F8 hP8 hk8 => ?_
                have hnI2 := Nat.ne_of_gt (ltn (I, oI) (.head _))
                first | have N8 := st_row (own := [(I, oI)]) (rest := rest) (led_drop2 (led_drop2 N7)) hP8 hk8 ltn (hoP _ (.tail _ (.head _))) (fun p hp => (hd p hp).1) d2 d1 | have N8 := st_row (own := [(I, oI)]) (rest := rest) (led_drop2 (led_drop2 (led_drop2 (led_drop2 N7)))) hP8 hk8 ltn (hoP _ (.tail _ (.head _))) (fun p hp => (hd p hp).1) d2 d1 | have N8 := st_row (own := [(I, oI)]) (rest := rest) (led_drop2 N7) hP8 hk8 ltn (hoP _ (.tail _ (.head _))) (fun p hp => (hd p hp).1) d2 d1 | have N8 := st_row (own := [(I, oI)]) (rest := rest) (led_drop2 (led_drop2 (led_drop2 N7))) hP8 hk8 ltn (hoP _ (.tail _ (.head _))) (fun p hp => (hd p hp).1) d2 d1 | have N8 := st_row (own := [(I, oI)]) (rest := rest) N7 hP8 hk8 ltn (hoP _ (.tail _ (.head _))) (fun p hp => (hd p hp).1) d2 d1
                clear F7 N7
                k_steps
                first
                  | exact hK6 _ _ _ (by k_asm) N8 (.mk rfl (off_row (Z := fun b => b ≠ I) hnI hnI2) (pst_rowX (own := [(I, oI)]) hr hz .nil hk hd d1 d2 d3 ltn) (.inl rfl))
                  | exact hK6 _ _ _ (by k_asm) N8 (.mk rfl (off_row (Z := fun b => b ≠ I) hnI hnI2) (pst_rowX (own := [(I, oI)]) hr hz hus1 hk hd d1 d2 d3 ltn) (.inr (by assumption))))
            · clear hr hz hk hd d1 d2 d3 hoP hbm hbm2 hall hv0 hus1 hul F6 hnI
              intro h7 tk7 l7 F7 N7 hM
              obtain @⟨nx, r2, rfl, hnI, hst, hr2⟩ := hM
              obtain ⟨vs, a, zs, kvs, c1, c2, c3, rest, rfl, hr, hz, hk, hd, d1, d2, d3⟩ := hst
              obtain ⟨ms, hms⟩ := ints_pick hk (some (-1)) none
              have hkl : kvs.length ≤ sizeLine := le_size (k := 1000) (by rw [hk.length, hgl]; exact Nat.le_trans hlr hL)
              k_steps
              all_goals (
                walk_at "MY open"
                rename Fr _ _ _ _ => F9
                rename News _ _ _ _ => N9
                refine append_led F9 N9 (by k_mem) hkl fun h6 k6 F10 hP10 hk10 => ?_
                first | have N10 := st_kind (own := [(I, oI)]) (led1 N9) hP10 hk10 (off_own hnI) (off_kind d2 d3 hd) | have N10 := st_kind (own := [(I, oI)]) (led1 (led1 N9)) hP10 hk10 (off_own hnI) (off_kind d2 d3 hd) | have N10 := st_kind (own := [(I, oI)]) (led1 (led1 (led1 N9))) hP10 hk10 (off_own hnI) (off_kind d2 d3 hd) | have N10 := st_kind (own := [(I, oI)]) N9 hP10 hk10 (off_own hnI) (off_kind d2 d3 hd)
                clear F9 N9
                k_steps
                exact hK' _ _ _ (by k_asm) N10 (.mk rfl (off_same hnI) ⟨vs, a, zs, _, c1, c2, _, rest, rfl, hr, hz, ints_snoc hk, hd, d1, d2, d3⟩ (hg.row (fmod2 _) hr2)))
        · clear hst hg N5' hnI
          intro h6 tk6 l6 F6 N6 hM
          obtain @⟨nx, rs2, r2, ks2, rfl, hnI, hst, hg2⟩ := hM
          obtain ⟨vs, a, zs, kvs, c1, c2, c3, rest, rfl, hr, hz, hk, hd, d1, d2, d3⟩ := hst
          have hgs := hg2.size
          have hlr := lensL_ge (rs2 ++ [r2])
          have hL := pg_small2 hg2 hz4
          have hvl : (vs ++ [Value.ref a]).length ≤ sizeLine := le_size (k := 1000) (by rw [List.length_append, hr.1]; exact Nat.le_trans (Nat.le_of_eq (snoc_len rs2 r2)) (Nat.le_trans hlr hL))
          have hzl : zs.length ≤ sizeLine := le_size (k := 1000) (by rw [hz.length]; exact Nat.le_trans (row_len2 (List.mem_append_right _ (.head _))) hL)
          have hlast : (vs ++ [Value.ref a])[(vs ++ [Value.ref a]).length - 1]? = some (.ref a) := by simp
          clear F5
          have kMM := MergeMark.mk
          k_steps
          walk_at "MY open"
          rename Fr _ _ _ _ => F7
          refine exec_mergeJ F7 (M20 P Kd I oI (3 * z + 3)) ?_ ?_
          · intro K' hK'
            k_steps
            rotate_left 3
            · rename News _ _ _ _ => N8
              exact hK' _ _ _ (by k_asm) (by first | exact N8 | exact led1 N8) (.mk rfl hnI ⟨vs, a, zs, kvs, c1, c2, c3, rest, rfl, hr, hz, hk, hd, d1, d2, d3⟩ (hg2.mono (Int.add_le_add_left (by decide) _)))
            rotate_left 3
            · rename News _ _ _ _ => N8
              exact hK' _ _ _ (by k_asm) (by first | exact N8 | exact led1 N8) (.mk rfl hnI ⟨vs, a, zs, kvs, c1, c2, c3, rest, rfl, hr, hz, hk, hd, d1, d2, d3⟩ (hg2.mono (Int.add_le_add_left (by decide) _)))
            all_goals (
              walk_at "MY open"
              rename Fr _ _ _ _ => F8
              rename News _ _ _ _ => N8
              refine append_led F8 N8 (by repeat (first | exact List.mem_append_right _ (.tail _ (.tail _ (.head _))) | exact List.Mem.tail _ (List.Mem.tail _ (List.Mem.tail _ (List.Mem.head _))) | refine List.Mem.tail _ ?_)) hzl fun h8 k8 F9 hA9 hk9 => ?_
              first | have N9 := st_sign (own := [(I, oI)]) (rest := rest) N8 hA9 hk9 (off_own3 hnI) (fun p hp => (hd p hp).2.1) d3 d1 | have N9 := st_sign (own := [(I, oI)]) (rest := rest) (led1 N8) hA9 hk9 (off_own3 hnI) (fun p hp => (hd p hp).2.1) d3 d1
              clear F8 N8
              k_steps
              have e0 : 0 ≤ ((x.fmod 100000000).fdiv 10).fmod 1112063 := Int.fmod_nonneg_of_pos _ (by decide)
              have e1 : ((x.fmod 100000000).fdiv 10).fmod 1112063 < 1112063 := Int.fmod_lt_of_pos _ (by decide)
              refine hK' _ _ _ (by k_asm) N9 (.mk rfl (off_sign (Z := fun b => b ≠ I) hnI) ⟨vs, a, _, kvs, _, _, _, rest, rfl, hr, ints_snoc hz, hk, hd, d1, d2, d3⟩ (PG.mono (hg2.sign ?_) (Int.le_of_eq (Int.add_assoc _ _ _))))
              first
                | exact cp_menu (Int.ne_of_gt (by assumption)) (Int.le_of_lt (by assumption)) (by assumption)
                | exact cp_sign1 e0 e1
                | exact cp_sign2 e0 e1
                | exact cp_menu (by (first | lia | omega)) (by (first | lia | omega)) (by assumption)
                | exact ⟨by (first | lia | omega), by (first | lia | omega)⟩)
          · clear hr hz hk hd d1 d2 d3 hnI hg2 F7
            try clear F6
            try clear N6
            intro h9 tk9 l9 F9 N9 hM
            obtain @⟨nx, rs3, r3, ks3, rfl, hnI, hst, hg3⟩ := hM
            k_steps
            · exact hB _ _ _ _ (by k_asm) (by k_asm) (.mk rfl hnI (.mk (.mk (z := z + 1) rfl rfl rfl (.some rs3 r3 rfl hst) (hg3.mono (by rw [Int.mul_add]; exact Int.le_refl _)) (Int.add_nonneg hz0 (by decide)) hz40)))
            · exact hK _ _ _ _ _ _ (.inl rfl) (by k_asm) (by k_asm) (size_less hz40) (.mk rfl hnI rfl (.mk rfl rfl rfl (.some rs3 r3 rfl hst) (hg3.mono (by rw [Int.mul_add]; exact Int.le_refl _)) (Int.add_nonneg hz0 (by decide)) hz40) rfl)
      · rename Fr _ _ _ _ => F5
        rename News _ _ _ _ => N5
        exact hZ _ _ _ _ F5 N5 (.mk rfl hnI (.mk (.mk rfl rfl rfl hst hg hz0 hz4)))
    · intro m2 l2 h2 tk2 hJ F5 N5
      obtain @⟨nx, rfl, hnI, hJ⟩ := hJ
      k_steps
      exact hK _ _ _ _ _ (.inl rfl) F5 N5 hnI hJ
  · intro m1 nx h1 tk1 hJ F3 N3
    obtain @⟨z, hJ⟩ := hJ
    obtain @⟨tz, rs, ks, gP, gK, gz, hst, hg, hz0, hz4⟩ := hJ
    rw [map2k gP gK] at F3
    clear F1 N1
    have hg120 : PG rs ks 120 := hg.mono (size_all hz4)
    k_steps
    rename Fr _ _ _ _ => F5
    rename News _ _ _ _ => N5
    rcases hst with ⟨rfl, rfl, c1, c3, rfl, dPK⟩ | ⟨rs', r, rfl, hst⟩
    · exact h _ _ _ _ _ _ _ _ _ [] [] [] F5.keep (fun p hp => ⟨(N5 p hp).1, (N5 p hp).2.2⟩) alnil .nil hg120
    · obtain ⟨vs, a, zs, kvs, c1, c2, c3, rest, rfl, hr, hz', hk, hd, d1, d2, d3⟩ := hst
      exact h _ _ _ _ _ _ _ _ _ ((a, lobj zs c2) :: rest) (rs' ++ [r]) ks F5.keep (fun p hp => ⟨(N5 p hp).1, (N5 p hp).2.2⟩) (alsnoc (hr.sub fun p hp => .tail _ hp) ⟨a, c2, zs, rfl, .head _, hz'⟩) hk hg120
end
end
section
theorem fill_E19 (w : World) (h : Heap) : PySem.Challenge.rw_ko0128_01.Holds → (Mine.hd.heap_39 w.params).In h → True := by
  w_top off
  k_with_none
  (k_with "MY k_room" => ((try simp only [depth_under_make, depth_under_kw, depth_in1, depth_deeper]); (try unfold recursionLimit); first | exact room_le (by assumption) | exact room_lt (by assumption) | (first | lia | omega)))
  (k_with "MY top" => first | assumption | exact Top.keeps (by assumption) (Fr.keep (by assumption)))
  (k_with "MY enter" => (refine wpAny_call ?_; (refine' enterK ?kzk1z ?kzk2z ?kzk3z ?kzk4z ?kzk5z ?kzk6z ?kzk7z ?_ ?kzk8z ?kzk9z ?kzk10z ?kzk11z; (case kzk1z => assumption); (case kzk2z => assumption); (case kzk3z => k_room); (case kzk4z => k_is); (case kzk5z => k_is); (case kzk6z => first | exact BindsTo.of_eq rfl | exact binds_K (by k_in) rfl (by k_is) rfl rfl rfl); (case kzk7z => exact locs rfl); (case kzk8z => decide); (case kzk9z => exact rfl); (case kzk10z => exact rfl); (case kzk11z => exact rfl); k_whole; intro LZq hZq FZq NZq; (try dsimp only); (try k_fold))))
  (k_with "call type:type" => (k_here; (with_reducible show wpAny _ _ (call (Value.type "type") [Value.bytes _ _]) _ _ _); refine call_type_of (Tx := "bytes") rfl (by decide) ?_))
  (k_with "call builtin:issubclass" => (k_here; refine call_isub (by first | exact .inl rfl | exact .inr rfl) (News.get (by k_asm) (by k_mem)) ?_))
  (k_with "MY same" => (intro y hy; (try dsimp only); repeat (first | exact rfl | (refine (if_neg ?kzhz).trans ?_; (case kzhz => first | (intro e; subst e; exact absurd hy (by decide)) | (intro e; rw [hy] at e; cases e))))))
  (k_with "assign Tuple" => (k_here; (with_reducible show wpAny _ _ (assign (Expr.Tuple _ _ _) _ (Value.ref _)) _ _ _); k_dflt (refine' kun_list ?kzk1z ?kzk2z ?kzk3z ?kzk4z ?kzk5z ?kzk6z ?_; (case kzk1z => k_asm); (case kzk2z => k_asm); (case kzk3z => kun_lst); (case kzk4z => first | exact rfl | assumption); (case kzk5z => exact rfl); (case kzk6z => exact rfl); k_whole); intro hZq FZq NZq; (try k_sweep)))
  (k_with "assign Tuple" => (k_here; (with_reducible show wpAny _ _ (assign (Expr.Tuple _ _ _) _ (Value.ref _)) _ _ _); k_dflt (refine' unpackN_ ?kzk1z ?kzk2z ?kzk3z ?kzk4z ?kzk5z ?kzk6z ?_; (case kzk1z => k_asm); (case kzk2z => k_asm); (case kzk3z => kun_tup); (case kzk4z => first | exact rfl | assumption); (case kzk5z => exact rfl); (case kzk6z => exact rfl); k_whole); intro hZq FZq NZq; (try k_sweep)))
  (k_with "MY hideT" => (refine hide_post (m := execs _ _) ?_; intro kTE kTEh))
  (k_with "MY hideW" => (intro kWT kWZ kWTh kWZh))
  (k_with "MY showT" => (rename Hid (TurnEnd _ _ _ _ _ _ _) _ => kTEh; refine kTEh _ _ ?_))
  (k_with "MY showW" => (rename Hid (WTurn _ _ _ _ _ _) _ => kWTh; refine kWTh _ _ ?_))
  (k_with "MY showZ" => (rename (∀ s : Shared, _ → _) => kWZh; refine kWZh _ ?_))
  (k_with "execs cons" => (k_here; first | (dsimp only; try (rename Fr _ _ _ _ => kFd; dsimp only at kFd)) | (rename Fr _ _ _ _ => kFd; dsimp only at kFd) | k_gentoks | k_made | ((with_reducible refine wpAny_execs_cons ?_); (try dsimp only); (try k_fold))))
  (k_with "MY k_ne" => (refine neN ?_; (try dsimp only); first | assumption | exact Ne.symm (by assumption) | exact Nat.ne_of_lt (Nat.lt_succ_self _) | exact Nat.ne_of_gt (Nat.lt_succ_self _) | exact Nat.ne_of_lt (Nat.lt_succ_of_lt (Nat.lt_succ_self _)) | exact Nat.ne_of_gt (Nat.lt_succ_of_lt (Nat.lt_succ_self _)) | exact Nat.ne_of_gt (by first | assumption | exact at1 (by assumption) | exact at2 (by assumption) | exact at3 (by assumption) | exact at4 (by assumption) | exact at5 (by assumption) | exact at6 (by assumption) | exact at7 (by assumption) | exact at8 (by assumption)) | (first | lia | omega)))
  (k_with "MY back" => (rename Fr _ _ _ _ => kFZq; rename News _ _ _ _ => kNZq; rename Kp _ _ => hkZq; replace kFZq := Fr.grownK kFZq hkZq; replace kNZq := News.grown kNZq hkZq; clear hkZq))
  (k_with "MY prem" => ((case kzXz => k_in); (case kzTz => walk_at "MY top"); (case kzdz => k_room); k_whole))
  (k_with "call ref" => (k_here; (with_reducible show wpAny _ _ (call (Value.ref 94) [Value.str _ _]) _ _ _); refine' fspath_str ?kzXz ?kzTz ?kzdz ?_; walk_at "MY prem"; intro hZq tkZq hkZq; walk_at "MY back"))
  (k_with "call ref" => (k_here; (with_reducible show wpAny _ _ (call (Value.ref 94) [Value.bytes _ _]) _ _ _); refine' fspath_bytes ?kzXz ?kzTz ?kzdz ?_; walk_at "MY prem"; intro hZq tkZq hkZq; walk_at "MY back"))
  (k_with "exec For Name Name cons nil" => (k_here; (rename Fr _ _ _ _ => lFZq); (with_unfolding_all refine' For_invVF lFZq ?kzk1z ?kzk2z ?_; (case kzk1z => exact rfl); (case kzk2z => exact rfl); k_whole)))
  (k_with "exec For Name Call cons nil" => (k_here; (rename Fr _ _ _ _ => lFZq); (with_unfolding_all refine' For_invVF lFZq ?kzk1z ?kzk2z ?_; (case kzk1z => exact rfl); (case kzk2z => exact rfl); k_whole)))
  (k_with "exec For Name Subscript cons nil" => (k_here; (rename Fr _ _ _ _ => lFZq); (with_unfolding_all refine' For_invVF lFZq ?kzk1z ?kzk2z ?_; (case kzk1z => exact rfl); (case kzk2z => exact rfl); k_whole)))
  (k_with "exec For Name IfExp cons nil" => (k_here; (rename Fr _ _ _ _ => lFZq); (with_unfolding_all refine' For_invVF lFZq ?kzk1z ?kzk2z ?_; (case kzk1z => exact rfl); (case kzk2z => exact rfl); k_whole)))
  (k_with "exec While BoolOp cons nil" => (k_here; refine Halt.mk ?_))
  (k_with "exec While Compare cons nil" => (k_here; refine Halt.mk ?_))
  (k_with "MY go" => show wpAny _ _ _ _ _ _)
  (k_with "eval ListComp" => (k_here; k_dflt (refine ListComp_G (F₀ := by k_asm) (by with_unfolding_all rfl) (by decide) (by rfl) (by decide) ?_)))
  (k_with "exec Assign cons ListComp" => (k_here; k_dflt (refine Assign_ListComp_G (F₀ := by k_asm) (by rfl) (by with_unfolding_all rfl) (by with_unfolding_all rfl) (by decide) (by rfl) (by decide) (by rfl) (by rfl) ?_)))
  (k_with "CompAt" => (k_here; refine Halt.mk ?_))
  (k_with "call type:zip" => (k_here; refine Halt.mk ?_))
  (k_with "MY open" => unfold Halt)
  (k_with "call builtin:len" => (k_here; (with_reducible show wpAny _ _ (call (Value.builtin "len") [Value.ref _]) _ _ _); k_dflt (refine' len_any ?kzlz ?kzzz ?_; (case kzlz => kmk_list); (case kzzz => first | assumption | exact Nat.le_of_ble_eq_true rfl))))
  (k_with "subscriptTail Name Name ref int" => (k_here; k_dflt (refine' item_nat ?kzlz ?kzxz ?kzzz ?_; (case kzlz => kmk_list); (case kzxz => assumption); (case kzzz => assumption))))
  (k_with "call type:range" => (k_here; (with_reducible show wpAny _ _ (call _ _) (CompAt _ _ _ _ _ _ _ _ _ _ _ _ _ _) _ _); refine Halt.mk ?_))
  (k_with "binaryOp Add ref ref" => (k_here; k_dflt (refine' add_any ?kzFz ?kzNz ?kzlz ?kzbz ?kzzz ?_; (case kzFz => k_asm); (case kzNz => k_asm); (case kzlz => kmk_list); (case kzbz => kmk_list); (case kzzz => (rw [sizeLine_eq]; (try simp only [List.length_cons, List.length_nil]); first | exact sz_one (by assumption) | exact sz_zero (by assumption) | exact sz_one2 (by assumption) (by assumption) | exact sz_zero2 (by assumption) (by assumption) | exact sz_two (by assumption) (by assumption) | decide | (first | lia | omega)))); intro DZq hZq FZq NZq l1; (try k_lt l1); (try k_sweep)))
  (k_with "call builtin:max" => (k_here; (with_reducible show wpAny _ _ (call (Value.builtin "max") [Value.ref _]) _ _ _); k_dflt (refine' max_list_N ?kzhz ?kzFz ?kzNz ?kzlz ?kziz ?kzzz ?_; (case kzhz => first | assumption | exact rfl); (case kzFz => k_asm); (case kzNz => k_asm); (case kzlz => kmk_list); (case kziz => first | assumption | exact (IntsAre.cons _ _ .nil).append (by assumption) | exact IntsAre.cons _ _ (by assumption)); (case kzzz => simp)); intro hZq MZq tZq tkZq FZq NZq hM1Zq hM2Zq; (try k_sweep)))
  (k_with "call ref" => (k_here; (with_reducible show wpAny _ _ (call (Value.ref 127) [Value.str _ _, Value.int _ _]) _ _ _); (fail_if_success with_reducible show wpAny _ _ (call (Value.ref 127) [Value.str _ _, Value.int 0 _]) _ _ _); (fail_if_success with_reducible show wpAny _ _ (call (Value.ref 127) [Value.str _ _, Value.int 1 _]) _ _ _); refine Halt.mk ?_))
  (k_with "subscriptTail Name UnaryOp ref int" => (k_here; k_dflt (refine' item_last ?kzlz ?kzxz ?kzzz ?_; (case kzlz => kmk_list); (case kzxz => assumption); (case kzzz => assumption))))
  (k_with "subscriptTail Name Slice ref ref" => (k_here; (with_reducible show wpAny _ _ (subscriptTail _ (PySem.Expr.Slice _ _ none _) (Value.ref _) (Value.ref _)) _ _ _); k_dflt (refine' slice_any ?kzFz ?kzNz ?kzlz ?kzpz ?kzqz ?_ ?kzsz ?kztz ?kzzz; (case kzFz => k_asm); (case kzNz => k_asm); (case kzlz => kmk_list); (case kzpz => kmk_part); (case kzqz => kmk_part); (case kzsz => with_unfolding_all rfl); (case kztz => kmk_pure); (case kzzz => first | assumption | exact Nat.le_of_ble_eq_true rfl)); intro DZq hZq FZq NZq l1; (try simp only [pick_tail1] at NZq); (try k_lt l1); (try k_sweep)))
  (k_with "unpackItems ref" => (k_here; k_dflt (refine' unpackItemsN_ ?kzk1z ?kzk2z ?kzk3z ?kzk4z ?kzk5z ?_; (case kzk1z => k_asm); (case kzk2z => k_asm); (case kzk3z => kun_tup); (case kzk4z => first | exact rfl | assumption); (case kzk5z => exact rfl); k_whole); intro hZq FZq NZq; (try k_sweep)))
  (k_with "MY k_all" => assumption)
  (k_with "MY k_mem" => first | assumption | (refine List.mem_append_right _ ?_; k_mem) | exact List.mem_append_left _ (by assumption))
  (k_with "subscriptTail Name Constant ref int" => (k_here; k_dflt (refine' item_zero ?kzlz ?_; (case kzlz => kmk_list))))
  (k_with "compareOp Eq ref ref" => (k_here; first | k_dflt (refine' ke_eq_ints ?kzaz ?kzbz ?kziz ?kzjz ?kzuz ?_; (case kzaz => kmk_list); (case kzbz => kmk_list); (case kziz => first | assumption | exact IntsAre.nil); (case kzjz => first | assumption | exact IntsAre.nil); (case kzuz => (simp only [units_in1, units_deeper, Around.mark_units]; rw [show cLine = 9900 from rfl]; first | exact units64 (by assumption) | exact units1 (by assumption) | (first | lia | omega)))) | refine Halt.mk ?_))
  (k_with "compareOp NotEq ref ref" => (k_here; k_dflt (refine' ke_ne_ints ?kzaz ?kzbz ?kziz ?kzjz ?kzuz ?_; (case kzaz => kmk_list); (case kzbz => kmk_list); (case kziz => first | assumption | exact IntsAre.nil); (case kzjz => first | assumption | exact IntsAre.nil | exact IntsAre.cons _ _ IntsAre.nil); (case kzuz => (simp only [units_in1, units_deeper, Around.mark_units]; rw [show cLine = 9900 from rfl]; first | exact units64 (by assumption) | exact units1 (by assumption) | (first | lia | omega))))))
  (k_with "exec For Name BinOp cons nil" => (k_here; (rename Fr _ _ _ _ => lFZq); (with_unfolding_all refine' For_invVF lFZq ?kzk1z ?kzk2z ?_; (case kzk1z => exact rfl); (case kzk2z => exact rfl); k_whole)))
  (k_with "eval BinOp" => (k_here; k_fold))
  (k_with "eval Call Attribute" => (k_here; k_fold))
  (k_with "eval IfExp" => (k_here; k_fold))
  (k_with "eval Subscript" => (k_here; k_fold))
  (k_with "isTrue BoolOp" => (k_here; k_fold))
  (k_with "isTrue Compare" => (k_here; k_fold))
  (k_with "eval List" => (k_here; k_fold))
  (k_with "eval Tuple" => (k_here; k_fold))
  k_fill
  intros; trivial
set_option maxHeartbeats 8000000
noncomputable def sstep (p : List (List Int) × List Int) (c : Int) : List (List Int) × List Int := if c = 47 then (if p.2 ≠ [] ∧ p.2 ≠ [46] then p.1 ++ [p.2] else p.1, []) else (p.1, p.2 ++ [c])
noncomputable def sfold (l : List Int) : List (List Int) × List Int := l.foldl sstep ([], [])
noncomputable def stepsI (l : List Int) : List (List Int) := (sfold (l ++ [47])).1
inductive J19 (row : List Int) (i : Nat) (m : MapS) (nx : List (Addr × Obj)) : Prop
  | mk {S P : Addr} {us zs : List Value} {cS cP : Nat} (g1 : m "steps" = some (.ref S)) (g2 : m "piece" = some (.ref P)) (hS : (S, lobj us cS) ∈ nx) (hP : (P, lobj zs cP) ∈ nx)
    (hus : Rows nx us (sfold ((row ++ [47] : List Int).take i)).1) (hzs : IntsAre zs (sfold ((row ++ [47] : List Int).take i)).2)
theorem sfold_snoc (l : List Int) (c : Int) : sfold (l ++ [c]) = sstep (sfold l) c := by simp [sfold]
theorem sfold_len (l : List Int) : (sfold l).1.length ≤ l.length ∧ (sfold l).2.length ≤ l.length := by
  have : ∀ (l : List Int) (p : List (List Int) × List Int), (l.foldl sstep p).1.length ≤ p.1.length + l.length ∧ (l.foldl sstep p).2.length ≤ p.2.length + l.length := fun l => by
    induction l with
    | nil => intro p; simp
    | cons c r ih =>
      intro p
      have h := ih (sstep p c)
      have h2 : (sstep p c).1.length ≤ p.1.length + 1 ∧ (sstep p c).2.length ≤ p.2.length + 1 := by
        unfold sstep; split
        · split <;> simp
        · simp
      rw [List.foldl_cons, List.length_cons]; (first | lia | omega)
  have h := this l ([], [])
  simpa [sfold] using h
section
variable {w : World} {A : Around} {mg mb : Str → Option Value} {mean : ExcName → Option Value} {loose : List Str} {s : Shared} {Q : Value → Shared → Prop} {E : Value → Shared → Prop}
theorem law_steps {r : Addr} {vs : List Value} {row : List Int} (X : (Mine.hd.heap_39 w.params).In s.heap) (T : Top Mine.hd.view_39 loose mean mg mb s.heap) (hd : A.depth ≤ 560) (hh : A.handled = none) (hu : A.units ≤ 5000)
    (hr : s.heap.IsList r vs.toArray) (hi : IntsAre vs row) (hlen : row.length ≤ 1000)
    (h : ∀ h' tk S us c nx, Kp s.heap h' → (∀ p ∈ (S, lobj us c) :: nx, h'.get? p.1 = some p.2 ∧ s.heap.get? p.1 = none) → Rows nx us (stepsI row) → Q (.ref S) { s with heap := h', toks := tk }) : wpAny (model PySem.Challenge.rw_ko0128_01.row.prog w) A (call (.ref 125) [.ref r]) Q E s := by
  have hvl : vs.length ≤ 1000 := by rw [hi.length]; exact hlen
  walk_at "MY enter"
  k_steps
  rename Fr _ _ _ _ => F1
  rename News _ _ _ _ => N1
  dsimp only
  refine for_listK (J19 row) hh F1 N1 rfl (News.isList N1 (.head _)) (N1 _ (.head _)).2.1 (.mk rfl rfl (by k_mem) (by k_mem) alnil .nil) ?_ ?_
  · intro I i v m1 nx h1 tk1 own K hv hI hnx hJ F3 N3 hK
    obtain @⟨S, P, us, zs, cS, cP, g1, g2, hS, hP, hus, hzs⟩ := hJ
    obtain ⟨n, t, rfl, hn⟩ := ints_item (ints_snoc hi) hv
    have e1 := take_snoc hn
    rw [map2k g1 g2] at F3
    clear F1 N1
    have hsl := sfold_len ((row ++ [47] : List Int).take i)
    have htl : ((row ++ [47] : List Int).take i).length ≤ 1001 := by
      rw [List.length_take, List.length_append]
      have : [47].length = 1 := rfl
      (first | lia | omega)
    have hzl : zs.length ≤ 1001 := by rw [hzs.length]; (first | lia | omega)
    have hul : us.length ≤ 1001 := by rw [hus.1]; (first | lia | omega)
    clear htl hsl
    k_steps
    · show K Flow.cont _
      rename News _ _ _ _ => N5
      rename (∀ p : Addr × Obj, p ∈ _ → p.1 < _) => lt1
      rename (_ < _ ∧ AllLt _ _) => lt2
      rename n ≠ 47 => h47
      obtain ⟨N6, off6⟩ := turn_news (nw := [_, _]) N5 hnx hI (lt_cons (ktn_ltOf lt2.2) (lt_cons lt1 lt_nil))
      refine hK _ _ _ _ _ (.inr rfl) (by k_asm) N6 off6 (.mk (S := S) (cS := cS) (cP := 0) rfl rfl (.tail _ (.tail _ hS)) (.head _) ?_ ?_)
      · rw [e1, sfold_snoc, sstep, if_neg h47]; exact hus.sub fun p hp => .tail _ (.tail _ hp)
      · rw [e1, sfold_snoc, sstep, if_neg h47]; exact ints_snoc hzs
    · rename News _ _ _ _ => N5
      rename (∀ p : Addr × Obj, p ∈ _ → p.1 < _) => lt1
      rename (_ < _ ∧ AllLt _ _) => lt2
      rename n = 47 => h47
      rename (decide (_ = []) = true) => hp0
      have hq : ¬ ((sfold ((row ++ [47] : List Int).take i)).2 ≠ [] ∧ (sfold ((row ++ [47] : List Int).take i)).2 ≠ [46]) := fun q => q.1 (of_decide_eq_true hp0)
      obtain ⟨N6, off6⟩ := turn_news (nw := [_, _]) N5 hnx hI (lt_cons (ktn_ltOf lt2.2) (lt_cons lt1 lt_nil))
      refine hK _ _ _ _ _ (.inl rfl) (by k_asm) N6 off6 (.mk (S := S) (cS := cS) (cP := 0) rfl rfl (.tail _ (.tail _ hS)) (.head _) ?_ ?_)
      · rw [e1, sfold_snoc, sstep, if_pos h47, if_neg hq]; exact hus.sub fun p hp => .tail _ (.tail _ hp)
      · rw [e1, sfold_snoc, sstep, if_pos h47]; exact .nil
    · rename News _ _ _ _ => N5
      rename (∀ p : Addr × Obj, p ∈ _ → p.1 < _) => lt1
      rename (_ < _ ∧ _ < _ ∧ AllLt _ _) => lt3
      rename (_ < _ ∧ AllLt _ _) => lt2
      rename n = 47 => h47
      rename (_ = [46]) => hp1
      have hq : ¬ ((sfold ((row ++ [47] : List Int).take i)).2 ≠ [] ∧ (sfold ((row ++ [47] : List Int).take i)).2 ≠ [46]) := fun q => q.2 hp1
      obtain ⟨N6, off6⟩ := turn_news (nw := [_, _, _]) N5 hnx hI (lt_cons (ktn_ltOf lt3.2.2) (lt_cons (ktn_ltOf lt2.2) (lt_cons lt1 lt_nil)))
      refine hK _ _ _ _ _ (.inl rfl) (by k_asm) N6 off6 (.mk (S := S) (cS := cS) (cP := 0) rfl rfl (.tail _ (.tail _ (.tail _ hS))) (.head _) ?_ ?_)
      · rw [e1, sfold_snoc, sstep, if_pos h47, if_neg hq]; exact hus.sub fun p hp => .tail _ (.tail _ (.tail _ hp))
      · rw [e1, sfold_snoc, sstep, if_pos h47]; exact .nil
    · rename News _ _ _ _ => N5
      rename (∀ p : Addr × Obj, p ∈ _ → p.1 < _) => lt1
      rename (_ < _ ∧ _ < _ ∧ _ < _ ∧ _ < _ ∧ AllLt _ _) => lt5
      rename (_ < _ ∧ _ < _ ∧ _ < _ ∧ AllLt _ _) => lt4
      rename (_ < _ ∧ _ < _ ∧ AllLt _ _) => lt3
      rename (_ < _ ∧ AllLt _ _) => lt2
      rename n = 47 => h47
      rename (decide (_ = []) = false) => hp0
      rename (¬ _ = [46]) => hp1
      have hq : (sfold ((row ++ [47] : List Int).take i)).2 ≠ [] ∧ (sfold ((row ++ [47] : List Int).take i)).2 ≠ [46] := ⟨of_decide_eq_false hp0, hp1⟩
      obtain ⟨N6, off6⟩ := turn_news (nw := [_, _, _, _, _]) N5 hnx hI (lt_cons (ktn_ltOf lt5.2.2.2.2) (lt_cons (ktn_ltOf lt4.2.2.2) (lt_cons (ktn_ltOf lt3.2.2) (lt_cons (ktn_ltOf lt2.2) (lt_cons lt1 lt_nil)))))
      refine hK _ _ _ _ _ (.inl rfl) (by k_asm) N6 off6 (.mk (us := us ++ [.ref P]) (cS := 0) (cP := 0) rfl rfl (.tail _ (.head _)) (.head _) ?_ ?_)
      · rw [e1, sfold_snoc, sstep, if_pos h47, if_pos hq]
        exact alsnoc (hus.sub fun p hp => .tail _ (.tail _ (.tail _ (.tail _ (.tail _ hp))))) ⟨P, cP, zs, rfl, .tail _ (.tail _ (.tail _ (.tail _ (.tail _ hP)))), hzs⟩
      · rw [e1, sfold_snoc, sstep, if_pos h47]; exact .nil
  · intro m1 nx h1 tk1 hJ F3 N3
    obtain @⟨S, P, us, zs, cS, cP, g1, g2, hS, hP, hus, hzs⟩ := hJ
    rw [map2k g1 g2] at F3
    clear F1 N1
    rw [List.take_of_length_le (by rw [List.length_append, List.length_append, hi.length]; exact Nat.le_refl _)] at hus
    k_steps
    exact h _ _ _ _ _ _ F3.keep (fun p hp => by
      rcases List.mem_cons.mp hp with rfl | hp
      · exact ⟨(N3 _ hS).1, (N3 _ hS).2.2⟩
      · exact ⟨(N3 _ hp).1, (N3 _ hp).2.2⟩) hus
end
end
section
noncomputable def castL (l : List Nat) : List Int := l.map fun c : Nat => (c : Int)
noncomputable def keepI (p : List Int) : Bool := decide (p ≠ []) && decide (p ≠ [46])
theorem sfold_spl : ∀ l : List Int, ∃ ps q, spl 47 l = ps ++ [q] ∧ sfold l = (ps.filter keepI, q) := fun l => by
  have key : ∀ (u v : List Int), (∃ ps q, spl 47 u = ps ++ [q] ∧ sfold u = (ps.filter keepI, q)) → ∃ ps q, spl 47 (u ++ v) = ps ++ [q] ∧ sfold (u ++ v) = (ps.filter keepI, q) := fun u v => by
    induction v generalizing u with
    | nil => intro h; rw [List.append_nil]; exact h
    | cons a r ih =>
      rintro ⟨ps, q, e1, e2⟩
      rw [show u ++ a :: r = (u ++ [a]) ++ r from by simp]
      refine ih (u ++ [a]) ?_
      by_cases ha : a = 47
      · subst ha
        refine ⟨ps ++ [q], [], by rw [spl_snoc_eq, e1], ?_⟩
        rw [sfold_snoc, e2, sstep, if_pos rfl, List.filter_append]
        by_cases hq : q ≠ [] ∧ q ≠ [46]
        · rw [if_pos hq, show [q].filter keepI = [q] from by rw [List.filter_cons, if_pos (by simp [keepI, hq.1, hq.2])]; rfl]
        · rw [if_neg hq, show [q].filter keepI = [] from by
            rw [List.filter_cons, if_neg (by simp only [keepI, Bool.and_eq_true, decide_eq_true_eq]; exact hq)]; rfl, List.append_nil]
      · refine ⟨ps, q ++ [a], spl_snoc_ne 47 ha e1, ?_⟩
        rw [sfold_snoc, e2, sstep, if_neg ha]
  have := key [] l ⟨[], [], rfl, rfl⟩
  simpa using this
theorem stepsI_spl (l : List Int) : stepsI l = (spl 47 l).filter keepI := by
  obtain ⟨ps, q, e1, e2⟩ := sfold_spl l
  unfold stepsI
  rw [sfold_snoc, e2, sstep, if_pos rfl, e1, List.filter_append]
  by_cases hq : q ≠ [] ∧ q ≠ [46]
  · rw [if_pos hq, show [q].filter keepI = [q] from by rw [List.filter_cons, if_pos (by simp [keepI, hq.1, hq.2])]; rfl]
  · rw [if_neg hq, show [q].filter keepI = [] from by
      rw [List.filter_cons, if_neg (by simp only [keepI, Bool.and_eq_true, decide_eq_true_eq]; exact hq)]; rfl, List.append_nil]
theorem castL_inj : ∀ {a b : List Nat}, castL a = castL b → a = b
  | [], [], _ => rfl
  | [], _ :: _, h => by simp [castL] at h
  | _ :: _, [], h => by simp [castL] at h
  | x :: a, y :: b, h => by
    simp only [castL, List.map_cons, List.cons.injEq] at h
    have h1 : x = y := by have := h.1; (first | lia | omega)
    rw [h1, castL_inj (a := a) (b := b) h.2]
theorem cast_back {r : List Int} (h : ∀ c ∈ r, Cp c) : castL (r.map Int.toNat) = r := by
  unfold castL
  rw [List.map_map]
  conv => rhs; rw [← List.map_id r]
  exact List.map_congr_left fun c hc => by
    have := (h c hc).1
    show ((c.toNat : Nat) : Int) = c
    (first | lia | omega)
theorem stepsI_cast (l : List Nat) : stepsI (castL l) = (stepsN l).map castL := by
  rw [stepsI_spl, stepsN_eq]
  have e := spl_map (fun c : Nat => (c : Int)) (fun a b h => by (first | lia | omega)) 47 l
  rw [show spl 47 (castL l) = (spl 47 l).map castL from e, List.filter_map]
  congr 1
  refine List.filter_congr fun p _ => ?_
  show keepI (castL p) = keepP p
  unfold keepI keepP
  congr 1
  · rw [decide_eq_decide]
    cases p <;> simp [castL]
  · rw [decide_eq_decide]
    constructor
    · intro h e; exact h (by rw [e]; rfl)
    · intro h e; exact h (castL_inj (by rw [e]; rfl))
theorem com2_map {α β : Type} [DecidableEq α] [DecidableEq β] (f : α → β) (hf : ∀ a b, f a = f b → a = b) : ∀ a b : List α, com2 (a.map f) (b.map f) = (com2 a b).map f
  | [], b => rfl
  | _ :: _, [] => rfl
  | x :: a, y :: b => by
    rw [List.map_cons, List.map_cons, com2_cons, com2_cons]
    by_cases h : x = y
    · rw [if_pos h, if_pos (congrArg f h), List.map_cons, com2_map f hf a b]
    · rw [if_neg h, if_neg (fun z => h (hf _ _ z)), List.map_nil]
theorem comN_map {α β : Type} [DecidableEq α] [DecidableEq β] (f : α → β) (hf : ∀ a b, f a = f b → a = b) : ∀ ls : List (List α), comN (ls.map (List.map f)) = (comN ls).map f
  | [] => rfl
  | [x] => rfl
  | x :: y :: r => by
    have ih := comN_map f hf (y :: r)
    rw [List.map_cons] at ih
    exact (congrArg (com2 (x.map f)) ih).trans (com2_map f hf ..)
theorem way_is {rs : List (List Int)} (hc : ∀ row ∈ rs, ∀ c ∈ row, Cp c) : comN (rs.map stepsI) = (comN ((rs.map (·.map Int.toNat)).map stepsN)).map castL := by
  have e : rs.map stepsI = ((rs.map (·.map Int.toNat)).map stepsN).map (List.map castL) := by
    rw [List.map_map, List.map_map]
    refine List.map_congr_left fun r hr => ?_
    show stepsI r = (stepsN (r.map Int.toNat)).map castL
    rw [← stepsI_cast, cast_back (hc r hr)]
  rw [e, comN_map castL fun a b => castL_inj]
theorem ijoin_take {α : Type} {c : α} {w : List (List α)} {i : Nat} {p : List α} (hp : w[i]? = some p) : ijoin c (w.take (i + 1)) = ijoin c (w.take i) ++ (if 0 < i then [c] else []) ++ p := by
  rw [take_snoc hp]
  cases i with
  | zero => rfl
  | succ i =>
    rw [if_pos (Nat.succ_pos i)]
    have hne : w.take (i + 1) ≠ [] := by
      intro e
      have h1 := (List.getElem?_eq_some_iff.mp hp).1
      have := congrArg List.length e
      rw [List.length_take, List.length_nil] at this; (first | lia | omega)
    cases hw : w.take (i + 1) with
    | nil => exact absurd hw hne
    | cons x t =>
      rw [List.cons_append, ijoin_flat, ijoin_flat, List.flatMap_append]
      simp
noncomputable def dueI (a : Bool) (w : List (List Int)) (i : Nat) : List Int := (if a then [47] else []) ++ ijoin 47 (w.take i)
theorem dueI_go {a : Bool} {w : List (List Int)} {i : Nat} {p : List Int} (hp : w[i]? = some p) : dueI a w (i + 1) = dueI a w i ++ (if 0 < i then [47] else []) ++ p := by
  unfold dueI; rw [ijoin_take hp]; simp [List.append_assoc]
theorem dueI_len (a : Bool) (w : List (List Int)) (i : Nat) : (dueI a w i).length ≤ 1 + (w.map fun p => p.length + 1).sum := by
  have h1 := ijoin_lenN (c := (47 : Int)) (w.take i)
  have h2 : ((w.take i).map fun p => p.length + 1).sum ≤ (w.map fun p => p.length + 1).sum := by
    conv => rhs; rw [← List.take_append_drop i w]
    rw [List.map_append, List.sum_append]; (first | lia | omega)
  unfold dueI
  rw [List.length_append]
  split <;> simp <;> (first | lia | omega)
theorem due_is {rs : List (List Int)} {a : Bool} (hne : rs ≠ []) (hc : ∀ row ∈ rs, ∀ c ∈ row, Cp c) (h : ∀ d ∈ rs.map (·.map Int.toNat), (d.head? == some 47) = a) :
    dueI a (comN (rs.map stepsI)) (comN (rs.map stepsI)).length = castL (cpN (rs.map (·.map Int.toNat))) := by
  unfold dueI
  rw [List.take_length, cpN_as (by simpa using hne) h, way_is hc, castL, List.map_append]
  congr 1
  · cases a <;> rfl
  · exact (ijoin_map (fun c : Nat => (c : Int)) 47 _).symm
theorem cpN_sub {ds : List (List Nat)} {d : List Nat} (hd : d ∈ ds) {c : Nat} (hc : c ∈ cpN ds) : c = 47 ∨ c ∈ d := by
  unfold cpN at hc
  rcases List.mem_append.mp hc with h | h
  · split at h
    · exact .inl (List.mem_singleton.mp h)
    · cases h
  · rcases ij_sub h with h | ⟨p, hp, h⟩
    · exact .inl h
    · have h1 := (comN_pre (List.mem_map_of_mem (f := stepsN) hd)).subset hp
      rw [stepsN_eq] at h1
      exact .inr (spl_sub (List.mem_filter.mp h1).1 h)
theorem way_sum {rs : List (List Int)} (hne : rs ≠ []) (hc : ∀ row ∈ rs, ∀ c ∈ row, Cp c) {n : Nat} (hz : lensL rs ≤ n) : ((comN (rs.map stepsI)).map fun p => p.length + 1).sum ≤ n + 1 := by
  cases rs with
  | nil => exact absurd rfl hne
  | cons r t =>
    rw [way_is hc, List.map_map]
    have h1 := com_sum (ds := (r :: t).map (·.map Int.toNat)) (d := r.map Int.toNat) (.head _)
    have h2 := row_len2 (rs := r :: t) (row := r) (.head _)
    have h3 : ((fun p : List Int => p.length + 1) ∘ castL) = fun p => p.length + 1 := by funext p; simp [castL]
    rw [h3]
    simp only [List.length_map] at h1
    (first | lia | omega)
end
section
open LCg
section
variable {prog : Program} {w : World} {A : Around} {E : Value → Shared → Prop} {s : Shared} {h₀ : Heap} {L : Addr} {m : MapS} {env : Env} {elt : Expr} {scope : Scope} {cl : List (Str × Addr)} {Fin : Shared → List Value → List (Addr × Obj) → Prop}
theorem comp_rangeP {x : Str} {px : Pos} {n : Nat} {t : Tok} {news : List (Addr × Obj)} (J : Nat → List Value → Prop)
    (hh : A.handled = none) (F : Fr h₀ L s.heap m) (N : News h₀ L s.heap news) (hsz : n ≤ sizeLine)
    (hkind : scope.kind = .function) (hx : scope.names.lookup x = some .local) (hJ : J 0 [])
    (turn : ∀ i tv C oC D m₂ h tk own ys (K : Value → Shared → Prop) (E' : Value → Shared → Prop), i < n → J i ys → m₂ x = some (.int (i : Int) tv) → NsObj oC m₂ → Fr h₀ L h m → News h₀ L h (own ++ ((C, oC) :: (D, lst ys) :: news)) →
      (∀ y h' tk', Fr h₀ L h' m → News h₀ L h' (own ++ ((C, oC) :: (D, lst ys) :: news)) → J (i + 1) (ys ++ [y]) → K y { s with heap := h', toks := tk' }) →
      wpAny (model prog w) A (eval elt (compEnvC scope cl C env)) K E' { s with heap := h, toks := tk })
    (fin : ∀ g tk ys, J n ys → Fin { s with heap := g, toks := tk } ys news) :
    wpAny (model prog w) A (call (.type "range") [.int (n : Int) t]) (CompAt prog w A h₀ L m env (.Name x px) elt [] scope cl E Fin) E s := by
  refine comp_range (fun n0 i ys nx => nx = n0 ∧ J i ys) hh F N hsz hkind hx ⟨rfl, hJ⟩ ?_ fun g tk ys nx hj => hj.1 ▸ fin g tk ys hj.2
  rintro I i tv C oC D m₂ h tk own ys nx E' hi ⟨rfl, hj⟩ hm hC F₁ N₁ hoff _ _
  exact tests0 (turn i tv C oC D m₂ h tk own ys _ E' hi hj hm hC F₁ N₁ fun y h' tk' F₂ N₂ hj₂ => ⟨h', tk', nx, rfl, F₂, N₂, hoff, rfl, hj₂⟩)
end
section
variable {prog : Program} {w : World} {A : Around} {E : Value → Shared → Prop} {s : Shared} {env : Env} {h₀ : Heap} {x : Str} {body : List Stmt} {Q : Flow → Shared → Prop}
theorem for_range2K {L : Addr} {a n : Nat} {t u : Tok} {m₀ : MapS} {news : List (Addr × Obj)} (J : Nat → MapS → Prop)
    (hh : A.handled = none) (F : Fr h₀ L s.heap m₀) (N : News h₀ L s.heap news) (hL : env.locals = L) (ha : a ≤ n) (hz : n ≤ sizeLine) (hj : J a m₀)
    (turn : ∀ i tv m₁ h tk own (K : Flow → Shared → Prop), a ≤ i → i < n → J i m₁ → Fr h₀ L h (fun y => if y = x then some (.int (i : Int) tv) else m₁ y) → News h₀ L h (own ++ news) →
      (∀ f h' tk' m', f = .next ∨ f = .cont → Fr h₀ L h' m' → News h₀ L h' (own ++ news) → J (i + 1) m' → K f { s with heap := h', toks := tk' }) →
      wpAny (model prog w) A (execs body env) K E { s with heap := h, toks := tk })
    (done : ∀ m₁ h tk, J n m₁ → Fr h₀ L h m₁ → News h₀ L h news → Q .next { s with heap := h, toks := tk }) :
    wpAny (model prog w) A (call (.type "range") [.int (a : Int) t, .int (n : Int) u]) (fun xv s₁ => wpAny (model prog w) A (pyIter xv) (fun it s₂ => LoopAtV prog w A h₀ env x body Q E it s₂) E s₁) E s := by
  subst hL
  refine for_range2 (fun n0 _ i m nx => nx = n0 ∧ J i m) hh F N ha hz ⟨rfl, hj⟩ ?_ fun m₁ nx h tk hj₂ F₁ N₁ => done m₁ h tk hj₂.2 F₁ (hj₂.1 ▸ N₁)
  rintro I i tv m₁ nx h tk own hai hi _ _ off ⟨rfl, hj₂⟩ F₁ N₁
  refine turn i tv m₁ h tk own _ hai hi hj₂ F₁ N₁ fun f h' tk' m' hf F₂ N₂ hj₃ => ?_
  rcases hf with rfl | rfl
  · exact ⟨h', tk', m', nx, rfl, F₂, N₂, off, rfl, hj₃⟩
  · exact ⟨h', tk', m', nx, rfl, F₂, N₂, off, rfl, hj₃⟩
theorem for_range1K {L : Addr} {n : Nat} {t : Tok} {m₀ : MapS} {news : List (Addr × Obj)} (J : Nat → MapS → List (Addr × Obj) → Prop)
    (hh : A.handled = none) (F : Fr h₀ L s.heap m₀) (N : News h₀ L s.heap news) (hL : env.locals = L) (hz : n ≤ sizeLine) (hj : J 0 m₀ news)
    (turn : ∀ I oI i tv m₁ nx h tk (K : Flow → Shared → Prop), i < n → (∀ p ∈ nx, p.1 ≠ I) → J i m₁ nx → Fr h₀ L h (fun y => if y = x then some (.int (i : Int) tv) else m₁ y) → News h₀ L h ((I, oI) :: nx) →
      (∀ f h' tk' m' nx', f = .next ∨ f = .cont → Fr h₀ L h' m' → News h₀ L h' ((I, oI) :: nx') → (∀ p ∈ nx', p.1 ≠ I) → J (i + 1) m' nx' → K f { s with heap := h', toks := tk' }) →
      wpAny (model prog w) A (execs body env) K E { s with heap := h, toks := tk })
    (done : ∀ m₁ nx h tk, J n m₁ nx → Fr h₀ L h m₁ → News h₀ L h nx → Q .next { s with heap := h, toks := tk }) :
    wpAny (model prog w) A (call (.type "range") [.int (n : Int) t]) (fun xv s₁ => wpAny (model prog w) A (pyIter xv) (fun it s₂ => LoopAtV prog w A h₀ env x body Q E it s₂) E s₁) E s := by
  subst hL
  refine for_range1 (fun _ _ => J) hh F N hz hj (fun I i tv m₁ nx h tk own hi hI hown off hJ F₁ N₁ => ?_) done
  obtain ⟨oI, ho⟩ := hI
  have eI := (N₁ _ (List.mem_append_left _ ho)).1
  have eo : ∀ p ∈ own, p = (I, oI) := fun p hp => by
    have e1 := (N₁ p (List.mem_append_left _ hp)).1
    have e := hown p hp
    obtain ⟨a, o⟩ := p
    dsimp only at e e1
    subst e
    rw [eI] at e1
    have e3 : oI = o := Option.some.inj e1
    rw [e3]
  refine turn I oI i tv m₁ nx h tk _ hi (fun p hp q => off p hp (List.mem_singleton.mpr q)) hJ F₁ (fun p hp => ?_) fun f h' tk' m' nx' hf F₂ N₂ off₂ hJ₂ => ?_
  · rcases List.mem_cons.mp hp with rfl | hp
    · exact N₁ _ (List.mem_append_left _ ho)
    · exact N₁ _ (List.mem_append_right _ hp)
  · have N₃ : News h₀ env.locals h' (own ++ nx') := fun p hp => by
      rcases List.mem_append.mp hp with hp | hp
      · rw [eo p hp]; exact N₂ _ (.head _)
      · exact N₂ _ (.tail _ hp)
    have off₃ : ∀ p ∈ nx', p.1 ∉ [I] := fun p hp q => off₂ p hp (List.mem_singleton.mp q)
    rcases hf with rfl | rfl
    · exact ⟨h', tk', m', nx', rfl, F₂, N₃, off₃, hJ₂⟩
    · exact ⟨h', tk', m', nx', rfl, F₂, N₃, off₃, hJ₂⟩
end
section
variable {g h h' : Heap} {L I : Addr} {a x : Addr × Obj} {w l nx : List (Addr × Obj)}
theorem apart_new (N : News g L h l) (new : ∀ p ∈ w, h'.get? p.1 = some p.2 ∧ h.get? p.1 = none) : Apart w l := fun p hp q hq => new_ne new (N q hq).1 p hp
theorem led_swap (N : News g L h (w ++ (x :: nx))) : News g L h (x :: (w ++ nx)) := fun p hp => N p (by
  rcases List.mem_cons.mp hp with rfl | hp
  · exact List.mem_append_right _ (.head _)
  · rcases List.mem_append.mp hp with hp | hp
    · exact List.mem_append_left _ hp
    · exact List.mem_append_right _ (.tail _ hp))
theorem off_cons (ha : I < a.1) (h : ∀ p ∈ l, p.1 ≠ I) : ∀ p ∈ a :: l, p.1 ≠ I := fun p hp => by
  rcases List.mem_cons.mp hp with rfl | hp
  · exact Nat.ne_of_gt ha
  · exact h p hp
theorem off_ne (ha : a.1 ≠ I) (h : ∀ p ∈ l, p.1 ≠ I) : ∀ p ∈ a :: l, p.1 ≠ I := fun p hp => by
  rcases List.mem_cons.mp hp with rfl | hp
  · exact ha
  · exact h p hp
theorem led_in6 {a b c d e f : Addr × Obj} (N : News g L h (w ++ (a :: b :: c :: d :: e :: f :: l))) : News g L h (a :: b :: c :: d :: e :: f :: (w ++ l)) := fun p hp => N p (by
  simp only [List.mem_cons, List.mem_append] at hp ⊢
  rcases hp with hp | hp | hp | hp | hp | hp | hp | hp <;> simp [hp])
end
noncomputable def WalkAt (ws : List (List (List Int))) (i : Nat) (ys : List Value) (inner : List (Addr × Obj)) : Prop := RRows inner ys (ws.take i)
theorem WalkAt.start {ws : List (List (List Int))} : WalkAt ws 0 [] [] := alnil
theorem WalkAt.step {ws : List (List (List Int))} {i : Nat} {ys vs : List Value} {inner nw : List (Addr × Obj)} {d : List (List Int)} {P : Addr} {c : Nat} (h : WalkAt ws i ys inner) (hd : ws[i]? = some d) (hr : Rows nw vs d) : WalkAt ws (i + 1) (ys ++ [.ref P]) (((P, lobj vs c) :: nw) ++ inner) := by
  unfold WalkAt
  rw [take_snoc hd]
  exact alsnoc (h.sub fun p hp => List.mem_append_right _ hp) ⟨P, c, vs, rfl, List.mem_append_left _ (.head _), hr.sub fun p hp => List.mem_append_left _ (.tail _ hp)⟩
theorem WalkAt.all {ws : List (List (List Int))} {i : Nat} {ys : List Value} {inner : List (Addr × Obj)} (h : WalkAt ws i ys inner) (hi : ws.length ≤ i) : RRows inner ys ws := by
  unfold WalkAt at h; rw [List.take_of_length_le hi] at h; exact h
noncomputable def OffAt (rest : List (Addr × Obj)) (ws : List (List (List Int))) (f : List (List Int)) (i : Nat) (zs : List Value) : Prop := RRows rest zs ((ws.take i).filter fun s => decide (s.take f.length ≠ f))
theorem OffAt.no {rest : List (Addr × Obj)} {ws : List (List (List Int))} {f st : List (List Int)} {i : Nat} {zs : List Value} (h : OffAt rest ws f i zs) (hst : ws[i]? = some st) (hq : st.take f.length = f) : OffAt rest ws f (i + 1) zs := by
  unfold OffAt
  rw [take_snoc hst, List.filter_append, show [st].filter (fun s => decide (s.take f.length ≠ f)) = [] from by rw [List.filter_cons, decide_eq_false (fun z => z hq)]; rfl, List.append_nil]
  exact h
theorem OffAt.yes {rest : List (Addr × Obj)} {ws : List (List (List Int))} {f st : List (List Int)} {i : Nat} {zs us : List Value} {b : Addr} {cb : Nat} (h : OffAt rest ws f i zs) (hst : ws[i]? = some st) (hq : st.take f.length ≠ f) (hb : (b, lobj us cb) ∈ rest) (hu : Rows rest us st) : OffAt rest ws f (i + 1) (zs ++ [.ref b]) := by
  unfold OffAt
  rw [take_snoc hst, List.filter_append, show [st].filter (fun s => decide (s.take f.length ≠ f)) = [st] from by rw [List.filter_cons, if_pos (decide_eq_true hq)]; rfl]
  exact alsnoc h ⟨b, cb, us, rfl, hb, hu⟩
theorem OffAt.all {rest : List (Addr × Obj)} {ws : List (List (List Int))} {f : List (List Int)} {i : Nat} {zs : List Value} (h : OffAt rest ws f i zs) (hi : ws.length ≤ i) : RRows rest zs (ws.filter fun s => decide (s.take f.length ≠ f)) := by
  unfold OffAt at h; rw [List.take_of_length_le hi] at h; exact h
inductive WayAt (pre suf inner : List (Addr × Obj)) (c D2 D4 : Addr) (tv : Value) (ws : List (List (List Int))) (n : Nat) (k : Nat) (m : MapS) (l : List (Addr × Obj)) : Prop
  | mk {W : Addr} {rest : List (Addr × Obj)} {oF : Obj} {x : Option Value} {wv : List Value} {cw : Nat} {w : List (List Int)} (gw : m "way" = some (.ref W)) (g4 : m "walkers" = some (.ref D4)) (gt : m "told" = some tv) (gs : m "slashed" = some (.ref D2))
    (hl : l = pre ++ ((c, oF) :: (suf ++ rest))) (hoF : oF.data = .cell x) (hre : ∀ p ∈ rest, p.1 ≠ c) (hW : (W, lobj wv cw) ∈ rest) (hwv : Rows rest wv w) (hwp : WPre ws w) (hin : ∀ p ∈ inner, p ∈ rest) (hk : k = n - w.length)
inductive WayEnd (pre suf : List (Addr × Obj)) (c D2 : Addr) (tv : Value) (ws : List (List (List Int))) (m : MapS) (l : List (Addr × Obj)) : Prop
  | mk {W : Addr} {rest : List (Addr × Obj)} {oF : Obj} {wv : List Value} {cw : Nat} (gw : m "way" = some (.ref W)) (gt : m "told" = some tv) (gs : m "slashed" = some (.ref D2)) (hl : l = pre ++ ((c, oF) :: (suf ++ rest))) (hW : (W, lobj wv cw) ∈ rest) (hwv : Rows rest wv (comN ws))
inductive TwoAt (D1 D2 : Addr) (tv : Value) (m : MapS) : Prop
  | mk (gp : m "paths" = some (.ref D1)) (gt : m "told" = some tv) (gs : m "slashed" = some (.ref D2))
inductive DueAt (W : Addr) (tv : Value) (f : Nat → List Int) (n0 : List (Addr × Obj)) (i : Nat) (m : MapS) (l : List (Addr × Obj)) : Prop
  | mk {D : Addr} {us : List Value} {cd : Nat} {w : List (Addr × Obj)} (gd : m "due" = some (.ref D)) (gt : m "told" = some tv) (gw : m "way" = some (.ref W)) (hl : l = w ++ n0) (hD : (D, lobj us cd) ∈ w ++ n0) (hu : IntsAre us (f i))
theorem way_less {a n : Nat} (h : a < n) {α : Type} {w : List α} {x : α} (e : w.length = a := by rfl) : n - (w ++ [x]).length < n - a := by
  rw [List.length_append, e]; show n - (a + 1) < n - a; (first | lia | omega)
theorem steps_len {r : List Int} {n : Nat} (h : r.length ≤ n) : (stepsI r).length ≤ n + 1 := by
  have e1 := (sfold_len (r ++ [47])).1
  rw [List.length_append] at e1
  have e3 : [(47 : Int)].length = 1 := rfl
  show (sfold (r ++ [47])).1.length ≤ n + 1
  (first | lia | omega)
theorem exec_mergeM {M : Model} {A : Around} {E : Value → Shared → Prop} {s : Shared} {env : Env} {Q : Flow → Shared → Prop} {st : Stmt} {h₀ : Heap} {L : Addr} {m : MapS} (J : MapS → List (Addr × Obj) → Prop) (_F : Fr h₀ L s.heap m)
    (step : ∀ K : Flow → Shared → Prop, (∀ h' tk m' l, Fr h₀ L h' m' → News h₀ L h' l → J m' l → K .next { s with heap := h', toks := tk }) → wpAny M A (exec st env) K E s)
    (next : ∀ h' tk m' l, Fr h₀ L h' m' → News h₀ L h' l → J m' l → Q .next { s with heap := h', toks := tk }) : wpAny M A (exec st env) Q E s := step Q next
theorem take_ne {α : Type} {l : List α} {i : Nat} (h1 : 1 ≤ i) (h2 : i < l.length) : l.take i ≠ [] := fun e => by
  have := congrArg List.length e
  rw [List.length_take, List.length_nil] at this; (first | lia | omega)
theorem drop_ne {α : Type} {l : List α} {i : Nat} (h2 : i < l.length) : l.drop i ≠ [] := fun e => by
  have := congrArg List.length e
  rw [List.length_drop, List.length_nil] at this; (first | lia | omega)
theorem two_len {α : Type} {a b : List α} (h1 : a.length ≤ 122) (h2 : b.length ≤ 122) : lensL [a, b] ≤ 1000 := by
  simp [lensL]; (first | lia | omega)
end
section
theorem fill_E9u (w : World) (h : Heap) : PySem.Challenge.rw_ko0128_01.Holds → (Mine.hd.heap_39 w.params).In h → True := by
  w_top off
  k_with_none
  (k_with "MY k_room" => ((try simp only [depth_under_make, depth_under_kw, depth_in1, depth_deeper]); (try unfold recursionLimit); first | exact room_le (by assumption) | exact room_lt (by assumption) | (first | lia | omega)))
  (k_with "MY top" => first | assumption | exact Top.keeps (by assumption) (Fr.keep (by assumption)))
  (k_with "MY enter" => (refine wpAny_call ?_; (refine' enterK ?kzk1z ?kzk2z ?kzk3z ?kzk4z ?kzk5z ?kzk6z ?kzk7z ?_ ?kzk8z ?kzk9z ?kzk10z ?kzk11z; (case kzk1z => assumption); (case kzk2z => assumption); (case kzk3z => k_room); (case kzk4z => k_is); (case kzk5z => k_is); (case kzk6z => first | exact BindsTo.of_eq rfl | exact binds_K (by k_in) rfl (by k_is) rfl rfl rfl); (case kzk7z => exact locs rfl); (case kzk8z => decide); (case kzk9z => exact rfl); (case kzk10z => exact rfl); (case kzk11z => exact rfl); k_whole; intro LZq hZq FZq NZq; (try dsimp only); (try k_fold))))
  (k_with "call type:type" => (k_here; (with_reducible show wpAny _ _ (call (Value.type "type") [Value.bytes _ _]) _ _ _); refine call_type_of (Tx := "bytes") rfl (by decide) ?_))
  (k_with "call builtin:issubclass" => (k_here; refine call_isub (by first | exact .inl rfl | exact .inr rfl) (News.get (by k_asm) (by k_mem)) ?_))
  (k_with "MY same" => (intro y hy; (try dsimp only); repeat (first | exact rfl | (refine (if_neg ?kzhz).trans ?_; (case kzhz => first | (intro e; subst e; exact absurd hy (by decide)) | (intro e; rw [hy] at e; cases e))))))
  (k_with "assign Tuple" => (k_here; (with_reducible show wpAny _ _ (assign (Expr.Tuple _ _ _) _ (Value.ref _)) _ _ _); k_dflt (refine' kun_list ?kzk1z ?kzk2z ?kzk3z ?kzk4z ?kzk5z ?kzk6z ?_; (case kzk1z => k_asm); (case kzk2z => k_asm); (case kzk3z => kun_lst); (case kzk4z => first | exact rfl | assumption); (case kzk5z => exact rfl); (case kzk6z => exact rfl); k_whole); intro hZq FZq NZq; (try k_sweep)))
  (k_with "assign Tuple" => (k_here; (with_reducible show wpAny _ _ (assign (Expr.Tuple _ _ _) _ (Value.ref _)) _ _ _); k_dflt (refine' unpackN_ ?kzk1z ?kzk2z ?kzk3z ?kzk4z ?kzk5z ?kzk6z ?_; (case kzk1z => k_asm); (case kzk2z => k_asm); (case kzk3z => kun_tup); (case kzk4z => first | exact rfl | assumption); (case kzk5z => exact rfl); (case kzk6z => exact rfl); k_whole); intro hZq FZq NZq; (try k_sweep)))
  (k_with "MY hideT" => (refine hide_post (m := execs _ _) ?_; intro kTE kTEh))
  (k_with "MY hideW" => (intro kWT kWZ kWTh kWZh))
  (k_with "MY showT" => (rename Hid (TurnEnd _ _ _ _ _ _ _) _ => kTEh; refine kTEh _ _ ?_))
  (k_with "MY showW" => (rename Hid (WTurn _ _ _ _ _ _) _ => kWTh; refine kWTh _ _ ?_))
  (k_with "MY showZ" => (rename (∀ s : Shared, _ → _) => kWZh; refine kWZh _ ?_))
  (k_with "execs cons" => (k_here; first | (dsimp only; try (rename Fr _ _ _ _ => kFd; dsimp only at kFd)) | (rename Fr _ _ _ _ => kFd; dsimp only at kFd) | k_gentoks | k_made | ((with_reducible refine wpAny_execs_cons ?_); (try dsimp only); (try k_fold))))
  (k_with "MY k_ne" => (refine neN ?_; (try dsimp only); first | assumption | exact Ne.symm (by assumption) | exact Nat.ne_of_lt (Nat.lt_succ_self _) | exact Nat.ne_of_gt (Nat.lt_succ_self _) | exact Nat.ne_of_lt (Nat.lt_succ_of_lt (Nat.lt_succ_self _)) | exact Nat.ne_of_gt (Nat.lt_succ_of_lt (Nat.lt_succ_self _)) | exact Nat.ne_of_gt (by first | assumption | exact at1 (by assumption) | exact at2 (by assumption) | exact at3 (by assumption) | exact at4 (by assumption) | exact at5 (by assumption) | exact at6 (by assumption) | exact at7 (by assumption) | exact at8 (by assumption)) | (first | lia | omega)))
  (k_with "MY back" => (rename Fr _ _ _ _ => kFZq; rename News _ _ _ _ => kNZq; rename Kp _ _ => hkZq; replace kFZq := Fr.grownK kFZq hkZq; replace kNZq := News.grown kNZq hkZq; clear hkZq))
  (k_with "MY prem" => ((case kzXz => k_in); (case kzTz => walk_at "MY top"); (case kzdz => k_room); k_whole))
  (k_with "call ref" => (k_here; (with_reducible show wpAny _ _ (call (Value.ref 94) [Value.str _ _]) _ _ _); refine' fspath_str ?kzXz ?kzTz ?kzdz ?_; walk_at "MY prem"; intro hZq tkZq hkZq; walk_at "MY back"))
  (k_with "call ref" => (k_here; (with_reducible show wpAny _ _ (call (Value.ref 94) [Value.bytes _ _]) _ _ _); refine' fspath_bytes ?kzXz ?kzTz ?kzdz ?_; walk_at "MY prem"; intro hZq tkZq hkZq; walk_at "MY back"))
  (k_with "exec While BoolOp cons nil" => (k_here; refine Halt.mk ?_))
  (k_with "exec While Compare cons nil" => (k_here; refine Halt.mk ?_))
  (k_with "MY go" => show wpAny _ _ _ _ _ _)
  (k_with "unpackItems ref" => (k_here; k_dflt (refine' unpackItemsN_ ?kzk1z ?kzk2z ?kzk3z ?kzk4z ?kzk5z ?_; (case kzk1z => k_asm); (case kzk2z => k_asm); (case kzk3z => kun_tup); (case kzk4z => first | exact rfl | assumption); (case kzk5z => exact rfl); k_whole); intro hZq FZq NZq; (try k_sweep)))
  (k_with "exec For Name Name cons nil" => (k_here; (rename Fr _ _ _ _ => lFZq); (with_unfolding_all refine' For_invVF lFZq ?kzk1z ?kzk2z ?_; (case kzk1z => exact rfl); (case kzk2z => exact rfl); k_whole)))
  (k_with "exec For Name Call cons nil" => (k_here; (rename Fr _ _ _ _ => lFZq); (with_unfolding_all refine' For_invVF lFZq ?kzk1z ?kzk2z ?_; (case kzk1z => exact rfl); (case kzk2z => exact rfl); k_whole)))
  (k_with "exec For Name Subscript cons nil" => (k_here; (rename Fr _ _ _ _ => lFZq); (with_unfolding_all refine' For_invVF lFZq ?kzk1z ?kzk2z ?_; (case kzk1z => exact rfl); (case kzk2z => exact rfl); k_whole)))
  (k_with "exec For Name IfExp cons nil" => (k_here; (rename Fr _ _ _ _ => lFZq); (with_unfolding_all refine' For_invVF lFZq ?kzk1z ?kzk2z ?_; (case kzk1z => exact rfl); (case kzk2z => exact rfl); k_whole)))
  (k_with "eval ListComp" => (k_here; k_dflt (refine ListComp_G (F₀ := by k_asm) (by with_unfolding_all rfl) (by decide) (by rfl) (by decide) ?_)))
  (k_with "exec Assign cons ListComp" => (k_here; k_dflt (refine Assign_ListComp_G (F₀ := by k_asm) (by rfl) (by with_unfolding_all rfl) (by with_unfolding_all rfl) (by decide) (by rfl) (by decide) (by rfl) (by rfl) ?_)))
  (k_with "CompAt" => (k_here; refine Halt.mk ?_))
  (k_with "call type:zip" => (k_here; refine Halt.mk ?_))
  (k_with "MY open" => unfold Halt)
  (k_with "call builtin:len" => (k_here; (with_reducible show wpAny _ _ (call (Value.builtin "len") [Value.ref _]) _ _ _); k_dflt (refine' len_any ?kzlz ?kzzz ?_; (case kzlz => kmk_list); (case kzzz => first | assumption | exact Nat.le_of_ble_eq_true rfl))))
  (k_with "subscriptTail Name Name ref int" => (k_here; k_dflt (refine' item_nat ?kzlz ?kzxz ?kzzz ?_; (case kzlz => kmk_list); (case kzxz => assumption); (case kzzz => assumption))))
  (k_with "call type:range" => (k_here; (with_reducible show wpAny _ _ (call _ _) (CompAt _ _ _ _ _ _ _ _ _ _ _ _ _ _) _ _); refine Halt.mk ?_))
  (k_with "binaryOp Add ref ref" => (k_here; k_dflt (refine' add_any ?kzFz ?kzNz ?kzlz ?kzbz ?kzzz ?_; (case kzFz => k_asm); (case kzNz => k_asm); (case kzlz => kmk_list); (case kzbz => kmk_list); (case kzzz => (rw [sizeLine_eq]; (try simp only [List.length_cons, List.length_nil]); first | exact sz_one (by assumption) | exact sz_zero (by assumption) | exact sz_one2 (by assumption) (by assumption) | exact sz_zero2 (by assumption) (by assumption) | exact sz_two (by assumption) (by assumption) | decide | (first | lia | omega)))); intro DZq hZq FZq NZq l1; (try k_lt l1); (try k_sweep)))
  (k_with "call builtin:max" => (k_here; (with_reducible show wpAny _ _ (call (Value.builtin "max") [Value.ref _]) _ _ _); k_dflt (refine' max_list_N ?kzhz ?kzFz ?kzNz ?kzlz ?kziz ?kzzz ?_; (case kzhz => first | assumption | exact rfl); (case kzFz => k_asm); (case kzNz => k_asm); (case kzlz => kmk_list); (case kziz => first | assumption | exact (IntsAre.cons _ _ .nil).append (by assumption) | exact IntsAre.cons _ _ (by assumption)); (case kzzz => simp)); intro hZq MZq tZq tkZq FZq NZq hM1Zq hM2Zq; (try k_sweep)))
  (k_with "subscriptTail Name Slice ref ref" => (k_here; (with_reducible show wpAny _ _ (subscriptTail _ (PySem.Expr.Slice _ _ none _) (Value.ref _) (Value.ref _)) _ _ _); k_dflt (refine' slice_any ?kzFz ?kzNz ?kzlz ?kzpz ?kzqz ?_ ?kzsz ?kztz ?kzzz; (case kzFz => k_asm); (case kzNz => k_asm); (case kzlz => kmk_list); (case kzpz => kmk_part); (case kzqz => kmk_part); (case kzsz => with_unfolding_all rfl); (case kztz => kmk_pure); (case kzzz => first | assumption | exact Nat.le_of_ble_eq_true rfl)); intro DZq hZq FZq NZq l1; (try simp only [pick_tail1] at NZq); (try k_lt l1); (try k_sweep)))
  (k_with "MY k_all" => assumption)
  (k_with "MY k_mem" => first | assumption | (refine List.mem_append_right _ ?_; k_mem) | exact List.mem_append_left _ (by assumption))
  (k_with "subscriptTail Name Constant ref int" => (k_here; k_dflt (refine' item_zero ?kzlz ?_; (case kzlz => kmk_list))))
  (k_with "compareOp Eq ref ref" => (k_here; first | k_dflt (refine' ke_eq_ints ?kzaz ?kzbz ?kziz ?kzjz ?kzuz ?_; (case kzaz => kmk_list); (case kzbz => kmk_list); (case kziz => first | assumption | exact IntsAre.nil); (case kzjz => first | assumption | exact IntsAre.nil); (case kzuz => (simp only [units_in1, units_deeper, Around.mark_units]; rw [show cLine = 9900 from rfl]; first | exact units64 (by assumption) | exact units1 (by assumption) | (first | lia | omega)))) | refine Halt.mk ?_))
  (k_with "getMethod bytes" => (k_here; first | with_reducible refine by_starts_m ?_ | with_reducible refine by_ends_m ?_))
  (k_with "call builtin:bytes.startswith" => (k_here; refine by_starts ?_))
  (k_with "call builtin:bytes.endswith" => (k_here; refine by_ends ?_))
  (k_with "truthy bytes" => (k_here; refine truthy_b (by first | (first | lia | omega) | (simp only [List.size_toArray]; (first | lia | omega))) ?_))
  (k_with "binaryOp Add bytes bytes" => (k_here; refine KBy.add_bytes (by (try simp only [Array.size_append]); (try rw [show (#[47] : Array UInt8).size = 1 from rfl]); (first | lia | omega)) ?_; intro tZq kZq))
  (k_with "inplaceOp Add bytes bytes" => (k_here; refine iadd_bytes (by (try simp only [Array.size_append]); (try rw [show (#[47] : Array UInt8).size = 1 from rfl]); (first | lia | omega)) ?_; intro tZq kZq))
  (k_with "MY enterC" => (refine wpAny_call ?_; (refine' enterC ?kzk1z ?kzk2z ?kzk3z ?kzk4z ?kzk5z ?kzk6z ?kzk7z ?kzk7bz ?_ ?kzk9z ?kzk10z ?kzk11z; (case kzk1z => assumption); (case kzk2z => assumption); (case kzk3z => k_room); (case kzk4z => k_is); (case kzk5z => k_is); (case kzk6z => first | exact BindsTo.of_eq rfl | exact binds_K (by k_in) rfl (by k_is) rfl rfl rfl); (case kzk7z => exact fun n x hx => .inl (locs rfl x hx)); (case kzk7bz => decide); (case kzk9z => exact rfl); (case kzk10z => exact rfl); (case kzk11z => exact rfl); k_whole; intro L1 h1 tk1 cells1 F1 N1 Y1; (try dsimp only); (try k_fold))))
  (k_with "call type:map" => (k_here; refine Halt.mk ?_))
  (k_with "call type:tuple" => (k_here; refine Halt.mk ?_))
  (k_with "eval SetComp" => (k_here; refine Halt.mk ?_))
  (k_with "call builtin:min" => (k_here; refine Halt.mk ?_))
  (k_with "call builtin:max" => (k_here; refine Halt.mk ?_))
  (k_with "truthy ref" => (k_here; k_dflt (refine' truthy_tup ?kzhDz ?kzhzz ?_; (case kzhDz => exact (News.get (by k_asm) (by k_mem))); (case kzhzz => assumption))))
  (k_with "subscriptTail Name Constant ref int" => (k_here; k_dflt (refine' tup_zero ?kzhDz ?_; (case kzhDz => exact (News.get (by k_asm) (by k_mem))))))
  (k_with "call builtin:str.split" => (k_here; refine Halt.mk ?_))
  (k_with "call builtin:bytes.split" => (k_here; refine Halt.mk ?_))
  (k_with "getMethod bytes" => (k_here; with_reducible refine by_split_m ?_))
  (k_with "exec For Tuple Call cons nil" => (k_here; refine Halt.mk ?_))
  (k_with "call type:enumerate" => (k_here; refine Halt.mk ?_))
  (k_with "call builtin:str.join" => (k_here; refine Halt.mk ?_))
  (k_with "call builtin:bytes.join" => (k_here; refine Halt.mk ?_))
  (k_with "getMethod bytes" => (k_here; with_reducible refine by_join_m ?_))
  (k_with "exec Raise some none" => (k_here; refine Halt.mk ?_))
  (k_with "exec Raise" => (k_here; refine Halt.mk ?_))
  (k_with "exec If" => (k_here; rename MergeMark => kMM; clear kMM; refine Halt.mk ?_))
  (k_with "exec Expr" => (k_here; rename MergeExpr => kME; clear kME; refine Halt.mk ?_))
  k_fill
  intros; trivial
set_option maxHeartbeats 8000000
inductive SepAt (oct : Bool) (D L : Addr) (tp : Obj) (l : List (Addr × Obj)) : Prop
  | mk {o1 o2 : Obj} {v1 v2 : Value} (hl : l = [(D, tp), (L + 1 + 1, o2), (L + 1, o1)]) (h1 : o1.data = .cell (some v1)) (h2 : o2.data = .cell (some v2)) (hv1 : VC oct v1 [47]) (hv2 : VC oct v2 [46])
section
variable {w : World} {A : Around} {mg mb : Str → Option Value} {mean : ExcName → Option Value} {loose : List Str} {s : Shared} {Q : Value → Shared → Prop} {E : Value → Shared → Prop} {base : Heap} {fs : List Env}
theorem cp_same {oct : Bool} {Lp : Addr} {v0 : Value} {vr : List Value} {d0 : List Nat} {dr : List (List Nat)} (B : Below A base fs s.heap) (X₀ : (Mine.hd.heap_39 w.params).In base) (T₀ : Top Mine.hd.view_39 loose mean mg mb base) (hd : A.depth ≤ 530) (hh : A.handled = none) (hu : A.units ≤ 5000)
    (hp : s.heap.IsList Lp (v0 :: vr : List Value).toArray) (hpv : Al (VC oct) (v0 :: vr) (d0 :: dr)) (hz : lensL (d0 :: dr) ≤ 1000)
    (hG : ∀ ab, (∀ d ∈ d0 :: dr, (d.head? == some 47) = ab) → ∀ h' tk tv, Kp s.heap h' → VC oct tv (cpN (d0 :: dr)) → Q tv { s with heap := h', toks := tk })
    (hW : ((∃ d ∈ d0 :: dr, (d.head? == some 47) = false) ∧ ∃ d ∈ d0 :: dr, (d.head? == some 47) = true) → ∀ h' tk e c, Exc (fs.filterMap (·.frame)) s.heap h' e (.type "ValueError") c true → E (.ref e) { s with heap := h', toks := tk }) :
    wpAny (model PySem.Challenge.rw_ko0128_01.row.prog w) A (call (.ref 106) [.ref Lp]) Q E s := by
  have X := X₀.keeps B.stays
  have T₁ := T₀.keeps B.stays
  have hpl : (v0 :: vr : List Value).length ≤ 1000 := by rw [hpv.1]; exact Nat.le_trans (lensL_ge _) hz
  have hpz : (v0 :: vr : List Value).length ≤ sizeLine := le_size hpl
  walk_at "MY enterC"
  obtain ⟨oc1, oc2, hY, hoc1, hoc2⟩ := CellsAre.two (by assumption)
  subst hY
  k_steps
  walk_at "MY open"
  rename Fr _ _ _ _ => F1
  rename News _ _ _ _ => N1
  refine map_K F1 N1 (hp.at fun o e => F1.keep _ o e) fun M T I h2 F2 N2 off2 n1 n2 n3 n4 => ?_
  clear F1 N1
  k_steps
  walk_at "MY open"
  rename Fr _ _ _ _ => F1
  rename News _ _ _ _ => N1
  refine tuple_K (d := 560) hh (by k_room) F1 N1 (hp.at fun o e => F1.keep _ o e) off2 n2 n3 n4 (fun x hx => ?_) hpz fun D h3 tk3 F3 N3 lt3 => ?_
  · obtain ⟨i, hi⟩ := List.getElem?_of_mem hx
    obtain ⟨b, _, hb⟩ := hpv.2 i x hi
    cases oct with
    | false => obtain ⟨y, ty, rfl, _⟩ := hb; exact fspath_id (x := .t y) X T₁ ⟨ty, rfl⟩
    | true => obtain ⟨y, ty, rfl, _⟩ := hb; exact fspath_id (x := .b y) X T₁ ⟨ty, rfl⟩
  clear F1 N1 off2 n1 n2 n3 n4
  have o1 := neN (Nat.ne_of_gt (lt3 _ (.head _)))
  have o2 := neN (Nat.ne_of_gt (lt3 _ (.tail _ (.head _))))
  dsimp only at o1 o2
  clear lt3
  have kMM := MergeMark.mk
  k_steps
  walk_at "MY open"
  walk1
  have kMM := MergeMark.mk
  k_steps
  walk_at "MY open"
  rename Fr _ _ _ _ => F1
  rename News _ _ _ _ => N1
  refine exec_mergeJ F1 (SepAt oct D L1 { cls := .type "tuple", data := .seq (v0 :: vr : List Value).toArray }) ?_ ?_
  · intro K hK
    obtain ⟨dz, _, hv0⟩ := hpv.2 0 v0 rfl
    cases oct with
    | false =>
      obtain ⟨x0, t0, rfl, _⟩ := hv0
      k_steps
      exact hK _ _ _ (by k_asm) (by k_asm) (.mk rfl (by assumption) (by assumption) ⟨_, _, rfl, by decide⟩ ⟨_, _, rfl, by decide⟩)
    | true =>
      obtain ⟨x0, t0, rfl, _⟩ := hv0
      k_steps
      exact hK _ _ _ (by k_asm) (by k_asm) (.mk rfl (by assumption) (by assumption) ⟨_, _, rfl, by decide⟩ ⟨_, _, rfl, by decide⟩)
  intro h4 tk4 l4 F4 N4 hS
  obtain @⟨ob1, ob2, sv, cv, rfl, hb1, hb2, hsv, hcv⟩ := hS
  clear F1 N1
  k_steps
  k_dflt (refine wpAny_Try_except ?_)
  refine hide2P (by first | passes_own | with_unfolding_all passes_own) ?_
  intro K1 E1 hK1 hE1 hP1
  k_steps
  walk_at "MY open"
  rename Fr _ _ _ _ => F1
  rename News _ _ _ _ => N1
  try dsimp only
  refine src_tupN (vs := v0 :: vr) (RowsAt (spl 47) oct (d0 :: dr)) hh F1 N1 ⟨_, (N1 (D, _) (by k_mem)).1, rfl, _, rfl⟩ (N1 (D, { cls := .type "tuple", data := .seq (v0 :: vr : List Value).toArray }) (by k_mem)).2.1 hpz rfl rfl .start ?_ ?_
  · intro i v C oC D2 m₂ h₂ tk own ys inner K E' hv hys hm hC F₂ N₂ hK
    obtain ⟨d, hdi, hvd⟩ := hpv.2 i v hv
    clear F1 N1 hG hW
    cases oct with
    | false =>
      obtain ⟨x, t, rfl, rfl⟩ := hvd
      obtain ⟨sx, st, rfl, hsx⟩ := hsv
      obtain rfl : sx = Str.ofString "/" := cpl_inj (hsx.trans (by decide))
      have hxl : x.length ≤ 1000 := by rw [← cpl_len]; exact Nat.le_trans (row_len2 (List.mem_of_getElem? hdi)) hz
      k_steps
      walk_at "MY open"
      rename Fr _ _ _ _ => F4
      rename News _ _ _ _ => N4
      refine split_s F4 N4 hxl fun D3 us h5 tk5 hus F5 N5 lt5 => ?_
      clear F4 N4
      k_steps
      exact hK _ _ _ [(_, _)] F5 N5 (apart_one lt5) (hys.step hdi hus)
    | true =>
      obtain ⟨x, t, rfl, rfl⟩ := hvd
      obtain ⟨sx, st, rfl, hsx⟩ := hsv
      obtain rfl : sx = #[47] := nats_inj (hsx.trans (by decide))
      have hxl : x.size ≤ 1000 := by rw [← nats_len]; exact Nat.le_trans (row_len2 (List.mem_of_getElem? hdi)) hz
      k_steps
      walk_at "MY open"
      rename Fr _ _ _ _ => F4
      rename News _ _ _ _ => N4
      refine split_b F4 N4 hxl fun D3 us h5 tk5 hus F5 N5 lt5 => ?_
      clear F4 N4
      k_steps
      exact hK _ _ _ [(_, _)] F5 N5 (apart_one lt5) (hys.step hdi hus)
  intro g tk ys inner hin hys D2 h₂ tk₂ F₂ N₂ hoff
  replace hys := hys.all (Nat.le_of_eq hpv.1.symm)
  clear F1 N1
  k_steps
  k_dflt (refine wpAny_Try_except ?_)
  refine hide2 ?_
  intro K2 E2 hK2 hE2
  k_steps
  walk_at "MY open"
  have p1 := Ne.symm (hoff _ (List.mem_append_right _ (.head _)))
  have p2 := Ne.symm (hoff _ (List.mem_append_right _ (.tail _ (.head _))))
  have p3 := Ne.symm (hoff _ (List.mem_append_right _ (.tail _ (.tail _ (.head _)))))
  have r1 := hin.one (.head _)
  have r2 := hin.one (.tail _ (.head _))
  have r3 := hin.one (.tail _ (.tail _ (.head _)))
  have r4 : ∀ p ∈ inner, p.1 ≠ D2 := fun p hp => hoff p (List.mem_append_left _ hp)
  replace p1 := neN p1
  replace p2 := neN p2
  replace p3 := neN p3
  dsimp only at p1 p2 p3 r1 r2 r3
  have N4 := led_turn N₂
  clear N₂ hin hoff
  rename Fr _ _ _ _ => F₂
  refine SetComp_bools (gF (d0 :: dr)) F₂ N4 hh (List.mem_cons_self ..) (by with_unfolding_all rfl) (by decide) (by rfl) (by decide) (by rfl) ?_ ?_ ?_
  · k_steps
    exact ⟨rfl, _, _, rfl, by k_asm, N4⟩
  · intro i v C oC m₂ h5 tk5 own E' hv hm hC F5 N5
    obtain ⟨d, hdi, hvd⟩ := hpv.2 i v hv
    clear F₂ N4 hG hW
    cases oct with
    | false =>
      obtain ⟨x, t, rfl, rfl⟩ := hvd
      obtain ⟨sx, st, rfl, hsx⟩ := hsv
      obtain rfl : sx = Str.ofString "/" := cpl_inj (hsx.trans (by decide))
      have hxl : x.length ≤ 1000 := by rw [← cpl_len]; exact Nat.le_trans (row_len2 (List.mem_of_getElem? hdi)) hz
      k_steps
      rename Fr _ _ _ _ => F6
      rename News _ _ _ _ => N6
      refine ⟨?_, _, _, rfl, F6, N6⟩
      rw [gF_at hdi]
      exact congrArg Value.bool (starts_sl x)
    | true =>
      obtain ⟨x, t, rfl, rfl⟩ := hvd
      obtain ⟨sx, st, rfl, hsx⟩ := hsv
      obtain rfl : sx = #[47] := nats_inj (hsx.trans (by decide))
      have hxl : x.size ≤ 1000 := by rw [← nats_len]; exact Nat.le_trans (row_len2 (List.mem_of_getElem? hdi)) hz
      k_steps
      rename Fr _ _ _ _ => F6
      rename News _ _ _ _ => N6
      refine ⟨?_, _, _, rfl, F6, N6⟩
      rw [gF_at hdi]
      exact congrArg Value.bool (starts_by x)
  intro D3 ep h6 tk6 F6 N6 off6
  clear F₂ N4
  rcases slash_ways (ds := d0 :: dr) (fun d => d.head? == some 47) with ⟨ab, hab⟩ | ⟨⟨u0, hu0, eu0⟩, ⟨u1, hu1, eu1⟩⟩
  rotate_left 1
  · have gf : ∀ d ∈ d0 :: dr, ∃ i, i < (d0 :: dr).length ∧ gF (d0 :: dr) i = (d.head? == some 47) := fun d hd => by
      obtain ⟨i, hi⟩ := List.getElem?_of_mem hd
      exact ⟨i, (List.getElem?_eq_some_iff.mp hi).1, gF_at hi⟩
    obtain ⟨i0, l0, g0⟩ := gf u0 hu0
    obtain ⟨i1, l1, g1⟩ := gf u1 hu1
    rw [eu0] at g0
    rw [eu1] at g1
    rw [← hpv.1] at l0 l1
    rw [flF_true g0 _ l0, flT_true g1 _ l1] at N6
    k_steps
    refine assign_bset2 hh (N6 _ (.head _)).1 fun h7 tk7 e hx => ?_
    refine hE2 _ _ ?_
    have h1n : s.heap.get? L1 = none := fr_none F6
    have hled := fun q hq => (N6 q hq).2.2
    obtain ⟨gg, fobs, GG, kf0⟩ := gnd B
    have N2 := GG.led kf0 F6 N6
    have F2 := GG.fr F6
    have X2 := X₀.keeps GG.bg
    have T2 := T₀.keeps GG.bg
    clear F6 N6
    refine catch_hitE (base := base) (fs := fs) (g := gg) B GG F2 N2 (fun q hq hm => ?_) rfl rfl (Exc.of_new (S := []) hx) (fun _ hb => (nomatch hb)) (testE_one (A₀ := A) (mean := fun _ => none) (c := .type "ValueError") X2 ?_ ?_) fun h8 oe To oT fobs' G8 F8 N8 hob => ?_
    · obtain ⟨_, o, ho, _⟩ := B.frames.mem hm
      rw [hled q hq] at ho; cases ho
    · kts_exm
    · intro M' A' E' Q' s' m' F' q'
      with_unfolding_all exact nameX_B F' X2 (topRead_of T2) (by k_is) (by boot_by_name) (by decide) q'
    simp only [List.cons_append, List.nil_append] at N8
    clear F2 N2
    k_steps
    walk_at "MY open"
    rename Fr _ _ _ _ => F9
    rename News _ _ _ _ => N9
    have k9 := fun p (hp : p ∈ fobs') => (N9 p (by simp only [List.mem_cons, List.mem_append]; simp only [hp, or_true])).1
    have hoe := (N9 _ (.head _)).1
    obtain ⟨vs8, ts8, a1, a2, a3, a4, a5, a6, a7, a8⟩ := hob
    refine Raise_none PySem.F.excCall_ValueError PySem.F.excRaise_ValueError rfl ?_
    walk1
    refine ⟨rfl, evalArgs_c ?_⟩
    k_steps
    all_goals first
      | trivial
      | exact .inr ⟨e, oe, vs8, rfl, F9.keep _ _ hoe, a2, a4⟩
      | exact .inr ⟨e, oe, vs8, rfl, hoe, a2, a4⟩
      | (rename Exc _ _ _ _ _ _ _ => hx2
         refine handler_out (G8.below B F9 k9 rfl rfl) rfl (hx2.mono fun _ hb => (nomatch hb)) fun h11 x11 => ?_
         refine hE1 _ _ ?_
         refine catch_into B G8 F9 k9 rfl rfl x11 (fun _ hb => hb) fun h12 x12 => ?_
         refine catch_missE G8 F9 rfl x12 (testE_two (c1 := .type "TypeError") (c2 := .type "AttributeError") X2 ?_ ?_ ?_) fun h13 x13 => ?_
         · kts_exm
         · intro M' A' E' Q' s' m' F' q'
           with_unfolding_all exact nameX_B F' X2 (topRead_of T2) (by k_is) (by boot_by_name) (by decide) q'
         · intro M' A' E' Q' s' m' F' q'
           with_unfolding_all exact nameX_B F' X2 (topRead_of T2) (by k_is) (by boot_by_name) (by decide) q'
         refine handle_nil x13 fun h14 x14 => ?_
         k_unfold
         exact leave_gnd (G8.below B F9 k9 rfl rfl) G8 F9 k9 h1n rfl x14 fun h15 x15 => hW ⟨⟨u0, hu0, eu0⟩, ⟨u1, hu1, eu1⟩⟩ h15 _ _ _ x15)
  k_steps
  refine assign_bset1 (b := ab) F6 N6 rfl hh (.head _) (fl_same _ (fun i hi => ?_) (by simp)) (by rfl) (by rfl) fun h7 tk7 F7 N7 => ?_
  · rw [hpv.1] at hi
    rw [gF_at (List.getElem?_eq_getElem hi)]
    exact hab _ (List.getElem_mem hi)
  have r5 : ∀ p ∈ inner, p.1 ≠ D3 := fun p hp => off6 p (.tail _ (.tail _ (.tail _ (.tail _ hp))))
  have p4 := neN (Ne.symm (off6 _ (.head _)))
  have p5 := neN (Ne.symm (off6 _ (.tail _ (.head _))))
  have p6 := neN (Ne.symm (off6 _ (.tail _ (.tail _ (.head _)))))
  have p7 := neN (Ne.symm (off6 _ (.tail _ (.tail _ (.tail _ (.head _))))))
  dsimp only at p4 p5 p6 p7
  clear F6 N6 off6
  k_steps
  refine hK2 _ _ ?_
  clear hK2 hE2
  k_steps
  walk_at "MY open"
  rename Fr _ _ _ _ => F1
  rename News _ _ _ _ => N1
  have hyl : ys.length ≤ 1000 := by rw [hys.1, List.length_map]; exact Nat.le_trans (lensL_ge _) hz
  try dsimp only
  refine src_listN (vs := ys) (RowsAt stepsN oct (d0 :: dr)) hh F1 N1 (News.isList N1 (by k_mem)) (N1 (D2, LCg.lst ys) (by k_mem)).2.1 (le_size hyl) rfl rfl .start ?_ ?_
  · intro i v C oC D4 m₂ h₂ tk own zs in2 K E' hv hzs hm hC F₂ N₂ hK
    obtain ⟨sd, hsd, b, cb, us, rfl, hbm, hus⟩ := hys.2 i v hv
    rw [List.getElem?_map] at hsd
    obtain ⟨d, hdi, rfl⟩ := Option.map_eq_some_iff.mp hsd
    clear F1 N1
    have hdl := Nat.le_trans (row_len2 (List.mem_of_getElem? hdi)) hz
    k_steps
    walk_at "MY open"
    rename Fr _ _ _ _ => F4
    rename News _ _ _ _ => N4
    have hul : us.length ≤ 1001 := by rw [hus.1]; exact Nat.le_trans (spl_len 47 d) (Nat.succ_le_succ hdl)
    have eb := N4 (b, lobj us cb) (List.mem_append_right _ (.tail _ (.tail _ (List.mem_append_right _ (.tail _ (.tail _ (.tail _ (.tail _ (.tail _ hbm)))))))))
    try dsimp only
    refine src_listF (vs := us) (KeepAt oct (spl 47 d)) hh F4 N4 ⟨_, eb.1, rfl, _, rfl⟩ eb.2.1 (le_size hul) rfl rfl alnil ?_ ?_
    · intro j v C2 oC2 D5 m₃ h₃ tk3 own2 ws K2 Z2 E2 hv hws hm2 hC2 F5 N5 hK2 hZ2
      obtain ⟨p, hpj, hvp⟩ := hus.2 j v hv
      clear F4 N4 hG
      cases oct with
      | false =>
        obtain ⟨x, t, rfl, rfl⟩ := hvp
        obtain ⟨sx, st, rfl, hsx⟩ := hcv
        obtain rfl : sx = Str.ofString "." := cpl_inj (hsx.trans (by decide))
        have hxl : x.length ≤ 1000 := by rw [← cpl_len]; exact Nat.le_trans (spl_mem_len (List.mem_of_getElem? hpj)) hdl
        k_steps
        · exact hK2 _ _ _ (by k_asm) (by k_asm) (alfilt_yes hpj (keep_s1 (by assumption) (by assumption)) hws ⟨x, t, rfl, rfl⟩)
        · exact hZ2 _ _ (by k_asm) (by k_asm) (alfilt_no hpj (keep_s2 (by assumption)) hws)
        · exact hZ2 _ _ (by k_asm) (by k_asm) (alfilt_no hpj (keep_s3 (by assumption)) hws)
      | true =>
        obtain ⟨x, t, rfl, rfl⟩ := hvp
        obtain ⟨sx, st, rfl, hsx⟩ := hcv
        obtain rfl : sx = #[46] := nats_inj (hsx.trans (by decide))
        have hxl : x.size ≤ 1000 := by rw [← nats_len]; exact Nat.le_trans (spl_mem_len (List.mem_of_getElem? hpj)) hdl
        k_steps
        · exact hZ2 _ _ (by k_asm) (by k_asm) (alfilt_no hpj (keep_b3 (by assumption)) hws)
        · exact hK2 _ _ _ (by k_asm) (by k_asm) (alfilt_yes hpj (keep_b1 (by assumption) (by assumption)) hws ⟨x, t, rfl, rfl⟩)
        · exact hZ2 _ _ (by k_asm) (by k_asm) (alfilt_no hpj (keep_b2 (by assumption)) hws)
    intro g5 tk5 ws hws D5 h5 tk6 F5 N5 hoff2
    replace hws := hws.all (Nat.le_of_eq hus.1.symm)
    clear F4 N4
    k_steps
    exact hK _ _ _ [(_, _)] (by k_asm) N5 (apart_cons hoff2 apart_nil) (hzs.step hdi hws)
  intro g7 tk8 zs in2 hin2 hzs D4 h8 tk9 F2 N2 hoff
  replace hzs := hzs.all (by rw [hys.1, List.length_map]; exact Nat.le_refl _)
  clear F1 N1 hoff hin2
  k_steps
  walk_at "MY open"
  have hzl : zs.length ≤ 1000 := by rw [hzs.1, List.length_map]; exact Nat.le_trans (lensL_ge _) hz
  refine call_min_rows hh (by simp only [units_in1, units_deeper, Around.mark_units]; rw [show cLine = 9900 from rfl]; (first | lia | omega)) (News.isList N2 (.head _)) hzs (fun p hp => (N2 p (.tail _ (List.mem_append_left _ hp))).1) (by rw [hzs.1]; simp) fun v1 d1 j1 h9 tk10 hv1 hd1 hmin k9 => ?_
  rename Fr _ _ _ _ => F2
  have F3 := F2.grownK k9
  have N3 := N2.grown k9
  clear F2 N2
  k_steps
  walk_at "MY open"
  rename Fr _ _ _ _ => F2
  rename News _ _ _ _ => N2
  refine call_max_rows hh (by simp only [units_in1, units_deeper, Around.mark_units]; rw [show cLine = 9900 from rfl]; (first | lia | omega)) (News.isList N2 (.head _)) hzs (fun p hp => (N2 p (.tail _ (List.mem_append_left _ hp))).1) (by rw [hzs.1]; simp) fun v2 d2 j2 h10 tk11 hv2 hd2 hmax k10 => ?_
  have F4 := F2.grownK k10
  have N4 := N2.grown k10
  clear F2 N2
  obtain ⟨e1, he1, b1, c1, us1, rfl, hm1, hus1⟩ := hzs.2 j1 v1 hv1
  obtain rfl : d1 = e1 := Option.some.inj (hd1.symm.trans he1)
  obtain ⟨e2, he2, b2, c2, us2, rfl, hm2, hus2⟩ := hzs.2 j2 v2 hv2
  obtain rfl : d2 = e2 := Option.some.inj (hd2.symm.trans he2)
  k_steps
  walk_at "MY open"
  rename Fr _ _ _ _ => F6
  rename News _ _ _ _ => N6
  have hmd1 := List.mem_of_getElem? hd1
  have hmd2 := List.mem_of_getElem? hd2
  have hl21 := hmax d1 hmd1
  have hrow : ∀ d ∈ (d0 :: dr).map stepsN, d.length ≤ 1001 ∧ (d.map fun p => p.length + 1).sum ≤ 100000 := fun d hd => by
    obtain ⟨l, hl, rfl⟩ := List.mem_map.mp hd
    exact steps_small (Nat.le_trans (row_len2 hl) hz)
  have hul1 : us1.length ≤ sizeLine := by rw [hus1.1]; exact le_size (hrow d1 hmd1).1
  have hul2 : us2.length ≤ sizeLine := by rw [hus2.1]; exact le_size (hrow d2 hmd2).1
  refine com_merge oct ab (com2 d1 d2) F6 N6 ?_ fun h11 tk12 m11 w11 R cR usR F7 N7 gi gc hR11 hus11 => ?_
  · intro K hK
    k_dflt (refine For_T ?_)
    k_steps
    walk_at "MY open"
    rename Fr _ _ _ _ => F6
    try dsimp only
    refine enumK (vs := us1) (ComAt ab b1 b2 d1 d2) _ hh F6 N6 rfl ⟨_, (N6 (b1, lobj us1 c1) (List.mem_cons_of_mem _ (List.mem_append_left _ hm1))).1, rfl, _, rfl⟩ (N6 (b1, lobj us1 c1) (List.mem_cons_of_mem _ (List.mem_append_left _ hm1))).2.1 (.mk rfl rfl rfl rfl (by simp)) (by rfl) (by rfl) (by rfl) ?_ ?_ (fun m l h tk hJ F N => hK h tk m l F N hJ) hP1
    · intro i tv v m₁ h tk own K2 hv hJ F8 N8 hK2 hB2
      obtain ⟨gi, g1, g2, gc, ht⟩ := hJ
      obtain ⟨p, hp1, hvp⟩ := hus1.2 i v hv
      have hi1 := (List.getElem?_eq_some_iff.mp hp1).1
      have hi2 := lex_len ht hi1 hl21
      have hi3 : i < us2.length := by rw [hus2.1]; exact hi2
      obtain ⟨q, hp2, hvq⟩ := hus2.2 i _ (List.getElem?_eq_getElem hi3)
      have hw := List.getElem?_eq_getElem hi3
      rw [map4k gi g1 g2 gc] at F8
      clear F6 N6
      clear hG
      cases oct with
      | false =>
        obtain ⟨x, t, rfl, rfl⟩ := hvp
        obtain ⟨y, t2, hvy, rfl⟩ := hvq
        rw [hvy] at hw
        k_steps
        · rename Fr _ _ _ _ => F9
          rename News _ _ _ _ => N9
          rename ((x != y) = true) => hxy
          rw [ne_s, decide_eq_true_eq] at hxy
          rw [pick_up] at N9
          have hc := com2_take ht (Nat.le_of_lt hi1) (fun a b ha hb => by
            obtain rfl := Option.some.inj (hp1.symm.trans ha)
            obtain rfl := Option.some.inj (hp2.symm.trans hb)
            exact hxy) (fun _ => hi2)
          exact hB2 _ _ _ _ F9 N9 (.mk (w := _ :: own) (cR := 0) (us := us1.take i) rfl rfl rfl (.head _) (by rw [hc]; exact al_take hus1 i))
        · rename ((x != y) = false) => hxy
          rw [ne_s, decide_eq_false_iff_not] at hxy
          have hxy := Classical.not_not.mp hxy
          exact hK2 _ _ _ _ (.inl rfl) (by k_asm) (by k_asm) (.mk rfl rfl rfl rfl (by rw [take_snoc hp1, take_snoc hp2, ht, hxy]))
      | true =>
        obtain ⟨x, t, rfl, rfl⟩ := hvp
        obtain ⟨y, t2, hvy, rfl⟩ := hvq
        rw [hvy] at hw
        k_steps
        · rename Fr _ _ _ _ => F9
          rename News _ _ _ _ => N9
          rename ((x.toList != y.toList) = true) => hxy
          rw [nats_ne, decide_eq_true_eq] at hxy
          rw [pick_up] at N9
          have hc := com2_take ht (Nat.le_of_lt hi1) (fun a b ha hb => by
            obtain rfl := Option.some.inj (hp1.symm.trans ha)
            obtain rfl := Option.some.inj (hp2.symm.trans hb)
            exact hxy) (fun _ => hi2)
          exact hB2 _ _ _ _ F9 N9 (.mk (w := _ :: own) (cR := 0) (us := us1.take i) rfl rfl rfl (.head _) (by rw [hc]; exact al_take hus1 i))
        · rename ((x.toList != y.toList) = false) => hxy
          rw [nats_ne, decide_eq_false_iff_not] at hxy
          have hxy := Classical.not_not.mp hxy
          exact hK2 _ _ _ _ (.inl rfl) (by k_asm) (by k_asm) (.mk rfl rfl rfl rfl (by rw [take_snoc hp1, take_snoc hp2, ht, hxy]))
    · intro m₁ hJ
      obtain ⟨gi, g1, g2, gc, ht⟩ := hJ
      have hl : us1.length = d1.length := hus1.1
      rw [hl, List.take_length] at ht
      have hc := com2_take (a := d1) (b := d2) (i := d1.length) (by rw [List.take_length]; exact ht) (Nat.le_refl _) (fun a b ha _ => by rw [List.getElem?_eq_none (Nat.le_refl _)] at ha; cases ha) (fun q => absurd q (Nat.lt_irrefl _))
      rw [List.take_length] at hc
      exact .mk (w := []) gi gc rfl (List.mem_cons_of_mem _ (List.mem_append_left _ hm1)) (by rw [hc]; exact hus1)
  rw [map2k gi gc] at F7
  clear F6 N6
  have hcom := com_min_max hmd1 hmd2 hmin hmax
  rw [hcom] at hus11
  have hcs := pre_sum (comN_pre hmd1) (hrow d1 hmd1).2
  have hcp := cpN_cons (dr := dr) (hab d0 (.head _))
  replace hG := hG ab hab
  rw [hcp] at hG
  cases oct with
  | false =>
    obtain ⟨sx, st, rfl, hsx⟩ := hsv
    obtain rfl : sx = Str.ofString "/" := cpl_inj (hsx.trans (by decide))
    k_steps
    · walk_at "MY open"
      rename News _ _ _ _ => N9
      refine join_s (N9 (R, lobj usR cR) hR11).1 hus11 hcs fun y ty tk hy => ?_
      have hyl : y.length ≤ 100000 := by rw [← cpl_len, hy]; exact Nat.le_trans (ijoin_lenN _) hcs
      k_steps
      refine hK1 _ _ ?_
      k_steps
      rename (ab = true) => hb1
      exact hG _ _ _ (Fr.keep (by k_asm)) ⟨_, _, rfl, by rw [cpl_app, hy, hb1]; rfl⟩
    · walk_at "MY open"
      rename News _ _ _ _ => N9
      refine join_s (N9 (R, lobj usR cR) hR11).1 hus11 hcs fun y ty tk hy => ?_
      have hyl : y.length ≤ 100000 := by rw [← cpl_len, hy]; exact Nat.le_trans (ijoin_lenN _) hcs
      k_steps
      refine hK1 _ _ ?_
      k_steps
      rename (ab = false) => hb1
      exact hG _ _ _ (Fr.keep (by k_asm)) ⟨_, _, rfl, by rw [cpl_app, hy, hb1]; rfl⟩
  | true =>
    obtain ⟨sx, st, rfl, hsx⟩ := hsv
    obtain rfl : sx = #[47] := nats_inj (hsx.trans (by decide))
    k_steps
    · walk_at "MY open"
      rename News _ _ _ _ => N9
      refine join_b (N9 (R, lobj usR cR) hR11).1 hus11 hcs fun y ty tk hy => ?_
      have hyl : y.size ≤ 100000 := by rw [← nats_len, hy]; exact Nat.le_trans (ijoin_lenN _) hcs
      k_steps
      refine hK1 _ _ ?_
      k_steps
      rename (ab = true) => hb1
      exact hG _ _ _ (Fr.keep (by k_asm)) ⟨_, _, rfl, by rw [nats_app, hy, hb1]; rfl⟩
    · walk_at "MY open"
      rename News _ _ _ _ => N9
      rw [pick0]
      have hz0 : (#[] : Array UInt8).size = 0 := rfl
      refine join_b (N9 (R, lobj usR cR) hR11).1 hus11 hcs fun y ty tk hy => ?_
      have hyl : y.size ≤ 100000 := by rw [← nats_len, hy]; exact Nat.le_trans (ijoin_lenN _) hcs
      k_steps
      refine hK1 _ _ ?_
      k_steps
      rename (ab = false) => hb1
      exact hG _ _ _ (Fr.keep (by k_asm)) ⟨_, _, rfl, by rw [nats_app, hy, hb1]; rfl⟩
end
end
section
theorem fill_E11 (w : World) (h : Heap) : PySem.Challenge.rw_ko0128_01.Holds → (Mine.hd.heap_39 w.params).In h → True := by
  w_top off
  k_with_none
  (k_with "MY k_room" => ((try simp only [depth_under_make, depth_under_kw, depth_in1, depth_deeper]); (try unfold recursionLimit); first | exact room_le (by assumption) | exact room_lt (by assumption) | (first | lia | omega)))
  (k_with "MY top" => first | assumption | exact Top.keeps (by assumption) (Fr.keep (by assumption)))
  (k_with "MY enter" => (refine wpAny_call ?_; (refine' enterK ?kzk1z ?kzk2z ?kzk3z ?kzk4z ?kzk5z ?kzk6z ?kzk7z ?_ ?kzk8z ?kzk9z ?kzk10z ?kzk11z; (case kzk1z => assumption); (case kzk2z => assumption); (case kzk3z => k_room); (case kzk4z => k_is); (case kzk5z => k_is); (case kzk6z => first | exact BindsTo.of_eq rfl | exact binds_K (by k_in) rfl (by k_is) rfl rfl rfl); (case kzk7z => exact locs rfl); (case kzk8z => decide); (case kzk9z => exact rfl); (case kzk10z => exact rfl); (case kzk11z => exact rfl); k_whole; intro LZq hZq FZq NZq; (try dsimp only); (try k_fold))))
  (k_with "call type:type" => (k_here; (with_reducible show wpAny _ _ (call (Value.type "type") [Value.bytes _ _]) _ _ _); refine call_type_of (Tx := "bytes") rfl (by decide) ?_))
  (k_with "call builtin:issubclass" => (k_here; refine call_isub (by first | exact .inl rfl | exact .inr rfl) (News.get (by k_asm) (by k_mem)) ?_))
  (k_with "MY same" => (intro y hy; (try dsimp only); repeat (first | exact rfl | (refine (if_neg ?kzhz).trans ?_; (case kzhz => first | (intro e; subst e; exact absurd hy (by decide)) | (intro e; rw [hy] at e; cases e))))))
  (k_with "assign Tuple" => (k_here; (with_reducible show wpAny _ _ (assign (Expr.Tuple _ _ _) _ (Value.ref _)) _ _ _); k_dflt (refine' kun_list ?kzk1z ?kzk2z ?kzk3z ?kzk4z ?kzk5z ?kzk6z ?_; (case kzk1z => k_asm); (case kzk2z => k_asm); (case kzk3z => kun_lst); (case kzk4z => first | exact rfl | assumption); (case kzk5z => exact rfl); (case kzk6z => exact rfl); k_whole); intro hZq FZq NZq; (try k_sweep)))
  (k_with "assign Tuple" => (k_here; (with_reducible show wpAny _ _ (assign (Expr.Tuple _ _ _) _ (Value.ref _)) _ _ _); k_dflt (refine' unpackN_ ?kzk1z ?kzk2z ?kzk3z ?kzk4z ?kzk5z ?kzk6z ?_; (case kzk1z => k_asm); (case kzk2z => k_asm); (case kzk3z => kun_tup); (case kzk4z => first | exact rfl | assumption); (case kzk5z => exact rfl); (case kzk6z => exact rfl); k_whole); intro hZq FZq NZq; (try k_sweep)))
  (k_with "MY hideT" => (refine hide_post (m := execs _ _) ?_; intro kTE kTEh))
  (k_with "MY hideW" => (intro kWT kWZ kWTh kWZh))
  (k_with "MY showT" => (rename Hid (TurnEnd _ _ _ _ _ _ _) _ => kTEh; refine kTEh _ _ ?_))
  (k_with "MY showW" => (rename Hid (WTurn _ _ _ _ _ _) _ => kWTh; refine kWTh _ _ ?_))
  (k_with "MY showZ" => (rename (∀ s : Shared, _ → _) => kWZh; refine kWZh _ ?_))
  (k_with "execs cons" => (k_here; first | (dsimp only; try (rename Fr _ _ _ _ => kFd; dsimp only at kFd)) | (rename Fr _ _ _ _ => kFd; dsimp only at kFd) | k_gentoks | k_made | ((with_reducible refine wpAny_execs_cons ?_); (try dsimp only); (try k_fold))))
  (k_with "MY k_ne" => (refine neN ?_; (try dsimp only); first | assumption | exact Ne.symm (by assumption) | exact Nat.ne_of_lt (Nat.lt_succ_self _) | exact Nat.ne_of_gt (Nat.lt_succ_self _) | exact Nat.ne_of_lt (Nat.lt_succ_of_lt (Nat.lt_succ_self _)) | exact Nat.ne_of_gt (Nat.lt_succ_of_lt (Nat.lt_succ_self _)) | exact Nat.ne_of_gt (by first | assumption | exact at1 (by assumption) | exact at2 (by assumption) | exact at3 (by assumption) | exact at4 (by assumption) | exact at5 (by assumption) | exact at6 (by assumption) | exact at7 (by assumption) | exact at8 (by assumption)) | (first | lia | omega)))
  (k_with "MY back" => (rename Fr _ _ _ _ => kFZq; rename News _ _ _ _ => kNZq; rename Kp _ _ => hkZq; replace kFZq := Fr.grownK kFZq hkZq; replace kNZq := News.grown kNZq hkZq; clear hkZq))
  (k_with "MY prem" => ((case kzXz => k_in); (case kzTz => walk_at "MY top"); (case kzdz => k_room); k_whole))
  (k_with "call ref" => (k_here; (with_reducible show wpAny _ _ (call (Value.ref 94) [Value.str _ _]) _ _ _); refine' fspath_str ?kzXz ?kzTz ?kzdz ?_; walk_at "MY prem"; intro hZq tkZq hkZq; walk_at "MY back"))
  (k_with "call ref" => (k_here; (with_reducible show wpAny _ _ (call (Value.ref 94) [Value.bytes _ _]) _ _ _); refine' fspath_bytes ?kzXz ?kzTz ?kzdz ?_; walk_at "MY prem"; intro hZq tkZq hkZq; walk_at "MY back"))
  (k_with "getMethod bytes" => (k_here; first | with_reducible refine by_starts_m ?_ | with_reducible refine by_ends_m ?_))
  (k_with "call builtin:bytes.startswith" => (k_here; refine by_starts ?_))
  (k_with "call builtin:bytes.endswith" => (k_here; refine by_ends ?_))
  (k_with "truthy bytes" => (k_here; refine truthy_b (by first | (first | lia | omega) | (simp only [List.size_toArray]; (first | lia | omega))) ?_))
  (k_with "binaryOp Add bytes bytes" => (k_here; refine KBy.add_bytes (by (try simp only [Array.size_append]); (try rw [show (#[47] : Array UInt8).size = 1 from rfl]); (first | lia | omega)) ?_; intro tZq kZq))
  (k_with "inplaceOp Add bytes bytes" => (k_here; refine iadd_bytes (by (try simp only [Array.size_append]); (try rw [show (#[47] : Array UInt8).size = 1 from rfl]); (first | lia | omega)) ?_; intro tZq kZq))
  (k_with "eval BinOp" => (k_here; k_fold))
  (k_with "eval Call Attribute" => (k_here; k_fold))
  (k_with "eval IfExp" => (k_here; k_fold))
  (k_with "eval Subscript" => (k_here; k_fold))
  (k_with "isTrue BoolOp" => (k_here; k_fold))
  (k_with "isTrue Compare" => (k_here; k_fold))
  (k_with "eval List" => (k_here; k_fold))
  (k_with "eval Tuple" => (k_here; k_fold))
  k_fill
  intros; trivial
set_option maxHeartbeats 8000000
inductive H11 (n0 : List (Addr × Obj)) (xs : List TB) (i : Nat) (m : MapS) (nx : List (Addr × Obj)) : Prop
  | mk (hl : nx = n0) (g1 : m "hasstr" = some (.bool ((xs.take i).any fun x => !x.isB))) (g2 : m "hasbytes" = some (.bool ((xs.take i).any TB.isB)))
section
variable {w : World} {A : Around} {mg mb : Str → Option Value} {mean : ExcName → Option Value} {loose : List Str} {s : Shared} {Q : Value → Shared → Prop} {E : Value → Shared → Prop} {base : Heap} {fs : List Env}
theorem check_mixed {fn : Str} {t : Tok} {vs : List Value} {xs : List TB} {y : Addr} {oy : Obj} {vy : Array Value} (B : Below A base fs s.heap) (X : (Mine.hd.heap_39 w.params).In s.heap) (T : Top Mine.hd.view_39 loose mean mg mb s.heap) (hd : A.depth ≤ 550)
    (hA : A.handled = some (.ref y)) (hy : s.heap.get? y = some oy) (hdy : oy.data = .fields vy) (hcy : vy[2]? = some .none)
    (hv : Al RTB vs xs) (hz : vs.length ≤ 2000000) (h1 : xs.any TB.isB = true) (h2 : (xs.any fun x => !x.isB) = true)
    (h : ∀ h' tk e c, Exc (fs.filterMap (·.frame)) s.heap h' e (.type "TypeError") c true → E (.ref e) { s with heap := h', toks := tk }) : wpAny (model PySem.Challenge.rw_ko0128_01.row.prog w) A (call (.ref 101) (.str fn t :: vs)) Q E s := by
  have hlen : vs.length ≤ sizeLine := by rw [sizeLine_eq]; (first | lia | omega)
  refine wpAny_call ?_
  (refine' enterR (vs := vs) ?k1 ?k2 ?k3 ?k4 ?k5 ?k6 hlen ?k7 ?_ ?k8 ?k9 ?k10 ?k11; (case k1 => assumption); (case k2 => assumption); (case k3 => k_room); (case k4 => k_is); (case k5 => k_is); (case k6 => exact bind_rest1); (case k7 => intro D; exact locs rfl); (case k8 => decide); (case k9 => exact rfl); (case k10 => exact rfl); (case k11 => exact rfl); k_whole; intro D L' h' hDL F' N'; (try dsimp only); (try k_fold))
  k_steps
  rename Fr _ _ _ _ => F1
  rename News _ _ _ _ => N1
  try dsimp only
  refine for_tupH (J := fun _ => H11 [(D, { cls := .type "tuple", data := .seq vs.toArray })] xs) hA (F1.keep _ _ hy) hdy hcy (by have e1 := Heap.lt_size hy; have e2 := F1.above; exact Nat.ne_of_lt (Nat.lt_of_lt_of_le e1 e2)) F1 N1 ⟨_, (N1 _ (.head _)).1, rfl, _, rfl⟩ (N1 _ (.head _)).2.1 (.mk rfl rfl rfl) ?_ ?_
  · intro I i v m1 nx h9 tk1 own hi hI hnx hJ F2 N2
    obtain ⟨rfl, g1, g2⟩ := hJ
    obtain ⟨a, ha, hra⟩ := hv.2 i v hi
    rw [map2k g1 g2] at F2
    try dsimp only at F2
    clear F1 N1
    have e1 := take_snoc ha
    cases a with
    | t x =>
      obtain ⟨ta, rfl⟩ := hra
      have q1 : ((xs.take i ++ [TB.t x]).any fun x => !x.isB) = true := by simp [TB.isB]
      have q2 : (xs.take i ++ [TB.t x]).any TB.isB = (xs.take i).any TB.isB := by simp [TB.isB]
      k_steps
      all_goals (
        refine' ⟨_, _, _, _, rfl, by k_asm, by k_asm, hnx, .mk rfl ?_ ?_⟩
        · rw [e1]; exact congrArg (fun b => some (Value.bool b)) q1.symm
        · rw [e1]; exact congrArg (fun b => some (Value.bool b)) q2.symm)
    | b x =>
      obtain ⟨ta, rfl⟩ := hra
      have q1 : ((xs.take i ++ [TB.b x]).any fun x => !x.isB) = ((xs.take i).any fun x => !x.isB) := by simp [TB.isB]
      have q2 : (xs.take i ++ [TB.b x]).any TB.isB = true := by simp [TB.isB]
      k_steps
      all_goals (
        refine' ⟨_, _, _, _, rfl, by k_asm, by k_asm, hnx, .mk rfl ?_ ?_⟩
        · rw [e1]; exact congrArg (fun b => some (Value.bool b)) q1.symm
        · rw [e1]; exact congrArg (fun b => some (Value.bool b)) q2.symm)
  · intro m1 nx h9 tk1 hJ F2 N2
    obtain ⟨rfl, g1, g2⟩ := hJ
    have e1 : xs.take vs.length = xs := by rw [hv.1, List.take_length]
    rw [e1, h2] at g1
    rw [e1, h1] at g2
    rw [map2k g1 g2] at F2
    try dsimp only at F2
    clear F1 N1
    k_steps
    refine Raise_none PySem.F.excCall_TypeError PySem.F.excRaise_TypeError rfl ?_
    walk1
    refine ⟨rfl, evalArgs_c ?_⟩
    k_steps
    all_goals first
      | trivial
      | exact .inr ⟨y, oy, vy, hA, F2.keep _ _ hy, hdy, hcy⟩
      | (rename Exc _ _ _ _ _ _ _ => hx
         exact leave_frame (S := []) B F2 rfl rfl (fun _ hb => (nomatch hb)) hx fun h' x' => h h' _ _ _ x')
end
end
section
theorem fill_E12 (w : World) (h : Heap) : PySem.Challenge.rw_ko0128_01.Holds → (Mine.hd.heap_39 w.params).In h → True := by
  w_top off
  k_with_none
  (k_with "MY k_room" => ((try simp only [depth_under_make, depth_under_kw, depth_in1, depth_deeper]); (try unfold recursionLimit); first | exact room_le (by assumption) | exact room_lt (by assumption) | (first | lia | omega)))
  (k_with "MY top" => first | assumption | exact Top.keeps (by assumption) (Fr.keep (by assumption)))
  (k_with "MY enter" => (refine wpAny_call ?_; (refine' enterK ?kzk1z ?kzk2z ?kzk3z ?kzk4z ?kzk5z ?kzk6z ?kzk7z ?_ ?kzk8z ?kzk9z ?kzk10z ?kzk11z; (case kzk1z => assumption); (case kzk2z => assumption); (case kzk3z => k_room); (case kzk4z => k_is); (case kzk5z => k_is); (case kzk6z => first | exact BindsTo.of_eq rfl | exact binds_K (by k_in) rfl (by k_is) rfl rfl rfl); (case kzk7z => exact locs rfl); (case kzk8z => decide); (case kzk9z => exact rfl); (case kzk10z => exact rfl); (case kzk11z => exact rfl); k_whole; intro LZq hZq FZq NZq; (try dsimp only); (try k_fold))))
  (k_with "call type:type" => (k_here; (with_reducible show wpAny _ _ (call (Value.type "type") [Value.bytes _ _]) _ _ _); refine call_type_of (Tx := "bytes") rfl (by decide) ?_))
  (k_with "call builtin:issubclass" => (k_here; refine call_isub (by first | exact .inl rfl | exact .inr rfl) (News.get (by k_asm) (by k_mem)) ?_))
  (k_with "MY same" => (intro y hy; (try dsimp only); repeat (first | exact rfl | (refine (if_neg ?kzhz).trans ?_; (case kzhz => first | (intro e; subst e; exact absurd hy (by decide)) | (intro e; rw [hy] at e; cases e))))))
  (k_with "assign Tuple" => (k_here; (with_reducible show wpAny _ _ (assign (Expr.Tuple _ _ _) _ (Value.ref _)) _ _ _); k_dflt (refine' kun_list ?kzk1z ?kzk2z ?kzk3z ?kzk4z ?kzk5z ?kzk6z ?_; (case kzk1z => k_asm); (case kzk2z => k_asm); (case kzk3z => kun_lst); (case kzk4z => first | exact rfl | assumption); (case kzk5z => exact rfl); (case kzk6z => exact rfl); k_whole); intro hZq FZq NZq; (try k_sweep)))
  (k_with "assign Tuple" => (k_here; (with_reducible show wpAny _ _ (assign (Expr.Tuple _ _ _) _ (Value.ref _)) _ _ _); k_dflt (refine' unpackN_ ?kzk1z ?kzk2z ?kzk3z ?kzk4z ?kzk5z ?kzk6z ?_; (case kzk1z => k_asm); (case kzk2z => k_asm); (case kzk3z => kun_tup); (case kzk4z => first | exact rfl | assumption); (case kzk5z => exact rfl); (case kzk6z => exact rfl); k_whole); intro hZq FZq NZq; (try k_sweep)))
  (k_with "MY hideT" => (refine hide_post (m := execs _ _) ?_; intro kTE kTEh))
  (k_with "MY hideW" => (intro kWT kWZ kWTh kWZh))
  (k_with "MY showT" => (rename Hid (TurnEnd _ _ _ _ _ _ _) _ => kTEh; refine kTEh _ _ ?_))
  (k_with "MY showW" => (rename Hid (WTurn _ _ _ _ _ _) _ => kWTh; refine kWTh _ _ ?_))
  (k_with "MY showZ" => (rename (∀ s : Shared, _ → _) => kWZh; refine kWZh _ ?_))
  (k_with "execs cons" => (k_here; first | (dsimp only; try (rename Fr _ _ _ _ => kFd; dsimp only at kFd)) | (rename Fr _ _ _ _ => kFd; dsimp only at kFd) | k_gentoks | k_made | ((with_reducible refine wpAny_execs_cons ?_); (try dsimp only); (try k_fold))))
  (k_with "MY k_ne" => (refine neN ?_; (try dsimp only); first | assumption | exact Ne.symm (by assumption) | exact Nat.ne_of_lt (Nat.lt_succ_self _) | exact Nat.ne_of_gt (Nat.lt_succ_self _) | exact Nat.ne_of_lt (Nat.lt_succ_of_lt (Nat.lt_succ_self _)) | exact Nat.ne_of_gt (Nat.lt_succ_of_lt (Nat.lt_succ_self _)) | exact Nat.ne_of_gt (by first | assumption | exact at1 (by assumption) | exact at2 (by assumption) | exact at3 (by assumption) | exact at4 (by assumption) | exact at5 (by assumption) | exact at6 (by assumption) | exact at7 (by assumption) | exact at8 (by assumption)) | (first | lia | omega)))
  (k_with "MY back" => (rename Fr _ _ _ _ => kFZq; rename News _ _ _ _ => kNZq; rename Kp _ _ => hkZq; replace kFZq := Fr.grownK kFZq hkZq; replace kNZq := News.grown kNZq hkZq; clear hkZq))
  (k_with "MY prem" => ((case kzXz => k_in); (case kzTz => walk_at "MY top"); (case kzdz => k_room); k_whole))
  (k_with "call ref" => (k_here; (with_reducible show wpAny _ _ (call (Value.ref 94) [Value.str _ _]) _ _ _); refine' fspath_str ?kzXz ?kzTz ?kzdz ?_; walk_at "MY prem"; intro hZq tkZq hkZq; walk_at "MY back"))
  (k_with "call ref" => (k_here; (with_reducible show wpAny _ _ (call (Value.ref 94) [Value.bytes _ _]) _ _ _); refine' fspath_bytes ?kzXz ?kzTz ?kzdz ?_; walk_at "MY prem"; intro hZq tkZq hkZq; walk_at "MY back"))
  (k_with "exec While BoolOp cons nil" => (k_here; refine Halt.mk ?_))
  (k_with "exec While Compare cons nil" => (k_here; refine Halt.mk ?_))
  (k_with "MY go" => show wpAny _ _ _ _ _ _)
  (k_with "unpackItems ref" => (k_here; k_dflt (refine' unpackItemsN_ ?kzk1z ?kzk2z ?kzk3z ?kzk4z ?kzk5z ?_; (case kzk1z => k_asm); (case kzk2z => k_asm); (case kzk3z => kun_tup); (case kzk4z => first | exact rfl | assumption); (case kzk5z => exact rfl); k_whole); intro hZq FZq NZq; (try k_sweep)))
  (k_with "exec For Name Name cons nil" => (k_here; (rename Fr _ _ _ _ => lFZq); (with_unfolding_all refine' For_invVF lFZq ?kzk1z ?kzk2z ?_; (case kzk1z => exact rfl); (case kzk2z => exact rfl); k_whole)))
  (k_with "exec For Name Call cons nil" => (k_here; (rename Fr _ _ _ _ => lFZq); (with_unfolding_all refine' For_invVF lFZq ?kzk1z ?kzk2z ?_; (case kzk1z => exact rfl); (case kzk2z => exact rfl); k_whole)))
  (k_with "exec For Name Subscript cons nil" => (k_here; (rename Fr _ _ _ _ => lFZq); (with_unfolding_all refine' For_invVF lFZq ?kzk1z ?kzk2z ?_; (case kzk1z => exact rfl); (case kzk2z => exact rfl); k_whole)))
  (k_with "exec For Name IfExp cons nil" => (k_here; (rename Fr _ _ _ _ => lFZq); (with_unfolding_all refine' For_invVF lFZq ?kzk1z ?kzk2z ?_; (case kzk1z => exact rfl); (case kzk2z => exact rfl); k_whole)))
  (k_with "eval ListComp" => (k_here; k_dflt (refine ListComp_G (F₀ := by k_asm) (by with_unfolding_all rfl) (by decide) (by rfl) (by decide) ?_)))
  (k_with "exec Assign cons ListComp" => (k_here; k_dflt (refine Assign_ListComp_G (F₀ := by k_asm) (by rfl) (by with_unfolding_all rfl) (by with_unfolding_all rfl) (by decide) (by rfl) (by decide) (by rfl) (by rfl) ?_)))
  (k_with "CompAt" => (k_here; refine Halt.mk ?_))
  (k_with "call type:zip" => (k_here; refine Halt.mk ?_))
  (k_with "MY open" => unfold Halt)
  (k_with "call builtin:len" => (k_here; (with_reducible show wpAny _ _ (call (Value.builtin "len") [Value.ref _]) _ _ _); k_dflt (refine' len_any ?kzlz ?kzzz ?_; (case kzlz => kmk_list); (case kzzz => first | assumption | exact Nat.le_of_ble_eq_true rfl))))
  (k_with "subscriptTail Name Name ref int" => (k_here; k_dflt (refine' item_nat ?kzlz ?kzxz ?kzzz ?_; (case kzlz => kmk_list); (case kzxz => assumption); (case kzzz => assumption))))
  (k_with "call type:range" => (k_here; (with_reducible show wpAny _ _ (call _ _) (CompAt _ _ _ _ _ _ _ _ _ _ _ _ _ _) _ _); refine Halt.mk ?_))
  (k_with "binaryOp Add ref ref" => (k_here; k_dflt (refine' add_any ?kzFz ?kzNz ?kzlz ?kzbz ?kzzz ?_; (case kzFz => k_asm); (case kzNz => k_asm); (case kzlz => kmk_list); (case kzbz => kmk_list); (case kzzz => (rw [sizeLine_eq]; (try simp only [List.length_cons, List.length_nil]); first | exact sz_one (by assumption) | exact sz_zero (by assumption) | exact sz_one2 (by assumption) (by assumption) | exact sz_zero2 (by assumption) (by assumption) | exact sz_two (by assumption) (by assumption) | decide | (first | lia | omega)))); intro DZq hZq FZq NZq l1; (try k_lt l1); (try k_sweep)))
  (k_with "call builtin:max" => (k_here; (with_reducible show wpAny _ _ (call (Value.builtin "max") [Value.ref _]) _ _ _); k_dflt (refine' max_list_N ?kzhz ?kzFz ?kzNz ?kzlz ?kziz ?kzzz ?_; (case kzhz => first | assumption | exact rfl); (case kzFz => k_asm); (case kzNz => k_asm); (case kzlz => kmk_list); (case kziz => first | assumption | exact (IntsAre.cons _ _ .nil).append (by assumption) | exact IntsAre.cons _ _ (by assumption)); (case kzzz => simp)); intro hZq MZq tZq tkZq FZq NZq hM1Zq hM2Zq; (try k_sweep)))
  (k_with "MY k_all" => assumption)
  (k_with "MY k_mem" => first | assumption | (refine List.mem_append_right _ ?_; k_mem) | exact List.mem_append_left _ (by assumption))
  (k_with "subscriptTail Name Constant ref int" => (k_here; k_dflt (refine' item_zero ?kzlz ?_; (case kzlz => kmk_list))))
  (k_with "compareOp Eq ref ref" => (k_here; first | k_dflt (refine' ke_eq_ints ?kzaz ?kzbz ?kziz ?kzjz ?kzuz ?_; (case kzaz => kmk_list); (case kzbz => kmk_list); (case kziz => first | assumption | exact IntsAre.nil); (case kzjz => first | assumption | exact IntsAre.nil); (case kzuz => (simp only [units_in1, units_deeper, Around.mark_units]; rw [show cLine = 9900 from rfl]; first | exact units64 (by assumption) | exact units1 (by assumption) | (first | lia | omega)))) | refine Halt.mk ?_))
  (k_with "getMethod bytes" => (k_here; first | with_reducible refine by_starts_m ?_ | with_reducible refine by_ends_m ?_))
  (k_with "call builtin:bytes.startswith" => (k_here; refine by_starts ?_))
  (k_with "call builtin:bytes.endswith" => (k_here; refine by_ends ?_))
  (k_with "truthy bytes" => (k_here; refine truthy_b (by first | (first | lia | omega) | (simp only [List.size_toArray]; (first | lia | omega))) ?_))
  (k_with "binaryOp Add bytes bytes" => (k_here; refine KBy.add_bytes (by (try simp only [Array.size_append]); (try rw [show (#[47] : Array UInt8).size = 1 from rfl]); (first | lia | omega)) ?_; intro tZq kZq))
  (k_with "inplaceOp Add bytes bytes" => (k_here; refine iadd_bytes (by (try simp only [Array.size_append]); (try rw [show (#[47] : Array UInt8).size = 1 from rfl]); (first | lia | omega)) ?_; intro tZq kZq))
  (k_with "StarOf ref" => (k_here; k_dflt (refine' star_seq ?kzk1z ?kzk2z ?kzmz ?kzcz ?kzdz ?kzTz ?kzez ?kzzz ?_; (case kzk1z => k_asm); (case kzk2z => k_asm); (case kzmz => k_mem); (case kzcz => exact rfl); (case kzdz => exact rfl); (case kzTz => first | exact .inl rfl | exact .inr rfl); (case kzez => exact rfl); (case kzzz => (simp only [List.size_toArray]; assumption)); k_whole); intro hZq FZq NZq; (try k_sweep); try dsimp only [List.nil_append, List.cons_append]))
  (k_with "StarOf ref" => (k_here; k_dflt (refine' star_list ?kzk1z ?kzk2z ?kzlz ?kzzz ?_; (case kzk1z => k_asm); (case kzk2z => k_asm); (case kzlz => first | kmk_list | exact Heap.IsList.at (by assumption) fun o e => Fr.keep (by k_asm) _ o e); (case kzzz => assumption); k_whole); intro hZq FZq NZq; (try k_sweep); try dsimp only [List.nil_append, List.cons_append]))
  (k_with "MY enterC" => (refine wpAny_call ?_; (refine' enterC ?kzk1z ?kzk2z ?kzk3z ?kzk4z ?kzk5z ?kzk6z ?kzk7z ?kzk7bz ?_ ?kzk9z ?kzk10z ?kzk11z; (case kzk1z => assumption); (case kzk2z => assumption); (case kzk3z => k_room); (case kzk4z => k_is); (case kzk5z => k_is); (case kzk6z => first | exact BindsTo.of_eq rfl | exact binds_K (by k_in) rfl (by k_is) rfl rfl rfl); (case kzk7z => exact fun n x hx => .inl (locs rfl x hx)); (case kzk7bz => decide); (case kzk9z => exact rfl); (case kzk10z => exact rfl); (case kzk11z => exact rfl); k_whole; intro L1 h1 tk1 cells1 F1 N1 Y1; (try dsimp only); (try k_fold))))
  (k_with "call type:map" => (k_here; refine Halt.mk ?_))
  (k_with "call type:tuple" => (k_here; refine Halt.mk ?_))
  (k_with "eval SetComp" => (k_here; refine Halt.mk ?_))
  (k_with "call builtin:min" => (k_here; refine Halt.mk ?_))
  (k_with "call builtin:max" => (k_here; refine Halt.mk ?_))
  (k_with "truthy ref" => (k_here; k_dflt (refine' truthy_tup ?kzhDz ?kzhzz ?_; (case kzhDz => exact (News.get (by k_asm) (by k_mem))); (case kzhzz => assumption))))
  (k_with "subscriptTail Name Constant ref int" => (k_here; k_dflt (refine' tup_zero ?kzhDz ?_; (case kzhDz => exact (News.get (by k_asm) (by k_mem))))))
  (k_with "call builtin:str.split" => (k_here; refine Halt.mk ?_))
  (k_with "call builtin:bytes.split" => (k_here; refine Halt.mk ?_))
  (k_with "getMethod bytes" => (k_here; with_reducible refine by_split_m ?_))
  (k_with "exec For Tuple Call cons nil" => (k_here; refine Halt.mk ?_))
  (k_with "call type:enumerate" => (k_here; refine Halt.mk ?_))
  (k_with "call builtin:str.join" => (k_here; refine Halt.mk ?_))
  (k_with "call builtin:bytes.join" => (k_here; refine Halt.mk ?_))
  (k_with "getMethod bytes" => (k_here; with_reducible refine by_join_m ?_))
  (k_with "truthy ref" => (k_here; refine Halt.mk ?_))
  (k_with "exec Raise some none" => (k_here; refine Halt.mk ?_))
  (k_with "exec Raise" => (k_here; refine Halt.mk ?_))
  k_fill
  intros; trivial
set_option maxHeartbeats 8000000
section
variable {w : World} {A : Around} {mg mb : Str → Option Value} {mean : ExcName → Option Value} {loose : List Str} {s : Shared} {Q : Value → Shared → Prop} {E : Value → Shared → Prop} {base : Heap} {fs : List Env}
theorem cp_empty {Lp : Addr} (B : Below A base fs s.heap) (X₀ : (Mine.hd.heap_39 w.params).In base) (T₀ : Top Mine.hd.view_39 loose mean mg mb base) (hd : A.depth ≤ 530) (hh : A.handled = none)
    (hp : s.heap.IsList Lp ([] : List Value).toArray)
    (h : ∀ h' tk e c, Exc (fs.filterMap (·.frame)) s.heap h' e (.type "ValueError") c true → E (.ref e) { s with heap := h', toks := tk }) :
    wpAny (model PySem.Challenge.rw_ko0128_01.row.prog w) A (call (.ref 106) [.ref Lp]) Q E s := by
  have X := X₀.keeps B.stays
  have T₁ := T₀.keeps B.stays
  walk_at "MY enterC"
  obtain ⟨oc1, oc2, hY, hoc1, hoc2⟩ := CellsAre.two (by assumption)
  subst hY
  k_steps
  walk_at "MY open"
  rename Fr _ _ _ _ => F1
  rename News _ _ _ _ => N1
  refine map_K F1 N1 (hp.at fun o e => F1.keep _ o e) fun M T I h2 F2 N2 off2 n1 n2 n3 n4 => ?_
  clear F1 N1
  k_steps
  walk_at "MY open"
  rename Fr _ _ _ _ => F1
  rename News _ _ _ _ => N1
  refine tuple_K (d := 560) (vs := []) hh (by k_room) F1 N1 (hp.at fun o e => F1.keep _ o e) off2 n2 n3 n4 (fun x hx => (nomatch hx)) (by decide) fun D h3 tk3 F3 N3 lt3 => ?_
  clear F1 N1 off2 n1 n2 n3 n4
  have o1 := neN (Nat.ne_of_gt (lt3 _ (.head _)))
  have o2 := neN (Nat.ne_of_gt (lt3 _ (.tail _ (.head _))))
  dsimp only at o1 o2
  clear lt3
  k_steps
  walk_at "MY open"
  rename News _ _ _ _ => N1
  refine truthy_tup0 (N1 _ (.head _)).1 ?_
  k_steps
  walk_at "MY open"
  rename Fr _ _ _ _ => F5
  refine wpAny_Raise_call PySem.F.excCall_ValueError PySem.F.excRaise_ValueError hh rfl ?_
  walk1
  refine ⟨rfl, evalArgs_c ?_⟩
  k_steps
  all_goals first
    | trivial
    | (rename Heap.MadeExc _ _ _ _ _ => hx
       exact leave_frame (S := []) B F5 rfl rfl (fun _ hb => (nomatch hb)) (Exc.of_new hx.newExc) fun h' x' => h h' _ _ _ x')
end
end
section
theorem fill_E15u (w : World) (h : Heap) : PySem.Challenge.rw_ko0128_01.Holds → (Mine.hd.heap_39 w.params).In h → True := by
  w_top off
  k_with_none
  (k_with "MY k_room" => ((try simp only [depth_under_make, depth_under_kw, depth_in1, depth_deeper]); (try unfold recursionLimit); first | exact room_le (by assumption) | exact room_lt (by assumption) | (first | lia | omega)))
  (k_with "MY top" => first | assumption | exact Top.keeps (by assumption) (Fr.keep (by assumption)))
  (k_with "MY enter" => (refine wpAny_call ?_; (refine' enterK ?kzk1z ?kzk2z ?kzk3z ?kzk4z ?kzk5z ?kzk6z ?kzk7z ?_ ?kzk8z ?kzk9z ?kzk10z ?kzk11z; (case kzk1z => assumption); (case kzk2z => assumption); (case kzk3z => k_room); (case kzk4z => k_is); (case kzk5z => k_is); (case kzk6z => first | exact BindsTo.of_eq rfl | exact binds_K (by k_in) rfl (by k_is) rfl rfl rfl); (case kzk7z => exact locs rfl); (case kzk8z => decide); (case kzk9z => exact rfl); (case kzk10z => exact rfl); (case kzk11z => exact rfl); k_whole; intro LZq hZq FZq NZq; (try dsimp only); (try k_fold))))
  (k_with "call type:type" => (k_here; (with_reducible show wpAny _ _ (call (Value.type "type") [Value.bytes _ _]) _ _ _); refine call_type_of (Tx := "bytes") rfl (by decide) ?_))
  (k_with "call builtin:issubclass" => (k_here; refine call_isub (by first | exact .inl rfl | exact .inr rfl) (News.get (by k_asm) (by k_mem)) ?_))
  (k_with "MY same" => (intro y hy; (try dsimp only); repeat (first | exact rfl | (refine (if_neg ?kzhz).trans ?_; (case kzhz => first | (intro e; subst e; exact absurd hy (by decide)) | (intro e; rw [hy] at e; cases e))))))
  (k_with "assign Tuple" => (k_here; (with_reducible show wpAny _ _ (assign (Expr.Tuple _ _ _) _ (Value.ref _)) _ _ _); k_dflt (refine' kun_list ?kzk1z ?kzk2z ?kzk3z ?kzk4z ?kzk5z ?kzk6z ?_; (case kzk1z => k_asm); (case kzk2z => k_asm); (case kzk3z => kun_lst); (case kzk4z => first | exact rfl | assumption); (case kzk5z => exact rfl); (case kzk6z => exact rfl); k_whole); intro hZq FZq NZq; (try k_sweep)))
  (k_with "assign Tuple" => (k_here; (with_reducible show wpAny _ _ (assign (Expr.Tuple _ _ _) _ (Value.ref _)) _ _ _); k_dflt (refine' unpackN_ ?kzk1z ?kzk2z ?kzk3z ?kzk4z ?kzk5z ?kzk6z ?_; (case kzk1z => k_asm); (case kzk2z => k_asm); (case kzk3z => kun_tup); (case kzk4z => first | exact rfl | assumption); (case kzk5z => exact rfl); (case kzk6z => exact rfl); k_whole); intro hZq FZq NZq; (try k_sweep)))
  (k_with "MY hideT" => (refine hide_post (m := execs _ _) ?_; intro kTE kTEh))
  (k_with "MY hideW" => (intro kWT kWZ kWTh kWZh))
  (k_with "MY showT" => (rename Hid (TurnEnd _ _ _ _ _ _ _) _ => kTEh; refine kTEh _ _ ?_))
  (k_with "MY showW" => (rename Hid (WTurn _ _ _ _ _ _) _ => kWTh; refine kWTh _ _ ?_))
  (k_with "MY showZ" => (rename (∀ s : Shared, _ → _) => kWZh; refine kWZh _ ?_))
  (k_with "execs cons" => (k_here; first | (dsimp only; try (rename Fr _ _ _ _ => kFd; dsimp only at kFd)) | (rename Fr _ _ _ _ => kFd; dsimp only at kFd) | k_gentoks | k_made | ((with_reducible refine wpAny_execs_cons ?_); (try dsimp only); (try k_fold))))
  (k_with "MY k_ne" => (refine neN ?_; (try dsimp only); first | assumption | exact Ne.symm (by assumption) | exact Nat.ne_of_lt (Nat.lt_succ_self _) | exact Nat.ne_of_gt (Nat.lt_succ_self _) | exact Nat.ne_of_lt (Nat.lt_succ_of_lt (Nat.lt_succ_self _)) | exact Nat.ne_of_gt (Nat.lt_succ_of_lt (Nat.lt_succ_self _)) | exact Nat.ne_of_gt (by first | assumption | exact at1 (by assumption) | exact at2 (by assumption) | exact at3 (by assumption) | exact at4 (by assumption) | exact at5 (by assumption) | exact at6 (by assumption) | exact at7 (by assumption) | exact at8 (by assumption)) | (first | lia | omega)))
  (k_with "MY back" => (rename Fr _ _ _ _ => kFZq; rename News _ _ _ _ => kNZq; rename Kp _ _ => hkZq; replace kFZq := Fr.grownK kFZq hkZq; replace kNZq := News.grown kNZq hkZq; clear hkZq))
  (k_with "MY prem" => ((case kzXz => k_in); (case kzTz => walk_at "MY top"); (case kzdz => k_room); k_whole))
  (k_with "call ref" => (k_here; (with_reducible show wpAny _ _ (call (Value.ref 94) [Value.str _ _]) _ _ _); refine' fspath_str ?kzXz ?kzTz ?kzdz ?_; walk_at "MY prem"; intro hZq tkZq hkZq; walk_at "MY back"))
  (k_with "call ref" => (k_here; (with_reducible show wpAny _ _ (call (Value.ref 94) [Value.bytes _ _]) _ _ _); refine' fspath_bytes ?kzXz ?kzTz ?kzdz ?_; walk_at "MY prem"; intro hZq tkZq hkZq; walk_at "MY back"))
  (k_with "exec While BoolOp cons nil" => (k_here; refine Halt.mk ?_))
  (k_with "exec While Compare cons nil" => (k_here; refine Halt.mk ?_))
  (k_with "MY go" => show wpAny _ _ _ _ _ _)
  (k_with "unpackItems ref" => (k_here; k_dflt (refine' unpackItemsN_ ?kzk1z ?kzk2z ?kzk3z ?kzk4z ?kzk5z ?_; (case kzk1z => k_asm); (case kzk2z => k_asm); (case kzk3z => kun_tup); (case kzk4z => first | exact rfl | assumption); (case kzk5z => exact rfl); k_whole); intro hZq FZq NZq; (try k_sweep)))
  (k_with "exec For Name Name cons nil" => (k_here; (rename Fr _ _ _ _ => lFZq); (with_unfolding_all refine' For_invVF lFZq ?kzk1z ?kzk2z ?_; (case kzk1z => exact rfl); (case kzk2z => exact rfl); k_whole)))
  (k_with "exec For Name Call cons nil" => (k_here; (rename Fr _ _ _ _ => lFZq); (with_unfolding_all refine' For_invVF lFZq ?kzk1z ?kzk2z ?_; (case kzk1z => exact rfl); (case kzk2z => exact rfl); k_whole)))
  (k_with "exec For Name Subscript cons nil" => (k_here; (rename Fr _ _ _ _ => lFZq); (with_unfolding_all refine' For_invVF lFZq ?kzk1z ?kzk2z ?_; (case kzk1z => exact rfl); (case kzk2z => exact rfl); k_whole)))
  (k_with "exec For Name IfExp cons nil" => (k_here; (rename Fr _ _ _ _ => lFZq); (with_unfolding_all refine' For_invVF lFZq ?kzk1z ?kzk2z ?_; (case kzk1z => exact rfl); (case kzk2z => exact rfl); k_whole)))
  (k_with "eval ListComp" => (k_here; k_dflt (refine ListComp_G (F₀ := by k_asm) (by with_unfolding_all rfl) (by decide) (by rfl) (by decide) ?_)))
  (k_with "exec Assign cons ListComp" => (k_here; k_dflt (refine Assign_ListComp_G (F₀ := by k_asm) (by rfl) (by with_unfolding_all rfl) (by with_unfolding_all rfl) (by decide) (by rfl) (by decide) (by rfl) (by rfl) ?_)))
  (k_with "CompAt" => (k_here; refine Halt.mk ?_))
  (k_with "call type:zip" => (k_here; refine Halt.mk ?_))
  (k_with "MY open" => unfold Halt)
  (k_with "call builtin:len" => (k_here; (with_reducible show wpAny _ _ (call (Value.builtin "len") [Value.ref _]) _ _ _); k_dflt (refine' len_any ?kzlz ?kzzz ?_; (case kzlz => kmk_list); (case kzzz => first | assumption | exact Nat.le_of_ble_eq_true rfl))))
  (k_with "subscriptTail Name Name ref int" => (k_here; k_dflt (refine' item_nat ?kzlz ?kzxz ?kzzz ?_; (case kzlz => kmk_list); (case kzxz => assumption); (case kzzz => assumption))))
  (k_with "call type:range" => (k_here; (with_reducible show wpAny _ _ (call _ _) (CompAt _ _ _ _ _ _ _ _ _ _ _ _ _ _) _ _); refine Halt.mk ?_))
  (k_with "binaryOp Add ref ref" => (k_here; k_dflt (refine' add_any ?kzFz ?kzNz ?kzlz ?kzbz ?kzzz ?_; (case kzFz => k_asm); (case kzNz => k_asm); (case kzlz => kmk_list); (case kzbz => kmk_list); (case kzzz => (rw [sizeLine_eq]; (try simp only [List.length_cons, List.length_nil]); first | exact sz_one (by assumption) | exact sz_zero (by assumption) | exact sz_one2 (by assumption) (by assumption) | exact sz_zero2 (by assumption) (by assumption) | exact sz_two (by assumption) (by assumption) | decide | (first | lia | omega)))); intro DZq hZq FZq NZq l1; (try k_lt l1); (try k_sweep)))
  (k_with "call builtin:max" => (k_here; (with_reducible show wpAny _ _ (call (Value.builtin "max") [Value.ref _]) _ _ _); k_dflt (refine' max_list_N ?kzhz ?kzFz ?kzNz ?kzlz ?kziz ?kzzz ?_; (case kzhz => first | assumption | exact rfl); (case kzFz => k_asm); (case kzNz => k_asm); (case kzlz => kmk_list); (case kziz => first | assumption | exact (IntsAre.cons _ _ .nil).append (by assumption) | exact IntsAre.cons _ _ (by assumption)); (case kzzz => simp)); intro hZq MZq tZq tkZq FZq NZq hM1Zq hM2Zq; (try k_sweep)))
  (k_with "MY k_all" => assumption)
  (k_with "MY k_mem" => first | assumption | (refine List.mem_append_right _ ?_; k_mem) | exact List.mem_append_left _ (by assumption))
  (k_with "subscriptTail Name Constant ref int" => (k_here; k_dflt (refine' item_zero ?kzlz ?_; (case kzlz => kmk_list))))
  (k_with "compareOp Eq ref ref" => (k_here; first | k_dflt (refine' ke_eq_ints ?kzaz ?kzbz ?kziz ?kzjz ?kzuz ?_; (case kzaz => kmk_list); (case kzbz => kmk_list); (case kziz => first | assumption | exact IntsAre.nil); (case kzjz => first | assumption | exact IntsAre.nil); (case kzuz => (simp only [units_in1, units_deeper, Around.mark_units]; rw [show cLine = 9900 from rfl]; first | exact units64 (by assumption) | exact units1 (by assumption) | (first | lia | omega)))) | refine Halt.mk ?_))
  (k_with "getMethod bytes" => (k_here; first | with_reducible refine by_starts_m ?_ | with_reducible refine by_ends_m ?_))
  (k_with "call builtin:bytes.startswith" => (k_here; refine by_starts ?_))
  (k_with "call builtin:bytes.endswith" => (k_here; refine by_ends ?_))
  (k_with "truthy bytes" => (k_here; refine truthy_b (by first | (first | lia | omega) | (simp only [List.size_toArray]; (first | lia | omega))) ?_))
  (k_with "binaryOp Add bytes bytes" => (k_here; refine KBy.add_bytes (by (try simp only [Array.size_append]); (try rw [show (#[47] : Array UInt8).size = 1 from rfl]); (first | lia | omega)) ?_; intro tZq kZq))
  (k_with "inplaceOp Add bytes bytes" => (k_here; refine iadd_bytes (by (try simp only [Array.size_append]); (try rw [show (#[47] : Array UInt8).size = 1 from rfl]); (first | lia | omega)) ?_; intro tZq kZq))
  (k_with "StarOf ref" => (k_here; k_dflt (refine' star_seq ?kzk1z ?kzk2z ?kzmz ?kzcz ?kzdz ?kzTz ?kzez ?kzzz ?_; (case kzk1z => k_asm); (case kzk2z => k_asm); (case kzmz => k_mem); (case kzcz => exact rfl); (case kzdz => exact rfl); (case kzTz => first | exact .inl rfl | exact .inr rfl); (case kzez => exact rfl); (case kzzz => (simp only [List.size_toArray]; assumption)); k_whole); intro hZq FZq NZq; (try k_sweep); try dsimp only [List.nil_append, List.cons_append]))
  (k_with "StarOf ref" => (k_here; k_dflt (refine' star_list ?kzk1z ?kzk2z ?kzlz ?kzzz ?_; (case kzk1z => k_asm); (case kzk2z => k_asm); (case kzlz => first | kmk_list | exact Heap.IsList.at (by assumption) fun o e => Fr.keep (by k_asm) _ o e); (case kzzz => assumption); k_whole); intro hZq FZq NZq; (try k_sweep); try dsimp only [List.nil_append, List.cons_append]))
  (k_with "MY enterC" => (refine wpAny_call ?_; (refine' enterC ?kzk1z ?kzk2z ?kzk3z ?kzk4z ?kzk5z ?kzk6z ?kzk7z ?kzk7bz ?_ ?kzk9z ?kzk10z ?kzk11z; (case kzk1z => assumption); (case kzk2z => assumption); (case kzk3z => k_room); (case kzk4z => k_is); (case kzk5z => k_is); (case kzk6z => first | exact BindsTo.of_eq rfl | exact binds_K (by k_in) rfl (by k_is) rfl rfl rfl); (case kzk7z => exact fun n x hx => .inl (locs rfl x hx)); (case kzk7bz => decide); (case kzk9z => exact rfl); (case kzk10z => exact rfl); (case kzk11z => exact rfl); k_whole; intro L1 h1 tk1 cells1 F1 N1 Y1; (try dsimp only); (try k_fold))))
  (k_with "call type:map" => (k_here; refine Halt.mk ?_))
  (k_with "call type:tuple" => (k_here; refine Halt.mk ?_))
  (k_with "eval SetComp" => (k_here; refine Halt.mk ?_))
  (k_with "call builtin:min" => (k_here; refine Halt.mk ?_))
  (k_with "call builtin:max" => (k_here; refine Halt.mk ?_))
  (k_with "truthy ref" => (k_here; k_dflt (refine' truthy_tup ?kzhDz ?kzhzz ?_; (case kzhDz => exact (News.get (by k_asm) (by k_mem))); (case kzhzz => assumption))))
  (k_with "subscriptTail Name Constant ref int" => (k_here; k_dflt (refine' tup_zero ?kzhDz ?_; (case kzhDz => exact (News.get (by k_asm) (by k_mem))))))
  (k_with "call builtin:str.split" => (k_here; refine Halt.mk ?_))
  (k_with "call builtin:bytes.split" => (k_here; refine Halt.mk ?_))
  (k_with "getMethod bytes" => (k_here; with_reducible refine by_split_m ?_))
  (k_with "exec For Tuple Call cons nil" => (k_here; refine Halt.mk ?_))
  (k_with "call type:enumerate" => (k_here; refine Halt.mk ?_))
  (k_with "call builtin:str.join" => (k_here; refine Halt.mk ?_))
  (k_with "call builtin:bytes.join" => (k_here; refine Halt.mk ?_))
  (k_with "getMethod bytes" => (k_here; with_reducible refine by_join_m ?_))
  (k_with "exec Assign cons ListComp" => (k_here; refine Halt.mk ?_))
  (k_with "eval BinOp" => (k_here; k_fold))
  (k_with "eval Call Attribute" => (k_here; k_fold))
  (k_with "eval IfExp" => (k_here; k_fold))
  (k_with "eval Subscript" => (k_here; k_fold))
  (k_with "isTrue BoolOp" => (k_here; k_fold))
  (k_with "isTrue Compare" => (k_here; k_fold))
  (k_with "eval List" => (k_here; k_fold))
  (k_with "eval Tuple" => (k_here; k_fold))
  (k_with "exec If" => (k_here; rename MergeMark => kMM; clear kMM; refine Halt.mk ?_))
  (k_with "exec Expr" => (k_here; rename MergeExpr => kME; clear kME; refine Halt.mk ?_))
  k_fill
  intros; trivial
set_option maxHeartbeats 8000000
section
variable {w : World} {A : Around} {mg mb : Str → Option Value} {mean : ExcName → Option Value} {loose : List Str} {s : Shared} {Q : Value → Shared → Prop} {E : Value → Shared → Prop} {base : Heap} {fs : List Env}
noncomputable def badK (oct : Bool) (x : TB) : Bool := if oct then !x.isB else x.isB
theorem cp_mixed {oct : Bool} {Lp : Addr} {v0 : Value} {x0 : TB} {vr : List Value} {xs : List TB} (B : Below A base fs s.heap) (X₀ : (Mine.hd.heap_39 w.params).In base) (T₀ : Top Mine.hd.view_39 loose mean mg mb base) (hd : A.depth ≤ 530) (hh : A.handled = none)
    (hp : s.heap.IsList Lp (v0 :: vr : List Value).toArray) (hpv : Al RTB (v0 :: vr) xs) (hx0 : xs[0]? = some x0) (hb0 : x0.isB = oct) (hz : lensT xs ≤ 1000)
    (m0 : (xs.any fun x => !x.isB) = true) (m1 : xs.any TB.isB = true)
    (h : ∀ h' tk e c, Exc (fs.filterMap (·.frame)) s.heap h' e (.type "TypeError") c true → E (.ref e) { s with heap := h', toks := tk }) :
    wpAny (model PySem.Challenge.rw_ko0128_01.row.prog w) A (call (.ref 106) [.ref Lp]) Q E s := by
  have X := X₀.keeps B.stays
  have T₁ := T₀.keeps B.stays
  have hpl : (v0 :: vr : List Value).length ≤ 1000 := by rw [hpv.1]; exact Nat.le_trans (lensT_ge _) hz
  have hpz : (v0 :: vr : List Value).length ≤ sizeLine := le_size hpl
  walk_at "MY enterC"
  obtain ⟨oc1, oc2, hY, hoc1, hoc2⟩ := CellsAre.two (by assumption)
  subst hY
  k_steps
  walk_at "MY open"
  rename Fr _ _ _ _ => F1
  rename News _ _ _ _ => N1
  refine map_K F1 N1 (hp.at fun o e => F1.keep _ o e) fun M T I h2 F2 N2 off2 n1 n2 n3 n4 => ?_
  clear F1 N1
  k_steps
  walk_at "MY open"
  rename Fr _ _ _ _ => F1
  rename News _ _ _ _ => N1
  refine tuple_K (d := 560) hh (by k_room) F1 N1 (hp.at fun o e => F1.keep _ o e) off2 n2 n3 n4 (fun x hx => ?_) hpz fun D h3 tk3 F3 N3 lt3 => ?_
  · obtain ⟨i, hi⟩ := List.getElem?_of_mem hx
    obtain ⟨b, _, hr⟩ := hpv.2 i x hi
    exact fspath_id X T₁ hr
  clear F1 N1 off2 n1 n2 n3 n4
  have o1 := neN (Nat.ne_of_gt (lt3 _ (.head _)))
  have o2 := neN (Nat.ne_of_gt (lt3 _ (.tail _ (.head _))))
  dsimp only at o1 o2
  clear lt3
  have kMM := MergeMark.mk
  k_steps
  walk_at "MY open"
  walk1
  have kMM := MergeMark.mk
  k_steps
  walk_at "MY open"
  rename Fr _ _ _ _ => F1
  rename News _ _ _ _ => N1
  refine exec_mergeJ F1 (SepAt oct D L1 { cls := .type "tuple", data := .seq (v0 :: vr : List Value).toArray }) ?_ ?_
  · intro K hK
    obtain ⟨az, haz, hvz⟩ := hpv.2 0 v0 rfl
    obtain rfl := Option.some.inj (hx0.symm.trans haz)
    cases x0 with
    | t x =>
      obtain rfl : oct = false := hb0.symm
      obtain ⟨t0, rfl⟩ := hvz
      k_steps
      exact hK _ _ _ (by k_asm) (by k_asm) (.mk rfl (by assumption) (by assumption) ⟨_, _, rfl, by decide⟩ ⟨_, _, rfl, by decide⟩)
    | b x =>
      obtain rfl : oct = true := hb0.symm
      obtain ⟨t0, rfl⟩ := hvz
      k_steps
      exact hK _ _ _ (by k_asm) (by k_asm) (.mk rfl (by assumption) (by assumption) ⟨_, _, rfl, by decide⟩ ⟨_, _, rfl, by decide⟩)
  intro h4 tk4 l4 F4 N4 hS
  obtain @⟨ob1, ob2, sv, cv, rfl, hb1, hb2, hsv, hcv⟩ := hS
  clear F1 N1 hb0
  k_steps
  k_dflt (refine wpAny_Try_except ?_)
  refine hide2 ?_
  intro K1 E1 hK1 hE1
  k_steps
  walk_at "MY open"
  rename Fr _ _ _ _ => F1
  rename News _ _ _ _ => N1
  obtain ⟨gg, fobs, GG, kf0⟩ := gnd B
  have h1n : s.heap.get? L1 = none := fr_none F1
  have hled := fun q hq => (N1 q hq).2.2
  have N2 := GG.led kf0 F1 N1
  have F2 := GG.fr F1
  have X2 := X₀.keeps GG.bg
  have T2 := T₀.keeps GG.bg
  clear X T₁ F1 N1
  refine Assign_ListComp_N (cls := "TypeError") B GG F2 N2 rfl rfl (by with_unfolding_all rfl) (by with_unfolding_all rfl) (by decide) (by rfl) (by decide) (by rfl) (by rfl) rfl (fun h3 h' tk e F3 N3 x3 => ?_) ?_
  · refine hE1 _ _ ?_
    refine catch_into B GG F3 (fun p hp => (N3 p (List.mem_append_right _ hp)).1) rfl rfl x3 (fun _ hb => hb) fun h4 x4 => ?_
    refine catch_thisE GG F3 N3 (fun q hq hm => ?_) rfl x4 (testE_two (c1 := .type "TypeError") (c2 := .type "AttributeError") X2 ?_ ?_ ?_) fun h8 oe To oT fobs' G8 F8 N8 hob => ?_
    · obtain ⟨_, o, ho, _⟩ := B.frames.mem hm
      rw [hled q hq] at ho; cases ho
    · kts_exm
    · intro M' A' E' Q' s' m' F' q'
      with_unfolding_all exact nameX_B F' X2 (topRead_of T2) (by k_is) (by boot_by_name) (by decide) q'
    · intro M' A' E' Q' s' m' F' q'
      with_unfolding_all exact nameX_B F' X2 (topRead_of T2) (by k_is) (by boot_by_name) (by decide) q'
    simp only [List.cons_append, List.nil_append] at N8
    clear F2 N2 F3 N3
    k_steps
    rename Fr _ _ _ _ => F9
    rename News _ _ _ _ => N9
    have k9 := fun p (hp : p ∈ fobs') => (N9 p (by simp only [List.mem_cons, List.mem_append]; simp only [hp, or_true])).1
    have hoe := (N9 _ (.head _)).1
    rw [List.append_nil]
    obtain ⟨vs8, ts8, a1, a2, a3, a4, a5, a6, a7, a8⟩ := hob
    refine check_mixed (vs := v0 :: vr) (xs := xs) (below_mark (G8.below B F9 k9 rfl rfl)) (X2.keeps F9.keep) (T2.keeps F9.keep) (room_le hd) rfl hoe a2 a4 hpv (Nat.le_trans hpl (by decide)) m1 m0 fun h10 tk10 e2 c2 x10 => ?_
    refine handler_out (G8.below B F9 k9 rfl rfl) rfl x10 fun h11 x11 => ?_
    k_unfold
    exact leave_gnd (G8.below B F9 k9 rfl rfl) G8 F9 k9 h1n rfl x11 fun h12 x12 => h h12 _ _ _ x12
  · walk1
    refine ⟨⟨_, _, rfl⟩, src_tupE (vs := v0 :: vr) (fun n0 i ys nx => nx = n0 ∧ (xs.take i).any (badK oct) = false) hh F2 N2 ⟨_, (N2 _ (List.mem_append_left _ (.head _))).1, rfl, _, rfl⟩ (N2 _ (List.mem_append_left _ (.head _))).2.1 hpz rfl rfl ⟨rfl, rfl⟩ ?_ ?_⟩
    · rintro I i v C oC D2 m₂ h₂ tk own ys nx E' hE' hv ⟨rfl, hnb⟩ hm hC F₂ N₂ hoff hI hCD
      obtain ⟨a, ha, hr⟩ := hpv.2 i v hv
      have e1 := take_snoc ha
      have e0 := lensT_take xs (i + 1)
      rw [e1, lensT_snoc] at e0
      refine tests0 ?_
      clear F2 N2
      simp only [List.cons_append, List.nil_append] at N₂
      cases oct with
      | false =>
        obtain ⟨sx, st, rfl, hsx⟩ := hsv
        obtain rfl : sx = Str.ofString "/" := cpl_inj (hsx.trans (by decide))
        cases a with
        | t x =>
          obtain ⟨t, rfl⟩ := hr
          have hxl : x.length ≤ 1000 := len_small (TB.t x) e0 hz
          have e7 : (xs.take i ++ [TB.t x]).any (badK false) = false := by rw [List.any_append, hnb]; rfl
          k_steps
          walk_at "MY open"
          rename Fr _ _ _ _ => F4
          rename News _ _ _ _ => N4
          refine split_s F4 N4 hxl fun D3 us h5 tk5 hus F5 N5 lt5 => ?_
          clear F4 N4
          k_steps
          rename Fr _ _ _ _ => F6
          rename News _ _ _ _ => N6
          refine ⟨_, _, _, rfl, F6, news_sub N6 fun p hp => .tail _ hp, hoff, rfl, ?_⟩
          rw [e1]; exact e7
        | b x =>
          obtain ⟨t, rfl⟩ := hr
          k_steps
          walk_at "MY open"
          rename Fr _ _ _ _ => F4
          rename News _ _ _ _ => N4
          refine b_split_bad hh fun h5 tk5 e hx => ?_
          have eC := N4 (C, oC) (List.mem_append_right _ (.head _))
          show E' _ _
          exact hE' _ _ ⟨_, _, _, e, _, rfl, rfl, F4, news_sub N4 fun p hp => List.mem_append_right _ (.tail _ (.tail _ hp)), ⟨_, hC.ns eC.1⟩, eC.2.1, eC.2.2, fun p hp => (hoff p hp).2.1, Exc.of_new hx⟩
      | true =>
        obtain ⟨sx, st, rfl, hsx⟩ := hsv
        obtain rfl : sx = #[47] := nats_inj (hsx.trans (by decide))
        cases a with
        | b x =>
          obtain ⟨t, rfl⟩ := hr
          have hxl : x.size ≤ 1000 := len_small (TB.b x) e0 hz
          have e7 : (xs.take i ++ [TB.b x]).any (badK true) = false := by rw [List.any_append, hnb]; rfl
          k_steps
          walk_at "MY open"
          rename Fr _ _ _ _ => F4
          rename News _ _ _ _ => N4
          refine split_b F4 N4 hxl fun D3 us h5 tk5 hus F5 N5 lt5 => ?_
          clear F4 N4
          k_steps
          rename Fr _ _ _ _ => F6
          rename News _ _ _ _ => N6
          refine ⟨_, _, _, rfl, F6, news_sub N6 fun p hp => .tail _ hp, hoff, rfl, ?_⟩
          rw [e1]; exact e7
        | t x =>
          obtain ⟨t, rfl⟩ := hr
          k_steps
          walk_at "MY open"
          rename Fr _ _ _ _ => F4
          rename News _ _ _ _ => N4
          refine s_split_bad hh fun h5 tk5 e hx => ?_
          have eC := N4 (C, oC) (List.mem_append_right _ (.head _))
          show E' _ _
          exact hE' _ _ ⟨_, _, _, e, _, rfl, rfl, F4, news_sub N4 fun p hp => List.mem_append_right _ (.tail _ (.tail _ hp)), ⟨_, hC.ns eC.1⟩, eC.2.1, eC.2.2, fun p hp => (hoff p hp).2.1, Exc.of_new hx⟩
    · rintro g tk ys nx ⟨rfl, hnb⟩
      rw [List.take_of_length_le (by rw [hpv.1]; exact Nat.le_refl _)] at hnb
      cases oct with
      | false => exact absurd hnb (by rw [show badK false = TB.isB from rfl, m1]; decide)
      | true => exact absurd hnb (by rw [show badK true = (fun x => !x.isB) from rfl, m0]; decide)
end
end
section
theorem fill_E17 (w : World) (h : Heap) : PySem.Challenge.rw_ko0128_01.Holds → (Mine.hd.heap_39 w.params).In h → True := by
  w_top off
  k_with_none
  (k_with "MY k_room" => ((try simp only [depth_under_make, depth_under_kw, depth_in1, depth_deeper]); (try unfold recursionLimit); first | exact room_le (by assumption) | exact room_lt (by assumption) | (first | lia | omega)))
  (k_with "MY top" => first | assumption | exact Top.keeps (by assumption) (Fr.keep (by assumption)))
  (k_with "MY enter" => (refine wpAny_call ?_; (refine' enterK ?kzk1z ?kzk2z ?kzk3z ?kzk4z ?kzk5z ?kzk6z ?kzk7z ?_ ?kzk8z ?kzk9z ?kzk10z ?kzk11z; (case kzk1z => assumption); (case kzk2z => assumption); (case kzk3z => k_room); (case kzk4z => k_is); (case kzk5z => k_is); (case kzk6z => first | exact BindsTo.of_eq rfl | exact binds_K (by k_in) rfl (by k_is) rfl rfl rfl); (case kzk7z => exact locs rfl); (case kzk8z => decide); (case kzk9z => exact rfl); (case kzk10z => exact rfl); (case kzk11z => exact rfl); k_whole; intro LZq hZq FZq NZq; (try dsimp only); (try k_fold))))
  (k_with "call type:type" => (k_here; (with_reducible show wpAny _ _ (call (Value.type "type") [Value.bytes _ _]) _ _ _); refine call_type_of (Tx := "bytes") rfl (by decide) ?_))
  (k_with "call builtin:issubclass" => (k_here; refine call_isub (by first | exact .inl rfl | exact .inr rfl) (News.get (by k_asm) (by k_mem)) ?_))
  (k_with "MY same" => (intro y hy; (try dsimp only); repeat (first | exact rfl | (refine (if_neg ?kzhz).trans ?_; (case kzhz => first | (intro e; subst e; exact absurd hy (by decide)) | (intro e; rw [hy] at e; cases e))))))
  (k_with "assign Tuple" => (k_here; (with_reducible show wpAny _ _ (assign (Expr.Tuple _ _ _) _ (Value.ref _)) _ _ _); k_dflt (refine' kun_list ?kzk1z ?kzk2z ?kzk3z ?kzk4z ?kzk5z ?kzk6z ?_; (case kzk1z => k_asm); (case kzk2z => k_asm); (case kzk3z => kun_lst); (case kzk4z => first | exact rfl | assumption); (case kzk5z => exact rfl); (case kzk6z => exact rfl); k_whole); intro hZq FZq NZq; (try k_sweep)))
  (k_with "assign Tuple" => (k_here; (with_reducible show wpAny _ _ (assign (Expr.Tuple _ _ _) _ (Value.ref _)) _ _ _); k_dflt (refine' unpackN_ ?kzk1z ?kzk2z ?kzk3z ?kzk4z ?kzk5z ?kzk6z ?_; (case kzk1z => k_asm); (case kzk2z => k_asm); (case kzk3z => kun_tup); (case kzk4z => first | exact rfl | assumption); (case kzk5z => exact rfl); (case kzk6z => exact rfl); k_whole); intro hZq FZq NZq; (try k_sweep)))
  (k_with "MY hideT" => (refine hide_post (m := execs _ _) ?_; intro kTE kTEh))
  (k_with "MY hideW" => (intro kWT kWZ kWTh kWZh))
  (k_with "MY showT" => (rename Hid (TurnEnd _ _ _ _ _ _ _) _ => kTEh; refine kTEh _ _ ?_))
  (k_with "MY showW" => (rename Hid (WTurn _ _ _ _ _ _) _ => kWTh; refine kWTh _ _ ?_))
  (k_with "MY showZ" => (rename (∀ s : Shared, _ → _) => kWZh; refine kWZh _ ?_))
  (k_with "execs cons" => (k_here; first | (dsimp only; try (rename Fr _ _ _ _ => kFd; dsimp only at kFd)) | (rename Fr _ _ _ _ => kFd; dsimp only at kFd) | k_gentoks | k_made | ((with_reducible refine wpAny_execs_cons ?_); (try dsimp only); (try k_fold))))
  (k_with "MY k_ne" => (refine neN ?_; (try dsimp only); first | assumption | exact Ne.symm (by assumption) | exact Nat.ne_of_lt (Nat.lt_succ_self _) | exact Nat.ne_of_gt (Nat.lt_succ_self _) | exact Nat.ne_of_lt (Nat.lt_succ_of_lt (Nat.lt_succ_self _)) | exact Nat.ne_of_gt (Nat.lt_succ_of_lt (Nat.lt_succ_self _)) | exact Nat.ne_of_gt (by first | assumption | exact at1 (by assumption) | exact at2 (by assumption) | exact at3 (by assumption) | exact at4 (by assumption) | exact at5 (by assumption) | exact at6 (by assumption) | exact at7 (by assumption) | exact at8 (by assumption)) | (first | lia | omega)))
  k_fill
  intros; trivial
set_option maxHeartbeats 8000000
noncomputable def RQ (v : Value) (q : Bool × List Nat) : Prop := VC q.1 v q.2
theorem al_uncons {α : Type} {R : Value → α → Prop} {vs : List Value} {x : α} {xs : List α} (r : Al R vs (x :: xs)) : ∃ v vr, vs = v :: vr ∧ R v x ∧ Al R vr xs := by
  cases vs with
  | nil => have := r.1; simp at this
  | cons v vr =>
    refine ⟨v, vr, rfl, ?_, by simpa using r.1, fun i u hu => ?_⟩
    · obtain ⟨a, ha, hr⟩ := r.2 0 v rfl
      cases ha; exact hr
    · obtain ⟨a, ha, hr⟩ := r.2 (i + 1) u (by simpa using hu)
      exact ⟨a, by simpa using ha, hr⟩
theorem al_tb : ∀ {qs : List (Bool × List Nat)} {vs : List Value}, Al RQ vs qs → ∃ xs : List TB, Al RTB vs xs ∧ lensT xs = lensL (qs.map (·.2)) ∧ xs.map TB.isB = qs.map (·.1)
  | [], vs, h => ⟨[], ⟨by simpa using h.1, fun i v hv => by have := h.1; simp at this; rw [this] at hv; cases hv⟩, rfl, rfl⟩
  | (b, d) :: qs, vs, h => by
    obtain ⟨v, vr, rfl, hv, hr⟩ := al_uncons h
    obtain ⟨xs, h1, h2, h3⟩ := al_tb hr
    cases b with
    | false =>
      obtain ⟨x, t, rfl, e⟩ := hv
      refine ⟨.t x :: xs, .cons ⟨t, rfl⟩ h1, ?_, by simp [h3, TB.isB]⟩
      have e : cpl x = d := e
      rw [show lensT (.t x :: xs) = (x.length + 1) + lensT xs from by simp [lensT, TB.len], h2, show lensL (((false, d) :: qs).map (·.2)) = (d.length + 1) + lensL (qs.map (·.2)) from by simp [lensL], ← e, cpl_len]
    | true =>
      obtain ⟨x, t, rfl, e⟩ := hv
      refine ⟨.b x :: xs, .cons ⟨t, rfl⟩ h1, ?_, by simp [h3, TB.isB]⟩
      have e : nats x = d := e
      rw [show lensT (.b x :: xs) = (x.size + 1) + lensT xs from by simp [lensT, TB.len], h2, show lensL (((true, d) :: qs).map (·.2)) = (d.length + 1) + lensL (qs.map (·.2)) from by simp [lensL], ← e, nats_len]
theorem al_same {b : Bool} {qs : List (Bool × List Nat)} {vs : List Value} (h : Al RQ vs qs) (hb : ∀ q ∈ qs, q.1 = b) : Al (VC b) vs (qs.map (·.2)) :=
  ⟨by rw [List.length_map]; exact h.1, fun i v hv => by
    obtain ⟨q, hq, hr⟩ := h.2 i v hv
    refine ⟨q.2, by rw [List.getElem?_map, hq]; rfl, ?_⟩
    rw [← hb q (List.mem_of_getElem? hq)]; exact hr⟩
theorem any_map_id {α : Type} (f : α → Bool) (l : List α) : l.any f = (l.map f).any id := by simp [List.any_map]
section
variable {w : World} {A : Around} {mg mb : Str → Option Value} {mean : ExcName → Option Value} {loose : List Str} {s : Shared} {Q : Value → Shared → Prop} {E : Value → Shared → Prop} {base : Heap} {fs : List Env}
theorem cp_sameV {b : Bool} {Lp : Addr} {vs : List Value} {ds : List (List Nat)} (B : Below A base fs s.heap) (X₀ : (Mine.hd.heap_39 w.params).In base) (T₀ : Top Mine.hd.view_39 loose mean mg mb base) (hd : A.depth ≤ 530) (hh : A.handled = none) (hu : A.units ≤ 5000)
    (hp : s.heap.IsList Lp vs.toArray) (hpv : Al (VC b) vs ds) (hz : lensL ds ≤ 1000) (hne : ds ≠ [])
    (hG : ∀ ab, (∀ d ∈ ds, (d.head? == some 47) = ab) → ∀ h' tk tv, Kp s.heap h' → VC b tv (cpN ds) → Q tv { s with heap := h', toks := tk })
    (hW : ((∃ d ∈ ds, (d.head? == some 47) = false) ∧ ∃ d ∈ ds, (d.head? == some 47) = true) → ∀ h' tk e c, Exc (fs.filterMap (·.frame)) s.heap h' e (.type "ValueError") c true → E (.ref e) { s with heap := h', toks := tk }) :
    wpAny (model PySem.Challenge.rw_ko0128_01.row.prog w) A (call (.ref 106) [.ref Lp]) Q E s := by
  cases ds with
  | nil => exact absurd rfl hne
  | cons d0 dr =>
    obtain ⟨v, vr, rfl, hv, hr⟩ := al_uncons hpv
    exact cp_same B X₀ T₀ hd hh hu hp hpv hz hG hW
theorem cp_goodV {b : Bool} {Lp : Addr} {vs : List Value} {ds : List (List Nat)} (B : Below A base fs s.heap) (X₀ : (Mine.hd.heap_39 w.params).In base) (T₀ : Top Mine.hd.view_39 loose mean mg mb base) (hd : A.depth ≤ 530) (hh : A.handled = none) (hu : A.units ≤ 5000)
    (hp : s.heap.IsList Lp vs.toArray) (hpv : Al (VC b) vs ds) (hz : lensL ds ≤ 1000) (hne : ds ≠ []) {ab : Bool} (hab : ∀ d ∈ ds, (d.head? == some 47) = ab)
    (h : ∀ h' tk tv, Kp s.heap h' → VC b tv (cpN ds) → Q tv { s with heap := h', toks := tk }) :
    wpAny (model PySem.Challenge.rw_ko0128_01.row.prog w) A (call (.ref 106) [.ref Lp]) Q E s :=
  cp_sameV B X₀ T₀ hd hh hu hp hpv hz hne (fun _ _ => h) fun ⟨⟨_, h0, e0⟩, ⟨_, h1, e1⟩⟩ => by
    rw [hab _ h0] at e0; rw [hab _ h1, e0] at e1; cases e1
theorem cp_any {Lp : Addr} {vs : List Value} {qs : List (Bool × List Nat)} (B : Below A base fs s.heap) (X₀ : (Mine.hd.heap_39 w.params).In base) (T₀ : Top Mine.hd.view_39 loose mean mg mb base) (hd : A.depth ≤ 530) (hh : A.handled = none) (hu : A.units ≤ 5000)
    (hp : s.heap.IsList Lp vs.toArray) (hpv : Al RQ vs qs) (hz : lensL (qs.map (·.2)) ≤ 1000)
    (hT : (qs.any fun q => !q.1) = true → (qs.any fun q => q.1) = true → ∀ h' tk e c, Exc (fs.filterMap (·.frame)) s.heap h' e (.type "TypeError") c true → E (.ref e) { s with heap := h', toks := tk })
    (hV : ∀ b, (∀ q ∈ qs, q.1 = b) → (qs = [] ∨ ((∃ q ∈ qs, (q.2.head? == some 47) = false) ∧ (∃ q ∈ qs, (q.2.head? == some 47) = true))) → ∀ h' tk e c, Exc (fs.filterMap (·.frame)) s.heap h' e (.type "ValueError") c true → E (.ref e) { s with heap := h', toks := tk })
    (hG : ∀ b a, qs ≠ [] → (∀ q ∈ qs, q.1 = b) → (∀ q ∈ qs, (q.2.head? == some 47) = a) → ∀ h' tk tv, Kp s.heap h' → VC b tv (cpN (qs.map (·.2))) → Q tv { s with heap := h', toks := tk }) :
    wpAny (model PySem.Challenge.rw_ko0128_01.row.prog w) A (call (.ref 106) [.ref Lp]) Q E s := by
  cases qs with
  | nil =>
    have : vs = [] := by have := hpv.1; simpa using this
    subst this
    exact cp_empty B X₀ T₀ hd hh hp (hV false (fun _ hq => (nomatch hq)) (.inl rfl))
  | cons q0 qr =>
    by_cases hm : ((q0 :: qr).any fun q => !q.1) = true ∧ ((q0 :: qr).any fun q => q.1) = true
    · obtain ⟨xs, h1, h2, h3⟩ := al_tb hpv
      have m1 : xs.any TB.isB = true := by
        rw [any_map_id, h3, ← any_map_id]; exact hm.2
      have m0 : (xs.any fun x => !x.isB) = true := by
        have e : xs.map (fun x => !x.isB) = (q0 :: qr).map (fun q => !q.1) := by
          rw [show (xs.map fun x => !x.isB) = (xs.map TB.isB).map (!·) from by rw [List.map_map]; rfl, h3, List.map_map]; rfl
        rw [any_map_id, e, ← any_map_id]; exact hm.1
      have k := hT hm.1 hm.2
      rw [← h2] at hz
      cases xs with
      | nil => cases m1
      | cons x0 xr =>
        obtain ⟨v, vr, rfl, hv, hr⟩ := al_uncons h1
        exact cp_mixed B X₀ T₀ hd hh hp h1 rfl rfl hz m0 m1 k
    · have hb : ∀ q ∈ q0 :: qr, q.1 = q0.1 := fun q hq => by
        refine Classical.byContradiction fun hne => hm ?_
        have h0 : q0 ∈ q0 :: qr := .head _
        cases e1 : q0.1 with
        | false =>
          rw [e1] at hne
          exact ⟨List.any_eq_true.mpr ⟨q0, h0, by rw [e1]; rfl⟩, List.any_eq_true.mpr ⟨q, hq, by simpa using hne⟩⟩
        | true =>
          rw [e1] at hne
          exact ⟨List.any_eq_true.mpr ⟨q, hq, by simpa using hne⟩, List.any_eq_true.mpr ⟨q0, h0, e1⟩⟩
      have hs := al_same hpv hb
      refine cp_sameV B X₀ T₀ hd hh hu hp hs hz (by simp) (fun ab hab => hG _ ab (by simp) hb fun q hq => hab _ (List.mem_map_of_mem hq)) fun ⟨⟨d0, h0, e0⟩, ⟨d1, h1, e1⟩⟩ => ?_
      obtain ⟨q0', g0, rfl⟩ := List.mem_map.mp h0
      obtain ⟨q1', g1, rfl⟩ := List.mem_map.mp h1
      exact hV _ hb (.inr ⟨⟨q0', g0, e0⟩, ⟨q1', g1, e1⟩⟩)
end
end
section
theorem fill_E21 (w : World) (h : Heap) : PySem.Challenge.rw_ko0128_01.Holds → (Mine.hd.heap_39 w.params).In h → True := by
  w_top off
  k_with_none
  (k_with "MY k_room" => ((try simp only [depth_under_make, depth_under_kw, depth_in1, depth_deeper]); (try unfold recursionLimit); first | exact room_le (by assumption) | exact room_lt (by assumption) | (first | lia | omega)))
  (k_with "MY top" => first | assumption | exact Top.keeps (by assumption) (Fr.keep (by assumption)))
  (k_with "MY enter" => (refine wpAny_call ?_; (refine' enterK ?kzk1z ?kzk2z ?kzk3z ?kzk4z ?kzk5z ?kzk6z ?kzk7z ?_ ?kzk8z ?kzk9z ?kzk10z ?kzk11z; (case kzk1z => assumption); (case kzk2z => assumption); (case kzk3z => k_room); (case kzk4z => k_is); (case kzk5z => k_is); (case kzk6z => first | exact BindsTo.of_eq rfl | exact binds_K (by k_in) rfl (by k_is) rfl rfl rfl); (case kzk7z => exact locs rfl); (case kzk8z => decide); (case kzk9z => exact rfl); (case kzk10z => exact rfl); (case kzk11z => exact rfl); k_whole; intro LZq hZq FZq NZq; (try dsimp only); (try k_fold))))
  (k_with "call type:type" => (k_here; (with_reducible show wpAny _ _ (call (Value.type "type") [Value.bytes _ _]) _ _ _); refine call_type_of (Tx := "bytes") rfl (by decide) ?_))
  (k_with "call builtin:issubclass" => (k_here; refine call_isub (by first | exact .inl rfl | exact .inr rfl) (News.get (by k_asm) (by k_mem)) ?_))
  (k_with "MY same" => (intro y hy; (try dsimp only); repeat (first | exact rfl | (refine (if_neg ?kzhz).trans ?_; (case kzhz => first | (intro e; subst e; exact absurd hy (by decide)) | (intro e; rw [hy] at e; cases e))))))
  (k_with "assign Tuple" => (k_here; (with_reducible show wpAny _ _ (assign (Expr.Tuple _ _ _) _ (Value.ref _)) _ _ _); k_dflt (refine' kun_list ?kzk1z ?kzk2z ?kzk3z ?kzk4z ?kzk5z ?kzk6z ?_; (case kzk1z => k_asm); (case kzk2z => k_asm); (case kzk3z => kun_lst); (case kzk4z => first | exact rfl | assumption); (case kzk5z => exact rfl); (case kzk6z => exact rfl); k_whole); intro hZq FZq NZq; (try k_sweep)))
  (k_with "assign Tuple" => (k_here; (with_reducible show wpAny _ _ (assign (Expr.Tuple _ _ _) _ (Value.ref _)) _ _ _); k_dflt (refine' unpackN_ ?kzk1z ?kzk2z ?kzk3z ?kzk4z ?kzk5z ?kzk6z ?_; (case kzk1z => k_asm); (case kzk2z => k_asm); (case kzk3z => kun_tup); (case kzk4z => first | exact rfl | assumption); (case kzk5z => exact rfl); (case kzk6z => exact rfl); k_whole); intro hZq FZq NZq; (try k_sweep)))
  (k_with "MY hideT" => (refine hide_post (m := execs _ _) ?_; intro kTE kTEh))
  (k_with "MY hideW" => (intro kWT kWZ kWTh kWZh))
  (k_with "MY showT" => (rename Hid (TurnEnd _ _ _ _ _ _ _) _ => kTEh; refine kTEh _ _ ?_))
  (k_with "MY showW" => (rename Hid (WTurn _ _ _ _ _ _) _ => kWTh; refine kWTh _ _ ?_))
  (k_with "MY showZ" => (rename (∀ s : Shared, _ → _) => kWZh; refine kWZh _ ?_))
  (k_with "execs cons" => (k_here; first | (dsimp only; try (rename Fr _ _ _ _ => kFd; dsimp only at kFd)) | (rename Fr _ _ _ _ => kFd; dsimp only at kFd) | k_gentoks | k_made | ((with_reducible refine wpAny_execs_cons ?_); (try dsimp only); (try k_fold))))
  (k_with "MY k_ne" => (refine neN ?_; (try dsimp only); first | assumption | exact Ne.symm (by assumption) | exact Nat.ne_of_lt (Nat.lt_succ_self _) | exact Nat.ne_of_gt (Nat.lt_succ_self _) | exact Nat.ne_of_lt (Nat.lt_succ_of_lt (Nat.lt_succ_self _)) | exact Nat.ne_of_gt (Nat.lt_succ_of_lt (Nat.lt_succ_self _)) | exact Nat.ne_of_gt (by first | assumption | exact at1 (by assumption) | exact at2 (by assumption) | exact at3 (by assumption) | exact at4 (by assumption) | exact at5 (by assumption) | exact at6 (by assumption) | exact at7 (by assumption) | exact at8 (by assumption)) | (first | lia | omega)))
  (k_with "MY back" => (rename Fr _ _ _ _ => kFZq; rename News _ _ _ _ => kNZq; rename Kp _ _ => hkZq; replace kFZq := Fr.grownK kFZq hkZq; replace kNZq := News.grown kNZq hkZq; clear hkZq))
  (k_with "MY prem" => ((case kzXz => k_in); (case kzTz => walk_at "MY top"); (case kzdz => k_room); k_whole))
  (k_with "call ref" => (k_here; (with_reducible show wpAny _ _ (call (Value.ref 94) [Value.str _ _]) _ _ _); refine' fspath_str ?kzXz ?kzTz ?kzdz ?_; walk_at "MY prem"; intro hZq tkZq hkZq; walk_at "MY back"))
  (k_with "call ref" => (k_here; (with_reducible show wpAny _ _ (call (Value.ref 94) [Value.bytes _ _]) _ _ _); refine' fspath_bytes ?kzXz ?kzTz ?kzdz ?_; walk_at "MY prem"; intro hZq tkZq hkZq; walk_at "MY back"))
  (k_with "exec For Name Name cons nil" => (k_here; (rename Fr _ _ _ _ => lFZq); (with_unfolding_all refine' For_invVF lFZq ?kzk1z ?kzk2z ?_; (case kzk1z => exact rfl); (case kzk2z => exact rfl); k_whole)))
  (k_with "exec For Name Call cons nil" => (k_here; (rename Fr _ _ _ _ => lFZq); (with_unfolding_all refine' For_invVF lFZq ?kzk1z ?kzk2z ?_; (case kzk1z => exact rfl); (case kzk2z => exact rfl); k_whole)))
  (k_with "exec For Name Subscript cons nil" => (k_here; (rename Fr _ _ _ _ => lFZq); (with_unfolding_all refine' For_invVF lFZq ?kzk1z ?kzk2z ?_; (case kzk1z => exact rfl); (case kzk2z => exact rfl); k_whole)))
  (k_with "exec For Name IfExp cons nil" => (k_here; (rename Fr _ _ _ _ => lFZq); (with_unfolding_all refine' For_invVF lFZq ?kzk1z ?kzk2z ?_; (case kzk1z => exact rfl); (case kzk2z => exact rfl); k_whole)))
  (k_with "exec While BoolOp cons nil" => (k_here; refine Halt.mk ?_))
  (k_with "exec While Compare cons nil" => (k_here; refine Halt.mk ?_))
  (k_with "MY go" => show wpAny _ _ _ _ _ _)
  (k_with "eval ListComp" => (k_here; k_dflt (refine ListComp_G (F₀ := by k_asm) (by with_unfolding_all rfl) (by decide) (by rfl) (by decide) ?_)))
  (k_with "exec Assign cons ListComp" => (k_here; k_dflt (refine Assign_ListComp_G (F₀ := by k_asm) (by rfl) (by with_unfolding_all rfl) (by with_unfolding_all rfl) (by decide) (by rfl) (by decide) (by rfl) (by rfl) ?_)))
  (k_with "CompAt" => (k_here; refine Halt.mk ?_))
  (k_with "call type:zip" => (k_here; refine Halt.mk ?_))
  (k_with "MY open" => unfold Halt)
  (k_with "call builtin:len" => (k_here; (with_reducible show wpAny _ _ (call (Value.builtin "len") [Value.ref _]) _ _ _); k_dflt (refine' len_any ?kzlz ?kzzz ?_; (case kzlz => kmk_list); (case kzzz => first | assumption | exact Nat.le_of_ble_eq_true rfl))))
  (k_with "subscriptTail Name Name ref int" => (k_here; k_dflt (refine' item_nat ?kzlz ?kzxz ?kzzz ?_; (case kzlz => kmk_list); (case kzxz => assumption); (case kzzz => assumption))))
  (k_with "call type:range" => (k_here; (with_reducible show wpAny _ _ (call _ _) (CompAt _ _ _ _ _ _ _ _ _ _ _ _ _ _) _ _); refine Halt.mk ?_))
  (k_with "binaryOp Add ref ref" => (k_here; k_dflt (refine' add_any ?kzFz ?kzNz ?kzlz ?kzbz ?kzzz ?_; (case kzFz => k_asm); (case kzNz => k_asm); (case kzlz => kmk_list); (case kzbz => kmk_list); (case kzzz => (rw [sizeLine_eq]; (try simp only [List.length_cons, List.length_nil]); first | exact sz_one (by assumption) | exact sz_zero (by assumption) | exact sz_one2 (by assumption) (by assumption) | exact sz_zero2 (by assumption) (by assumption) | exact sz_two (by assumption) (by assumption) | decide | (first | lia | omega)))); intro DZq hZq FZq NZq l1; (try k_lt l1); (try k_sweep)))
  (k_with "call builtin:max" => (k_here; (with_reducible show wpAny _ _ (call (Value.builtin "max") [Value.ref _]) _ _ _); k_dflt (refine' max_list_N ?kzhz ?kzFz ?kzNz ?kzlz ?kziz ?kzzz ?_; (case kzhz => first | assumption | exact rfl); (case kzFz => k_asm); (case kzNz => k_asm); (case kzlz => kmk_list); (case kziz => first | assumption | exact (IntsAre.cons _ _ .nil).append (by assumption) | exact IntsAre.cons _ _ (by assumption)); (case kzzz => simp)); intro hZq MZq tZq tkZq FZq NZq hM1Zq hM2Zq; (try k_sweep)))
  (k_with "call ref" => (k_here; (with_reducible show wpAny _ _ (call (Value.ref 127) [Value.str _ _, Value.int _ _]) _ _ _); (fail_if_success with_reducible show wpAny _ _ (call (Value.ref 127) [Value.str _ _, Value.int 0 _]) _ _ _); (fail_if_success with_reducible show wpAny _ _ (call (Value.ref 127) [Value.str _ _, Value.int 1 _]) _ _ _); refine Halt.mk ?_))
  (k_with "subscriptTail Name UnaryOp ref int" => (k_here; k_dflt (refine' item_last ?kzlz ?kzxz ?kzzz ?_; (case kzlz => kmk_list); (case kzxz => assumption); (case kzzz => assumption))))
  (k_with "subscriptTail Name Slice ref ref" => (k_here; (with_reducible show wpAny _ _ (subscriptTail _ (PySem.Expr.Slice _ _ none _) (Value.ref _) (Value.ref _)) _ _ _); k_dflt (refine' slice_any ?kzFz ?kzNz ?kzlz ?kzpz ?kzqz ?_ ?kzsz ?kztz ?kzzz; (case kzFz => k_asm); (case kzNz => k_asm); (case kzlz => kmk_list); (case kzpz => kmk_part); (case kzqz => kmk_part); (case kzsz => with_unfolding_all rfl); (case kztz => kmk_pure); (case kzzz => first | assumption | exact Nat.le_of_ble_eq_true rfl)); intro DZq hZq FZq NZq l1; (try simp only [pick_tail1] at NZq); (try k_lt l1); (try k_sweep)))
  (k_with "unpackItems ref" => (k_here; k_dflt (refine' unpackItemsN_ ?kzk1z ?kzk2z ?kzk3z ?kzk4z ?kzk5z ?_; (case kzk1z => k_asm); (case kzk2z => k_asm); (case kzk3z => kun_tup); (case kzk4z => first | exact rfl | assumption); (case kzk5z => exact rfl); k_whole); intro hZq FZq NZq; (try k_sweep)))
  (k_with "MY k_all" => assumption)
  (k_with "MY k_mem" => first | assumption | (refine List.mem_append_right _ ?_; k_mem) | exact List.mem_append_left _ (by assumption))
  (k_with "subscriptTail Name Constant ref int" => (k_here; k_dflt (refine' item_zero ?kzlz ?_; (case kzlz => kmk_list))))
  (k_with "compareOp Eq ref ref" => (k_here; first | k_dflt (refine' ke_eq_ints ?kzaz ?kzbz ?kziz ?kzjz ?kzuz ?_; (case kzaz => kmk_list); (case kzbz => kmk_list); (case kziz => first | assumption | exact IntsAre.nil); (case kzjz => first | assumption | exact IntsAre.nil); (case kzuz => (simp only [units_in1, units_deeper, Around.mark_units]; rw [show cLine = 9900 from rfl]; first | exact units64 (by assumption) | exact units1 (by assumption) | (first | lia | omega)))) | refine Halt.mk ?_))
  (k_with "StarOf ref" => (k_here; k_dflt (refine' star_list ?kzk1z ?kzk2z ?kzlz ?kzzz ?_; (case kzk1z => k_asm); (case kzk2z => k_asm); (case kzlz => first | kmk_list | exact Heap.IsList.at (by assumption) fun o e => Fr.keep (by k_asm) _ o e); (case kzzz => assumption); k_whole); intro hZq FZq NZq; (try k_sweep); try dsimp only [List.nil_append, List.cons_append]))
  (k_with "MY enterC" => (refine wpAny_call ?_; (refine' enterC ?kzk1z ?kzk2z ?kzk3z ?kzk4z ?kzk5z ?kzk6z ?kzk7z ?kzk7bz ?_ ?kzk9z ?kzk10z ?kzk11z; (case kzk1z => assumption); (case kzk2z => assumption); (case kzk3z => k_room); (case kzk4z => k_is); (case kzk5z => k_is); (case kzk6z => first | exact BindsTo.of_eq rfl | exact binds_K (by k_in) rfl (by k_is) rfl rfl rfl); (case kzk7z => exact fun n x hx => .inl (locs rfl x hx)); (case kzk7bz => decide); (case kzk9z => exact rfl); (case kzk10z => exact rfl); (case kzk11z => exact rfl); k_whole; intro L1 h1 tk1 cells1 F1 N1 Y1; (try dsimp only); (try k_fold))))
  (k_with "call type:range" => (k_here; (with_reducible show wpAny _ _ (call _ [Value.int _ _, Value.int _ _]) _ _ _); refine Halt.mk ?_))
  (k_with "subscriptTail Name Constant ref int" => (k_here; k_dflt (refine' item_first ?kzlz ?kzxz ?_; (case kzlz => kmk_list); (case kzxz => assumption))))
  (k_with "call builtin:sum" => (k_here; k_dflt (refine' LSm.sum_ints ?kzfz ?kznz ?kzhz ?kzlz ?kziz ?_; (case kzfz => k_asm); (case kznz => k_asm); (case kzhz => first | assumption | exact rfl); (case kzlz => kmk_list); (case kziz => assumption)); intro hZq tkZq tZq FZq NZq; (try k_sweep)))
  (k_with "compareOp NotEq ref ref" => (k_here; first | k_dflt (refine' ke_ne_ints ?kzaz ?kzbz ?kziz ?kzjz ?kzuz ?_; (case kzaz => kmk_list); (case kzbz => kmk_list); (case kziz => first | assumption | exact IntsAre.nil); (case kzjz => first | assumption | exact IntsAre.nil | exact IntsAre.cons _ _ IntsAre.nil); (case kzuz => (simp only [units_in1, units_deeper, Around.mark_units]; rw [show cLine = 9900 from rfl]; first | exact units64 (by assumption) | exact units1 (by assumption) | (first | lia | omega)))) | k_dflt (refine' ne_rows_some ?kznz ?kzaz ?kzraz ?kzbz ?kzuz ?_; (case kznz => k_asm); (case kzaz => k_mem); (case kzbz => k_mem); (case kzraz => exact Rows.sub (by assumption) (fun p hp => by repeat (first | exact hp | refine List.Mem.tail _ ?_ | refine List.mem_append_right _ ?_))); (case kzuz => (simp only [units_in1, units_deeper, Around.mark_units]; rw [show cLine = 9900 from rfl]; first | exact units64 (by assumption) | exact units1 (by assumption) | (first | lia | omega))))))
  (k_with "compareOp Eq ref ref" => (k_here; first | k_dflt (refine' ke_eq_ints ?kzaz ?kzbz ?kziz ?kzjz ?kzuz ?_; (case kzaz => kmk_list); (case kzbz => kmk_list); (case kziz => first | assumption | exact IntsAre.nil); (case kzjz => first | assumption | exact IntsAre.nil | exact IntsAre.cons _ _ IntsAre.nil); (case kzuz => (simp only [units_in1, units_deeper, Around.mark_units]; rw [show cLine = 9900 from rfl]; first | exact units64 (by assumption) | exact units1 (by assumption) | (first | lia | omega)))) | k_dflt (refine' eq_rows_some ?kznz ?kzaz ?kzraz ?kzbz ?kzuz ?_; (case kznz => k_asm); (case kzaz => k_mem); (case kzbz => k_mem); (case kzraz => exact Rows.sub (by assumption) (fun p hp => by repeat (first | exact hp | refine List.Mem.tail _ ?_ | refine List.mem_append_right _ ?_))); (case kzuz => (simp only [units_in1, units_deeper, Around.mark_units]; rw [show cLine = 9900 from rfl]; first | exact units64 (by assumption) | exact units1 (by assumption) | (first | lia | omega))))))
  (k_with "MY enterCC" => (refine wpAny_call ?_; (refine' enterC ?kzk1z ?kzk2z ?kzk3z ?kzk4z ?kzk5z ?kzk6z ?kzk7z ?kzk7bz ?_ ?kzk9z ?kzk10z ?kzk11z; (case kzk1z => assumption); (case kzk2z => assumption); (case kzk3z => k_room); (case kzk4z => k_is); (case kzk5z => k_is); (case kzk6z => first | exact BindsTo.of_eq rfl | exact binds_K (by k_in) rfl (by k_is) rfl rfl rfl); (case kzk7z => with_unfolding_all exact fun n => List.forall_mem_cons.mpr ⟨.inr ⟨rfl, rfl⟩, List.forall_mem_cons.mpr ⟨.inr ⟨rfl, rfl⟩, List.forall_mem_nil _⟩⟩); (case kzk7bz => decide); (case kzk9z => exact rfl); (case kzk10z => exact rfl); (case kzk11z => exact rfl); k_whole; intro L1 h1 tk1 cells1 F1 N1 Y1; (try dsimp only); (try k_fold))))
  (k_with "compareOp In bool ref" => (k_here; k_dflt (refine' in_slash ?kzlz ?_; (case kzlz => kmk_list))))
  (k_with "call ref" => (k_here; (with_reducible show wpAny _ _ (call (Value.ref 118) _) _ _ _); refine Halt.mk ?_))
  (k_with "call ref" => (k_here; (with_reducible show wpAny _ _ (call (Value.ref 106) _) _ _ _); refine Halt.mk ?_))
  (k_with "call ref" => (k_here; (with_reducible show wpAny _ _ (call (Value.ref 125) _) _ _ _); refine Halt.mk ?_))
  (k_with "compareOp Eq ref ref" => (k_here; k_dflt (refine' eq_rows_base ?kzfz ?kznz ?kzaz ?kzraz ?kzbz ?kzuz ?_; (case kzfz => k_asm); (case kznz => k_asm); (case kzraz => assumption); (case kzaz => assumption); (case kzbz => k_mem); (case kzuz => (simp only [units_in1, units_deeper, Around.mark_units]; rw [show cLine = 9900 from rfl]; first | exact units64 (by assumption) | exact units1 (by assumption) | (first | lia | omega))))))
  (k_with "compareOp NotEq" => (k_here; refine Halt.mk ?_))
  (k_with "compareOp Eq" => (k_here; refine Halt.mk ?_))
  (k_with "compareOp NotEq ref ref" => (k_here; first | k_dflt (refine' ne_rowsD ?kznz ?kzaz ?kzraz ?kzbz ?kzrbz ?kzuz ?_; (case kznz => k_asm); (case kzaz => k_mem); (case kzbz => k_mem); (case kzraz => exact Rows.sub (by assumption) (fun p hp => by repeat (first | exact hp | refine List.Mem.tail _ ?_ | refine List.mem_append_right _ ?_))); (case kzrbz => exact Rows.sub (by assumption) (fun p hp => by repeat (first | exact hp | refine List.Mem.tail _ ?_ | refine List.mem_append_right _ ?_))); (case kzuz => (simp only [units_in1, units_deeper, Around.mark_units]; rw [show cLine = 9900 from rfl]; first | exact units64 (by assumption) | exact units1 (by assumption) | (first | lia | omega)))) | k_dflt (refine' ne_nest0 ?kznz ?kzaz ?kzraz ?kzbz ?kzuz ?_; (case kznz => k_asm); (case kzaz => k_mem); (case kzbz => k_mem); (case kzraz => exact RRows.sub (by assumption) (fun p hp => by repeat (first | exact hp | refine List.Mem.tail _ ?_ | refine List.mem_append_right _ ?_))); (case kzuz => (simp only [units_in1, units_deeper, Around.mark_units]; rw [show cLine = 9900 from rfl]; first | exact units64 (by assumption) | exact units1 (by assumption) | (first | lia | omega))))))
  (k_with "subscriptTail" => (k_here; k_dflt (refine' item_nat ?kzlz ?kzxz ?kzzz ?_; (case kzlz => kmk_list); (case kzxz => assumption); (case kzzz => assumption))))
  (k_with "call type:range" => (k_here; (with_reducible show wpAny _ _ (call _ [Value.int _ _]) _ _ _); refine Halt.mk ?_))
  (k_with "binaryOp Add ref ref" => (k_here; k_dflt (refine' add_any ?kzFz ?kzNz ?kzlz ?kzbz ?kzzz ?_; (case kzFz => k_asm); (case kzNz => k_asm); (case kzlz => kmk_list); (case kzbz => kmk_list); (case kzzz => (rw [sizeLine_eq]; (try simp only [List.length_append, List.length_cons, List.length_nil]); first | exact sz_one (by assumption) | exact sz_zero (by assumption) | exact sz_one2 (by assumption) (by assumption) | exact sz_zero2 (by assumption) (by assumption) | exact sz_two (by assumption) (by assumption) | decide | (first | lia | omega)))); intro DZq hZq FZq NZq l1; (try k_lt l1); (try k_sweep)))
  (k_with "eval BinOp" => (k_here; k_fold))
  (k_with "eval Call Attribute" => (k_here; k_fold))
  (k_with "eval IfExp" => (k_here; k_fold))
  (k_with "eval Subscript" => (k_here; k_fold))
  (k_with "isTrue BoolOp" => (k_here; k_fold))
  (k_with "isTrue Compare" => (k_here; k_fold))
  (k_with "eval List" => (k_here; k_fold))
  (k_with "eval Tuple" => (k_here; k_fold))
  k_fill
  intros; trivial
set_option maxHeartbeats 8000000
noncomputable def QsAt (qs : List (Bool × List Nat)) (j : Nat) (zs : List Value) : Prop := Al RQ zs (qs.take j)
theorem QsAt.step {qs : List (Bool × List Nat)} {j : Nat} {zs : List Value} {q : Bool × List Nat} {v : Value} (h : QsAt qs j zs) (hq : qs[j]? = some q) (hv : RQ v q) : QsAt qs (j + 1) (zs ++ [v]) := by
  unfold QsAt; rw [take_snoc hq]; exact alsnoc h hv
theorem QsAt.all {qs : List (Bool × List Nat)} {j : Nat} {zs : List Value} (h : QsAt qs j zs) (hj : qs.length ≤ j) : Al RQ zs qs := by
  unfold QsAt at h; rw [List.take_of_length_le hj] at h; exact h
noncomputable def BoolsAt (rs : List (List Int)) (j : Nat) (zs : List Value) : Prop := zs = (rs.take j).map fun r => Value.bool (sl1 r)
theorem BoolsAt.step {rs : List (List Int)} {j : Nat} {zs : List Value} {r : List Int} (h : BoolsAt rs j zs) (hr : rs[j]? = some r) : BoolsAt rs (j + 1) (zs ++ [.bool (sl1 r)]) := by
  unfold BoolsAt at *; rw [take_snoc hr, List.map_append, h]; rfl
theorem BoolsAt.all {rs : List (List Int)} {j : Nat} {zs : List Value} (h : BoolsAt rs j zs) (hj : rs.length ≤ j) : zs = rs.map fun r => Value.bool (sl1 r) := by
  unfold BoolsAt at h; rw [List.take_of_length_le hj] at h; exact h
theorem due0 {a : Bool} {ws : List (List (List Int))} {dv : List Value} (h : IntsAre dv (if a then [47] else [])) : IntsAre dv (dueI a (comN ws) 0) := by
  unfold dueI; rw [List.take_zero, show ijoin (47 : Int) [] = [] from rfl, List.append_nil]; exact h
section
variable {w : World} {A : Around} {mg mb : Str → Option Value} {mean : ExcName → Option Value} {loose : List Str} {s : Shared} {Q : Value → Shared → Prop} {E : Value → Shared → Prop} {base : Heap} {fs : List Env}
theorem law_right {Lr Lk : Addr} {rvs kvs : List Value} {rs : List (List Int)} {ks : List Int} (B : Below A base fs s.heap) (X₀ : (Mine.hd.heap_39 w.params).In base) (T₀ : Top Mine.hd.view_39 loose mean mg mb base) (hd : A.depth ≤ 520) (hh : A.handled = none) (hu : A.units ≤ 4000)
    (hr : s.heap.IsList Lr rvs.toArray) (hrv : Al (fun v d => ∃ b us, v = .ref b ∧ s.heap.IsList b us.toArray ∧ IntsAre us d) rvs rs) (hk : s.heap.IsList Lk kvs.toArray) (hkv : IntsAre kvs ks)
    (hlen : ks.length = rs.length) (hks : ∀ k ∈ ks, k = 0 ∨ k = 1) (hcp : ∀ row ∈ rs, ∀ c ∈ row, Cp c) (h256 : ∀ (i : Nat) row, ks[i]? = some 1 → rs[i]? = some row → ∀ c ∈ row, c < 256) (hsz : lensL rs ≤ 120)
    (h : ∀ h' tk, KfS (fs.filterMap (·.frame)) s.heap h' → Q (.bool true) { s with heap := h', toks := tk }) :
    wpAny (model PySem.Challenge.rw_ko0128_01.row.prog w) A (call (.ref 130) [.ref Lr, .ref Lk]) Q E s := by
  have X := X₀.keeps B.stays
  have T := T₀.keeps B.stays
  have hrl : rvs.length ≤ 120 := by rw [hrv.1]; exact Nat.le_trans (lensL_ge rs) hsz
  have hrz : rvs.length ≤ sizeLine := le_size hrl
  have hsz1 : lensL rs ≤ 1000 := Nat.le_trans hsz (by decide)
  have hkl : kvs.length = rvs.length := by rw [hkv.length, hlen, hrv.1]
  have hkz : kvs.length ≤ sizeLine := by rw [hkl]; exact hrz
  walk_at "MY enterCC"
  obtain ⟨oc1, oc2, oc3, hY, hoc1, hoc2, hoc3⟩ := PyProof.Rows.CellsAre.three (by assumption)
  subst hY
  k_steps
  walk_at "MY open"
  rename Fr _ _ _ _ => F1
  rename News _ _ _ _ => N1
  try dsimp only
  refine comp_rangeP (n := rvs.length) (QsAt (qsOf ks rs)) hh F1 N1 hrz rfl rfl alnil ?_ ?_
  · intro j t2 C oC D3 m₂ h₂ tk own zs K E' hj hzs hm hC F₂ N₂ hK
    obtain ⟨row, hrow, b, us, hvb, hbL, hbu⟩ := hrv.2 j _ (List.getElem?_eq_getElem hj)
    have hvj := List.getElem?_eq_getElem hj
    rw [hvb] at hvj
    have hjr : j < kvs.length := by rw [hkl]; exact hj
    obtain ⟨kn, tkn, hkn, hknn⟩ := ints_item hkv (List.getElem?_eq_getElem hjr)
    have hyj := List.getElem?_eq_getElem hjr
    rw [hkn] at hyj
    clear F1 N1
    k_steps
    walk_at "MY open"
    have hmr := List.mem_of_getElem? hrow
    refine made_any (X.keeps F₂.keep) (T.keeps F₂.keep) (by k_room) hh (hbL.at fun o e => F₂.keep _ o e) hbu (hks kn (List.mem_of_getElem? hknn)) (hcp row hmr) (fun e => h256 j row (e ▸ hknn) hrow) (Nat.le_trans (row_len2 hmr) hsz1) fun h8 tk8 v8 k8 hv8 => ?_
    exact hK _ _ _ (F₂.keeps k8) (N₂.grown k8) (hzs.step (qs_at hknn hrow) hv8)
  intro g tk zs hzs D1 h₂ tk₂ F₂ N₂ hoff
  replace hzs := hzs.all (Nat.le_of_eq (by rw [qs_len hlen, hrv.1]))
  have o1 := neN (Ne.symm (hoff _ (.head _)))
  have o2 := neN (Ne.symm (hoff _ (.tail _ (.head _))))
  have o3 := neN (Ne.symm (hoff _ (.tail _ (.tail _ (.head _)))))
  dsimp only at o1 o2 o3
  clear hoff
  clear F1 N1
  refine execs_merge (Str.ofString "mixed") (.bool (mxv ks)) F₂ N₂ ?_ fun h3 tk3 F3 N3 => ?_
  · intro K hK
    unfold mxv at hK
    k_steps
    · rename Fr _ _ _ _ => F3
      rename ((ks.any fun x => x == 0) = true) => a0
      rw [a0, Bool.true_and] at hK
      exact hK _ _ F3 (by k_asm)
    · rename Fr _ _ _ _ => F3
      rename ((ks.any fun x => x == 0) = false) => a0
      rw [a0, Bool.false_and] at hK
      first
        | exact hK _ _ F3 (by k_asm)
        | (rw [a0] at F3; exact hK _ _ F3 (by k_asm))
  clear F₂ N₂
  k_steps
  walk_at "MY open"
  rename Fr _ _ _ _ => F1
  rename News _ _ _ _ => N1
  try dsimp only
  refine src_listP (vs := rvs) (BoolsAt rs) hh F1 N1 (hr.at fun o e => F1.keep _ o e) ?_ hrz rfl rfl rfl ?_ ?_
  · obtain ⟨o, e, _⟩ := hr; exact fun q => by rw [q] at e; rw [fr_none F1] at e; cases e
  · intro i v C oC D2 m₂ h₂ tk own ys K E' hv hys hm hC F₂ N₂ hK
    obtain ⟨row, hrow, b, us, rfl, hbL, hbu⟩ := hrv.2 i v hv
    have hus1 := ints_pick1 hbu
    have hul : us.length ≤ sizeLine := le_size (k := 120) (by rw [hbu.length]; exact Nat.le_trans (row_len2 (List.mem_of_getElem? hrow)) hsz)
    clear F1 N1
    k_steps
    rename News _ _ _ _ => N3
    exact hK _ _ _ (by k_asm) (led1 (led1 N3)) (hys.step hrow)
  intro g tk ys hys D2 h₂ tk₂ F₂ N₂ hoff
  replace hys := hys.all (Nat.le_of_eq hrv.1.symm)
  subst hys
  have p1 := neN (Ne.symm (hoff _ (.head _)))
  have p2 := neN (Ne.symm (hoff _ (.tail _ (.head _))))
  have p3 := neN (Ne.symm (hoff _ (.tail _ (.tail _ (.head _)))))
  have p4 := neN (Ne.symm (hoff _ (.tail _ (.tail _ (.tail _ (.head _))))))
  dsimp only at p1 p2 p3 p4
  clear hoff
  clear F1 N1
  refine execs_merge (Str.ofString "wrong") (.bool (wrv rs)) F₂ N₂ ?_ fun h3 tk3 F3 N3 => ?_
  · intro K hK
    unfold wrv at hK
    k_steps
    · rename Fr _ _ _ _ => F3
      rename (rs = []) => a0
      rw [decide_eq_true a0, Bool.true_or] at hK
      first
        | exact hK _ _ F3 (by rename News _ _ _ _ => N3; first | exact N3 | exact led1 N3 | exact led1 (led1 N3))
        | (rw [decide_eq_true a0] at F3; exact hK _ _ F3 (by rename News _ _ _ _ => N3; first | exact N3 | exact led1 N3 | exact led1 (led1 N3)))
    · rename Fr _ _ _ _ => F3
      rename (¬ rs = []) => a0
      have a0 := decide_eq_false a0
      rename ((rs.any fun r => sl1 r == true) = true) => a1
      rw [a0, a1, Bool.false_or, Bool.true_and] at hK
      exact hK _ _ F3 (by rename News _ _ _ _ => N3; first | exact N3 | exact led1 N3 | exact led1 (led1 N3))
    · rename Fr _ _ _ _ => F3
      rename (¬ rs = []) => a0
      have a0 := decide_eq_false a0
      rename ((rs.any fun r => sl1 r == true) = false) => a1
      rw [a0, a1, Bool.false_or, Bool.false_and] at hK
      first
        | exact hK _ _ F3 (by rename News _ _ _ _ => N3; first | exact N3 | exact led1 N3 | exact led1 (led1 N3))
        | (rw [a1] at F3; exact hK _ _ F3 (by rename News _ _ _ _ => N3; first | exact N3 | exact led1 N3 | exact led1 (led1 N3)))
  clear F₂ N₂
  k_steps
  k_dflt (refine wpAny_Try_except ?_)
  refine hide2 ?_
  intro K1 E1 hK1 hE1
  k_steps
  walk_at "MY open"
  rename Fr _ _ _ _ => F1
  rename News _ _ _ _ => N1
  have hqz : lensL ((qsOf ks rs).map (·.2)) ≤ 1000 := by rw [qs_snd hlen, lensL_nat]; exact hsz1
  refine cp_any (pushX B F1 (by rfl) (by rfl)) X₀ T₀ (by k_room) hh (by simp only [units_in1, units_deeper, Around.mark_units]; exact units3 hu) (News.isList N1 (.tail _ (.head _))) hzs hqz (fun t0 t1 h' tk' e c hx => ?_) (fun b hb hw h' tk' e c hx => ?_) (fun b a hne hb ha h' tk' tv hk' htv => ?_)
  · obtain ⟨gg, fobs, GG, kf0⟩ := gnd B
    have hled := fun q hq => (N1 q hq).2.2
    have em := mixT hlen hks t0 t1
    rw [em] at F1
    have N2 := GG.led kf0 F1 N1
    have F2 := GG.fr F1
    have X2 := X₀.keeps GG.bg
    have T2 := T₀.keeps GG.bg
    clear F1 N1 X T
    refine hE1 _ _ ?_
    refine catch_into B GG F2 (fun p hp => (N2 p (List.mem_append_right _ hp)).1) rfl rfl hx (fun _ hb => hb) fun h4 x4 => ?_
    refine catch_thisE GG F2 N2 (fun q hq hm => ?_) rfl x4 (testE_one (A₀ := A) (mean := fun _ => none) (c := .type "TypeError") X2 ?_ ?_) fun h8 oe To oT fobs' G8 F8 N8 hob => ?_
    · obtain ⟨_, o, ho, _⟩ := B.frames.mem hm
      rw [hled q hq] at ho; cases ho
    · kts_exm
    · intro M' A' E' Q' s' m' F' q'
      with_unfolding_all exact nameX_B F' X2 (topRead_of T2) (by k_is) (by boot_by_name) (by decide) q'
    simp only [List.cons_append, List.nil_append] at N8
    have k9 := fun p (hp : p ∈ fobs') => (N8 p (by simp only [List.mem_cons, List.mem_append]; simp only [hp, or_true])).1
    clear F2 N2
    k_steps
    exact h _ _ (G8.kf F8 k9)
  · obtain ⟨gg, fobs, GG, kf0⟩ := gnd B
    have hled := fun q hq => (N1 q hq).2.2
    have em := mixF (qs_kind hlen hb)
    have ew := wrongT hlen hcp hw
    rw [em, ew] at F1
    have N2 := GG.led kf0 F1 N1
    have F2 := GG.fr F1
    have X2 := X₀.keeps GG.bg
    have T2 := T₀.keeps GG.bg
    clear F1 N1 X T
    refine hE1 _ _ ?_
    refine catch_into B GG F2 (fun p hp => (N2 p (List.mem_append_right _ hp)).1) rfl rfl hx (fun _ hb => hb) fun h4 x4 => ?_
    refine catch_missE GG F2 rfl x4 (testE_one (A₀ := A) (mean := fun _ => none) (c := .type "TypeError") X2 ?_ ?_) fun h5 x5 => ?_
    · kts_exm
    · intro M' A' E' Q' s' m' F' q'
      with_unfolding_all exact nameX_B F' X2 (topRead_of T2) (by k_is) (by boot_by_name) (by decide) q'
    refine catch_thisE GG F2 N2 (fun q hq hm => ?_) rfl x5 (testE_one (A₀ := A) (mean := fun _ => none) (c := .type "ValueError") X2 ?_ ?_) fun h8 oe To oT fobs' G8 F8 N8 hob => ?_
    · obtain ⟨_, o, ho, _⟩ := B.frames.mem hm
      rw [hled q hq] at ho; cases ho
    · kts_exm
    · intro M' A' E' Q' s' m' F' q'
      with_unfolding_all exact nameX_B F' X2 (topRead_of T2) (by k_is) (by boot_by_name) (by decide) q'
    simp only [List.cons_append, List.nil_append] at N8
    have k9 := fun p (hp : p ∈ fobs') => (N8 p (by simp only [List.mem_cons, List.mem_append]; simp only [hp, or_true])).1
    clear F2 N2
    k_steps
    exact h _ _ (G8.kf F8 k9)
  · have F3 := Fr.grownK F1 hk'
    have N3 := News.grown N1 hk'
    clear F1 N1
    have em := mixF (qs_kind hlen hb)
    have hrne : rs ≠ [] := fun e => hne (by rw [e]; unfold qsOf; rw [List.zipWith_nil_right])
    have hsl := qs_slash hlen hcp ha
    have ew := wrongF hrne hsl
    rw [em, ew] at F3
    rw [qs_snd hlen] at htv
    have hzlen : zs.length = rs.length := by rw [hzs.1, qs_len hlen]
    have hzl : zs.length ≤ sizeLine := by rw [hzlen, ← hrv.1]; exact hrz
    have hne' : rs.map (·.map Int.toNat) ≠ [] := by simpa using hrne
    have hzv := al_same hzs hb
    rw [qs_snd hlen] at hzv
    have hab : ∀ d ∈ rs.map (·.map Int.toNat), (d.head? == some 47) = a := fun d hd => by
      obtain ⟨r, hr', rfl⟩ := List.mem_map.mp hd
      rw [sl1_nat fun c z => (hcp r hr' c z).1]; exact hsl r hr'
    have hdz : lensL (rs.map (·.map Int.toNat)) ≤ 120 := by rw [lensL_nat]; exact hsz
    generalize hds : rs.map (·.map Int.toNat) = ds at *
    have hdl : ds.length = rs.length := by rw [← hds]; simp
    have h1l : 1 ≤ zs.length := by
      rw [hzlen]
      cases rs with
      | nil => exact absurd rfl hrne
      | cons x y => simp
    k_steps
    refine hK1 _ _ ?_
    clear hK1 hE1
    k_steps
    walk_at "MY open"
    rename Fr _ _ _ _ => F1
    rename News _ _ _ _ => N1
    try dsimp only
    refine for_range2K (a := 1) (n := zs.length) (fun _ => TwoAt D1 D2 tv) hh F1 N1 rfl h1l hzl (.mk rfl rfl rfl) ?_ ?_
    · intro i tv' m1 h1 tk1 own K hfi hi hJ F3 N3 hK
      obtain ⟨gp, gt, gs⟩ := hJ
      rw [map3k gp gt gs] at F3
      clear F1 N1
      have hid : i < ds.length := by rw [hdl, ← hzlen]; exact hi
      have hA : ds.take i ≠ [] := take_ne hfi hid
      have hB : ds.drop i ≠ [] := drop_ne hid
      have htd := lensL_td ds i
      have hTl : lensL (ds.take i) ≤ 120 := Nat.le_trans (Nat.le_add_right _ _) (Nat.le_trans (Nat.le_of_eq htd) hdz)
      have hDl : lensL (ds.drop i) ≤ 120 := Nat.le_trans (Nat.le_add_left _ _) (Nat.le_trans (Nat.le_of_eq htd) hdz)
      have hlA := cpN_len2 (n := 120) hA hTl
      have hlB := cpN_len2 (n := 120) hB hDl
      have habA : ∀ d ∈ ds.take i, (d.head? == some 47) = a := fun d hd => hab d (List.mem_of_mem_take hd)
      have habB : ∀ d ∈ ds.drop i, (d.head? == some 47) = a := fun d hd => hab d (List.mem_of_mem_drop hd)
      have hsA := cpN_slash hA habA
      have hsB := cpN_slash hB habB
      have e9 : cpN [cpN (ds.take i), cpN (ds.drop i)] = cpN ds := by
        rw [cpN_halves hA hB (a := a) (fun d hd => hab d (by rw [List.take_append_drop] at hd; exact hd)), List.take_append_drop]
      k_steps
      walk_at "MY open"
      rename Fr _ _ _ _ => F4
      rename News _ _ _ _ => N4
      rw [pick_up] at N4
      refine cp_goodV (ab := a) (pushX B F4 (by rfl) (by rfl)) X₀ T₀ (by k_room) hh (by simp only [units_in1, units_deeper, Around.mark_units]; exact units3 hu) (News.isList N4 (.head _)) (al_take hzv i) (Nat.le_trans hTl (by decide)) hA habA fun h5 tk5 v5 k5 hv5 => ?_
      have F5 := Fr.grownK F4 k5
      have N5 := News.grown N4 k5
      clear F4 N4
      k_steps
      walk_at "MY open"
      rename Fr _ _ _ _ => F6
      rename News _ _ _ _ => N6
      rw [pick_from (Int.natCast_nonneg _), Int.toNat_natCast] at N6
      refine cp_goodV (ab := a) (pushX B F6 (by rfl) (by rfl)) X₀ T₀ (by k_room) hh (by simp only [units_in1, units_deeper, Around.mark_units]; exact units3 hu) (News.isList N6 (.head _)) (al_drop hzv i) (Nat.le_trans hDl (by decide)) hB habB fun h7 tk7 v7 k7 hv7 => ?_
      have F7 := Fr.grownK F6 k7
      have N7 := News.grown N6 k7
      clear F6 N6
      k_steps
      walk_at "MY open"
      rename Fr _ _ _ _ => F8
      rename News _ _ _ _ => N8
      refine cp_goodV (ab := a) (pushX B F8 (by rfl) (by rfl)) X₀ T₀ (by k_room) hh (by simp only [units_in1, units_deeper, Around.mark_units]; exact units3 hu) (News.isList N8 (.head _)) (al_two hv5 hv7) (two_len hlA hlB) (by simp) (fun d hd => ?_) fun h9 tk9 v9 k9 hv9 => ?_
      · rcases List.mem_cons.mp hd with rfl | hd
        · exact hsA
        · rw [List.mem_singleton.mp hd]; exact hsB
      have F9 := Fr.grownK F8 k9
      have N9 := News.grown N8 k9
      clear F8 N8
      k_steps
      walk_at "MY open"
      refine ne_VC hv9 htv ?_
      rw [decide_eq_false (fun q => q e9)]
      k_steps
      rename Fr _ _ _ _ => F10
      rename News _ _ _ _ => N10
      exact hK _ _ _ _ (.inl rfl) F10 (by first | exact led1 (led1 (led1 N10)) | exact led1 (led1 N10) | exact led1 N10 | exact led1 (led1 (led1 (led1 N10)))) (.mk rfl rfl rfl)
    · intro m1 h1 tk1 hJ F3 N3
      obtain ⟨gp, gt, gs⟩ := hJ
      rw [map3k gp gt gs] at F3
      clear F1 N1
      k_steps
      walk_at "MY open"
      rename Fr _ _ _ _ => F1
      rename News _ _ _ _ => N1
      try dsimp only
      refine src_listN (vs := rvs) (WalkAt (rs.map stepsI)) hh F1 N1 (hr.at fun o e => F1.keep _ o e) ?_ hrz rfl rfl .start ?_ ?_
      · obtain ⟨o, e, _⟩ := hr; exact fun q => by rw [q] at e; rw [fr_none F1] at e; cases e
      · intro i v C oC D2 m₂ h₂ tk own ys inner K E' hv hys hm hC F₂ N₂ hK
        obtain ⟨row, hrow, b, us, rfl, hbL, hbu⟩ := hrv.2 i v hv
        k_steps
        walk_at "MY open"
        refine law_steps (X.keeps F₂.keep) (T.keeps F₂.keep) (by k_room) hh (by simp only [units_in1, units_deeper, Around.mark_units]; exact units3 hu) (hbL.at fun o e => F₂.keep _ o e) hbu (Nat.le_trans (row_len2 (List.mem_of_getElem? hrow)) hsz1) fun h5 tk5 P vs c nw k5 new5 r5 => ?_
        exact hK _ _ _ ((P, lobj vs c) :: nw) (F₂.keeps k5) (news_new F₂ N₂ k5 new5) (apart_new N₂ new5) (hys.step (by rw [List.getElem?_map, hrow]; rfl) r5)
      intro g tk ys inner hin hys D4 h₂ tk₂ F₂ N₂ hoff
      replace hys := hys.all (Nat.le_of_eq (by rw [List.length_map, hrv.1]))
      have N4 := six_turn N₂
      have w1 := Ne.symm (hoff _ (List.mem_append_right _ (.head _)))
      have w2 := Ne.symm (hoff _ (List.mem_append_right _ (.tail _ (.head _))))
      have w3 := Ne.symm (hoff _ (List.mem_append_right _ (.tail _ (.tail _ (.head _)))))
      have w4 := Ne.symm (hoff _ (List.mem_append_right _ (.tail _ (.tail _ (.tail _ (.head _))))))
      have w5 := Ne.symm (hoff _ (List.mem_append_right _ (.tail _ (.tail _ (.tail _ (.tail _ (.head _)))))))
      have r3 := hin.one (.tail _ (.tail _ (.head _)))
      replace w1 := neN w1
      replace w2 := neN w2
      replace w3 := neN w3
      replace w4 := neN w4
      replace w5 := neN w5
      dsimp only at w1 w2 w3 w4 w5 r3
      have hysl : ys.length = rs.length := by rw [hys.1, List.length_map]
      have hyl : ys.length ≤ sizeLine := by rw [hysl, ← hrv.1]; exact hrz
      have h0l : 0 < ys.length := by rw [hysl, ← hzlen]; exact h1l
      obtain ⟨w0, hw0, b0, c0, us0, hv0, hm0, hu0⟩ := hys.2 0 _ (List.getElem?_eq_getElem h0l)
      have hy0 := List.getElem?_eq_getElem h0l
      rw [hv0] at hy0
      have hw0m := List.mem_of_getElem? hw0
      have hw0l : w0.length ≤ 121 := by
        obtain ⟨r, hr', rfl⟩ := List.mem_map.mp hw0m
        exact steps_len (Nat.le_trans (row_len2 hr') hsz)
      have hu0l : us0.length ≤ sizeLine := le_size (k := 121) (by rw [hu0.1]; exact hw0l)
      clear N₂ F1 N1
      k_steps
      walk_at "MY open"
      rename Fr _ _ _ _ => F1
      rename News _ _ _ _ => N1
      refine exec_mergeM (WayEnd [(D4, LCg.lst ys), (D2, LCg.lst (rs.map fun r => Value.bool (sl1 r))), (D1, LCg.lst zs)] [(L1 + 1 + 1, oc2), (L1 + 1, oc3)] (L1 + 1 + 1 + 1) D2 tv (rs.map stepsI)) F1 ?_ ?_
      · intro K hK
        have N1' := led_in6 (w := [_]) N1
        refine while_invK (WayAt [(D4, LCg.lst ys), (D2, LCg.lst (rs.map fun r => Value.bool (sl1 r))), (D1, LCg.lst zs)] [(L1 + 1 + 1, oc2), (L1 + 1, oc3)] inner (L1 + 1 + 1 + 1) D2 D4 tv (rs.map stepsI) w0.length) _ _ F1 N1' (.mk rfl rfl rfl rfl rfl hoc1 (off_ne (by k_ne) r3) (.head _) alnil (wpre_nil _) (fun p hp => .tail _ hp) rfl) ?_ fun m l h tk hJ F N => hK h tk m l F N hJ
        clear F1 N1 N1' hK
        intro k mw nw hw tkw K2 Z2 hJ F4 N4 hK2 hB2 hZ2
        obtain @⟨W, rest, oF, x, wv, c, w, gw, g4, gt, gs, rfl, hoF, hre, hW, hwv, hwp, hin2, rfl⟩ := hJ
        have N4 : News _ _ _ ((D4, LCg.lst ys) :: (D2, _) :: (D1, _) :: (L1 + 1 + 1 + 1, oF) :: (L1 + 1 + 1, oc2) :: (L1 + 1, oc3) :: rest) := N4
        rw [map4k gw g4 gt gs] at F4
        have hm0' := hin2 _ hm0
        have h47 : wv.length = w.length := hwv.1
        have hwn : wv.length ≤ 121 := by rw [h47]; exact Nat.le_trans (wpre_le hwp hw0m).length_le hw0l
        have hwl : wv.length ≤ sizeLine := le_size hwn
        rcases Nat.lt_or_ge wv.length us0.length with hlt | hge
        · obtain ⟨stp, hstp, bv, cv, zv, hbv, hbm, hbi⟩ := hu0.2 _ _ (List.getElem?_eq_getElem hlt)
          have hxv := List.getElem?_eq_getElem hlt
          rw [hbv] at hxv
          have hbm' := hin2 _ hbm
          k_steps
          walk_at "MY open"
          rename Fr _ _ _ _ => F5
          rename News _ _ _ _ => N5
          have hfr : Rows rest (wv ++ [Value.ref bv]) (w ++ [stp]) := alsnoc hwv ⟨bv, cv, zv, rfl, hbm', hbi⟩
          have hfl : (wv ++ [Value.ref bv]).length ≤ sizeLine := le_size (k := 122) (by rw [List.length_append]; exact Nat.succ_le_succ hwn)
          try dsimp only
          refine src_listF (vs := ys) (OffAt rest (rs.map stepsI) (w ++ [stp])) hh F5 N5 (News.isList N5 (by k_mem)) (N5 (D4, LCg.lst ys) (by k_mem)).2.1 hyl rfl rfl alnil ?_ ?_
          · intro i v C oC D5 m₂ h₂ tk own zs K3 Z3 E' hv hzs' hm hC F₂ N₂ hK3 hZ3
            obtain ⟨st, hst, b, cb, us, rfl, hbm2, hbu⟩ := hys.2 i v hv
            have hbm3 := hin2 _ hbm2
            have hbu' : Rows rest us st := hbu.sub hin2
            have hpk : Rows rest (kms_pick us none (some (((wv ++ [Value.ref bv]).length : Nat) : Int))) (st.take (w ++ [stp]).length) := by
              rw [pick_up, hfr.1]; exact al_take hbu' _
            have hul : us.length ≤ sizeLine := le_size (k := 121) (by
              obtain ⟨r, hr', e⟩ := List.mem_map.mp (List.mem_of_getElem? hst)
              rw [hbu.1, ← e]
              exact steps_len (Nat.le_trans (row_len2 hr') hsz))
            clear F5 N5
            k_steps
            · rename News _ _ _ _ => N6
              have hq : st.take (w ++ [stp]).length = w ++ [stp] := by
                first
                  | (rename _ = w ++ [stp] => hq; exact hq)
                  | (rename decide (_ = w ++ [stp]) = true => hq; exact of_decide_eq_true hq)
              exact hZ3 _ _ (by k_asm) (by first | exact led1 N6 | exact N6) (hzs'.no hst hq)
            · rename News _ _ _ _ => N6
              have hq : st.take (w ++ [stp]).length ≠ w ++ [stp] := by
                first
                  | (rename ¬ _ = w ++ [stp] => hq; exact hq)
                  | (rename decide (_ = w ++ [stp]) = false => hq; exact of_decide_eq_false hq)
              exact hK3 _ _ _ (by k_asm) (by first | exact led1 N6 | exact N6) (hzs'.yes hst hq hbm3 hbu')
          intro g tk zs' hzs' D6 h₂ tk₂ F₂ N₂ hoff
          replace hzs' := hzs'.all (Nat.le_of_eq hys.1.symm)
          have q1 := neN (hoff _ (.tail _ (.tail _ (.tail _ (.tail _ (.tail _ (.head _)))))))
          dsimp only at q1
          clear hoff
          clear F5 N5
          have hstp' : w0[w.length]? = some stp := by rw [← h47]; exact hstp
          have hwlt : w.length < w0.length := (List.getElem?_eq_some_iff.mp hstp').1
          k_steps
          · rename News _ _ _ _ => N7
            have hb0 : ((rs.map stepsI).filter fun s => decide (s.take (w ++ [stp]).length ≠ w ++ [stp])) = [] := by
              first
                | (rename _ = [] => hq; exact hq)
                | (rename decide (_ = []) = true => hq; exact of_decide_eq_true hq)
            have N8 := led_in6 (w := [_, _, _, _]) N7
            exact hK2 _ _ _ _ _ _ (.inl rfl) (by k_asm) N8 (way_less hwlt) (.mk (wv := wv ++ [Value.ref bv]) (cw := 0) rfl rfl rfl rfl rfl (by assumption) (off_ne (by k_ne) (off_ne (Ne.symm q1) (off_ne (by k_ne) (off_ne (by k_ne) hre)))) (.tail _ (.tail _ (.head _))) (hfr.sub fun p hp => .tail _ (.tail _ (.tail _ (.tail _ (hp))))) (wpre_go hb0) (fun p hp => .tail _ (.tail _ (.tail _ (.tail _ (hin2 p hp))))) rfl)
          · rename News _ _ _ _ => N7
            have hb0 : ((rs.map stepsI).filter fun s => decide (s.take (w ++ [stp]).length ≠ w ++ [stp])) ≠ [] := by
              first
                | (rename ¬ _ = [] => hq; exact hq)
                | (rename decide (_ = []) = false => hq; exact of_decide_eq_false hq)
            have N8 := led_in6 (w := [_, _, _, _]) N7
            show K2 Flow.brk _
            exact hB2 _ _ _ _ (by k_asm) N8 (.mk (wv := wv) (cw := c) rfl rfl rfl rfl (.tail _ (.tail _ (.tail _ (.tail _ (hW))))) (by rw [← wpre_stop2 hwp hw0m hstp' hb0]; exact hwv.sub fun p hp => .tail _ (.tail _ (.tail _ (.tail _ (hp))))))
        · k_steps
          exact hZ2 _ _ _ _ (by k_asm) (by k_asm) (.mk (wv := wv) (cw := c) rfl rfl rfl rfl hW (by rw [← wpre_stop1 hwp hw0m (by rw [← h47, ← hu0.1]; exact hge)]; exact hwv))
      · intro h9 tk9 m9 l9 F9 N9 hJ
        obtain @⟨W, rest, oF, wv, c, gw, gt, gs, rfl, hW, hwv⟩ := hJ
        have N9 : News _ _ _ ((D4, LCg.lst ys) :: (D2, _) :: (D1, _) :: (L1 + 1 + 1 + 1, oF) :: (L1 + 1 + 1, oc2) :: (L1 + 1, oc3) :: rest) := N9
        rw [map3k gw gt gs] at F9
        try clear F1 N1
        have hsl0 : (rs.map fun r => Value.bool (sl1 r))[0]? = some (.bool a) := by
          cases rs with
          | nil => exact absurd rfl hrne
          | cons r t => rw [List.map_cons, hsl r (.head _)]; rfl
        refine var_merge (Str.ofString "due") F9 (fun W l => ∃ dv cc, l = (W, lobj dv cc) :: (D4, LCg.lst ys) :: (D2, LCg.lst (rs.map fun r => Value.bool (sl1 r))) :: (D1, LCg.lst zs) :: (L1 + 1 + 1 + 1, oF) :: (L1 + 1 + 1, oc2) :: (L1 + 1, oc3) :: rest ∧ IntsAre dv (if a then [47] else [])) ?_ fun h10 tk10 Wd l10 F10 N10 hJ10 => ?_
        · intro K hK
          cases a with
          | true =>
            k_steps
            exact hK _ _ _ _ (by k_asm) (by k_asm) ⟨_, _, rfl, .cons _ _ .nil⟩
          | false =>
            k_steps
            exact hK _ _ _ _ (by k_asm) (by k_asm) ⟨_, _, rfl, .nil⟩
        obtain ⟨dv, cc, rfl, hdv⟩ := hJ10
        clear F9 N9
        have hsum := way_sum hrne hcp hsz
        have hwlen : wv.length ≤ 121 := by
          have := (comN_pre hw0m).length_le
          rw [hwv.1]; exact Nat.le_trans this hw0l
        have hwlz : wv.length ≤ sizeLine := le_size hwlen
        k_steps
        walk_at "MY open"
        rename Fr _ _ _ _ => F1
        rename News _ _ _ _ => N1
        try dsimp only
        refine for_range1K (n := wv.length) (DueAt W tv (dueI a (comN (rs.map stepsI))) _) hh F1 N1 rfl hwlz (.mk (w := []) rfl rfl rfl rfl (.head _) (due0 hdv)) ?_ ?_
        · intro I oI i tv2 m1 nx h1 tk1 K hi hnx hJ F3 N3 hK
          obtain @⟨Dd, us, cd, junk, gd, gt, gw, rfl, hDm, hdi⟩ := hJ
          rw [map3k gd gt gw] at F3
          clear F1 N1
          obtain ⟨pw, hpw, bw, cw, zw, hbw, hbwm, hzw⟩ := hwv.2 i _ (List.getElem?_eq_getElem hi)
          have hxw := List.getElem?_eq_getElem hi
          rw [hbw] at hxw
          have hul : us.length ≤ 123 := by
            rw [hdi.length]; exact Nat.le_trans (dueI_len a (comN (rs.map stepsI)) i) (Nat.le_succ_of_le (Nat.add_le_add_left hsum 1))
          have hzwl : zw.length ≤ 121 := by
            rw [hzw.length]; exact Nat.le_trans (Nat.le_succ _) (Nat.le_trans (sum_mem (List.mem_of_getElem? hpw)) hsum)
          k_steps
          all_goals (
            rename Fr _ _ _ _ => F5
            rename News _ _ _ _ => N5
            rename (_ < _ ∧ _ < _ ∧ I < _ ∧ AllLt _ _) => lt3
            rename (_ < _ ∧ I < _ ∧ AllLt _ _) => lt2
            rename (I < _ ∧ AllLt _ _) => lt1
            have N6 := led_swap (w := [_, _, _]) N5
            refine hK _ _ _ _ _ (.inl rfl) F5 N6 (off_cons lt3.2.2.1 (off_cons lt2.2.1 (off_cons lt1.1 hnx))) (.mk (w := _ :: _ :: _ :: junk) (cd := 0) rfl rfl rfl rfl (.head _) ?_)
            rw [dueI_go hpw]
            first
              | (rw [if_pos (Int.natCast_pos.mp (by assumption))]; exact (hdi.append (.cons _ _ .nil)).append hzw)
              | (rw [if_neg (by (first | lia | omega))]; exact (hdi.append .nil).append hzw))
        · intro m1 nx h1 tk1 hJ F3 N3
          obtain @⟨Dd, us, cd, junk, gd, gt, gw, rfl, hDm, hdi⟩ := hJ
          rw [map3k gd gt gw] at F3
          clear F1 N1
          rw [hwv.1, due_is hrne hcp (by rw [hds]; exact hab), hds] at hdi
          have hkv0 : 0 < kvs.length := by rw [hkl, hrv.1, ← hzlen]; exact h1l
          obtain ⟨k0, tk0, hk0, hk0n⟩ := ints_item hkv (List.getElem?_eq_getElem hkv0)
          have hkx := List.getElem?_eq_getElem hkv0
          rw [hk0] at hkx
          k_steps
          walk_at "MY open"
          rename Fr _ _ _ _ => F5
          rename News _ _ _ _ => N5
          obtain ⟨r0, hr0⟩ : ∃ r0, rs[0]? = some r0 := by
            cases rs with
            | nil => exact absurd rfl hrne
            | cons r t => exact ⟨r, rfl⟩
          have hr0m := List.mem_of_getElem? hr0
          have hd0m : r0.map Int.toNat ∈ ds := by rw [← hds]; exact List.mem_map_of_mem hr0m
          have hmem : ∀ c ∈ castL (cpN ds), c = 47 ∨ c ∈ r0 := fun c hc => by
            obtain ⟨n, hn, rfl⟩ := List.mem_map.mp hc
            rcases cpN_sub hd0m hn with rfl | hn
            · exact .inl rfl
            · obtain ⟨z, hz, rfl⟩ := List.mem_map.mp hn
              have := (hcp r0 hr0m z hz).1
              refine .inr ?_
              rw [Int.toNat_of_nonneg (Int.le_trans (by decide) this)]; exact hz
          have hcl := cpN_len2 (n := 120) hne' hdz
          refine made_any (X.keeps F5.keep) (T.keeps F5.keep) (by k_room) hh (News.isList N5 (by first | exact hDm | k_mem)) hdi (hks k0 (List.mem_of_getElem? hk0n)) (fun c hc => ?_) (fun e c hc => ?_) (by simp only [castL, List.length_map]; exact Nat.le_trans hcl (by decide)) fun h11 tk11 v11 k11 hv11 => ?_
          · rcases hmem c hc with rfl | hc
            · exact ⟨by decide, by decide⟩
            · exact hcp r0 hr0m c hc
          · rcases hmem c hc with rfl | hc
            · decide
            · exact h256 0 r0 (e ▸ hk0n) hr0 c hc
          have F6 := F5.keeps k11
          have N6 := N5.grown k11
          clear F5 N5
          rw [qs_kind hlen hb k0 (List.mem_of_getElem? hk0n), show (castL (cpN ds)).map Int.toNat = cpN ds from by unfold castL; rw [List.map_map]; exact (List.map_congr_left fun n _ => Int.toNat_natCast n).trans (List.map_id _)] at hv11
          k_steps
          walk_at "MY open"
          refine eq_VC htv hv11 ?_
          rw [decide_eq_true rfl]
          k_steps
          exact h _ _ (.of_kp F6.keep)
end
end
section
theorem fill_E22 (w : World) (h : Heap) : PySem.Challenge.rw_ko0128_01.Holds → (Mine.hd.heap_39 w.params).In h → True := by
  w_top off
  k_with_none
  (k_with "MY k_room" => ((try simp only [depth_under_make, depth_under_kw, depth_in1, depth_deeper]); (try unfold recursionLimit); first | exact room_le (by assumption) | exact room_lt (by assumption) | (first | lia | omega)))
  (k_with "MY top" => first | assumption | exact Top.keeps (by assumption) (Fr.keep (by assumption)))
  (k_with "MY enter" => (refine wpAny_call ?_; (refine' enterK ?kzk1z ?kzk2z ?kzk3z ?kzk4z ?kzk5z ?kzk6z ?kzk7z ?_ ?kzk8z ?kzk9z ?kzk10z ?kzk11z; (case kzk1z => assumption); (case kzk2z => assumption); (case kzk3z => k_room); (case kzk4z => k_is); (case kzk5z => k_is); (case kzk6z => first | exact BindsTo.of_eq rfl | exact binds_K (by k_in) rfl (by k_is) rfl rfl rfl); (case kzk7z => exact locs rfl); (case kzk8z => decide); (case kzk9z => exact rfl); (case kzk10z => exact rfl); (case kzk11z => exact rfl); k_whole; intro LZq hZq FZq NZq; (try dsimp only); (try k_fold))))
  (k_with "call type:type" => (k_here; (with_reducible show wpAny _ _ (call (Value.type "type") [Value.bytes _ _]) _ _ _); refine call_type_of (Tx := "bytes") rfl (by decide) ?_))
  (k_with "call builtin:issubclass" => (k_here; refine call_isub (by first | exact .inl rfl | exact .inr rfl) (News.get (by k_asm) (by k_mem)) ?_))
  (k_with "MY same" => (intro y hy; (try dsimp only); repeat (first | exact rfl | (refine (if_neg ?kzhz).trans ?_; (case kzhz => first | (intro e; subst e; exact absurd hy (by decide)) | (intro e; rw [hy] at e; cases e))))))
  (k_with "assign Tuple" => (k_here; (with_reducible show wpAny _ _ (assign (Expr.Tuple _ _ _) _ (Value.ref _)) _ _ _); k_dflt (refine' kun_list ?kzk1z ?kzk2z ?kzk3z ?kzk4z ?kzk5z ?kzk6z ?_; (case kzk1z => k_asm); (case kzk2z => k_asm); (case kzk3z => kun_lst); (case kzk4z => first | exact rfl | assumption); (case kzk5z => exact rfl); (case kzk6z => exact rfl); k_whole); intro hZq FZq NZq; (try k_sweep)))
  (k_with "assign Tuple" => (k_here; (with_reducible show wpAny _ _ (assign (Expr.Tuple _ _ _) _ (Value.ref _)) _ _ _); k_dflt (refine' unpackN_ ?kzk1z ?kzk2z ?kzk3z ?kzk4z ?kzk5z ?kzk6z ?_; (case kzk1z => k_asm); (case kzk2z => k_asm); (case kzk3z => kun_tup); (case kzk4z => first | exact rfl | assumption); (case kzk5z => exact rfl); (case kzk6z => exact rfl); k_whole); intro hZq FZq NZq; (try k_sweep)))
  (k_with "MY hideT" => (refine hide_post (m := execs _ _) ?_; intro kTE kTEh))
  (k_with "MY hideW" => (intro kWT kWZ kWTh kWZh))
  (k_with "MY showT" => (rename Hid (TurnEnd _ _ _ _ _ _ _) _ => kTEh; refine kTEh _ _ ?_))
  (k_with "MY showW" => (rename Hid (WTurn _ _ _ _ _ _) _ => kWTh; refine kWTh _ _ ?_))
  (k_with "MY showZ" => (rename (∀ s : Shared, _ → _) => kWZh; refine kWZh _ ?_))
  (k_with "execs cons" => (k_here; first | (dsimp only; try (rename Fr _ _ _ _ => kFd; dsimp only at kFd)) | (rename Fr _ _ _ _ => kFd; dsimp only at kFd) | k_gentoks | k_made | ((with_reducible refine wpAny_execs_cons ?_); (try dsimp only); (try k_fold))))
  (k_with "MY k_ne" => (refine neN ?_; (try dsimp only); first | assumption | exact Ne.symm (by assumption) | exact Nat.ne_of_lt (Nat.lt_succ_self _) | exact Nat.ne_of_gt (Nat.lt_succ_self _) | exact Nat.ne_of_lt (Nat.lt_succ_of_lt (Nat.lt_succ_self _)) | exact Nat.ne_of_gt (Nat.lt_succ_of_lt (Nat.lt_succ_self _)) | exact Nat.ne_of_gt (by first | assumption | exact at1 (by assumption) | exact at2 (by assumption) | exact at3 (by assumption) | exact at4 (by assumption) | exact at5 (by assumption) | exact at6 (by assumption) | exact at7 (by assumption) | exact at8 (by assumption)) | (first | lia | omega)))
  (k_with "MY back" => (rename Fr _ _ _ _ => kFZq; rename News _ _ _ _ => kNZq; rename Kp _ _ => hkZq; replace kFZq := Fr.grownK kFZq hkZq; replace kNZq := News.grown kNZq hkZq; clear hkZq))
  (k_with "MY prem" => ((case kzXz => k_in); (case kzTz => walk_at "MY top"); (case kzdz => k_room); k_whole))
  (k_with "call ref" => (k_here; (with_reducible show wpAny _ _ (call (Value.ref 94) [Value.str _ _]) _ _ _); refine' fspath_str ?kzXz ?kzTz ?kzdz ?_; walk_at "MY prem"; intro hZq tkZq hkZq; walk_at "MY back"))
  (k_with "call ref" => (k_here; (with_reducible show wpAny _ _ (call (Value.ref 94) [Value.bytes _ _]) _ _ _); refine' fspath_bytes ?kzXz ?kzTz ?kzdz ?_; walk_at "MY prem"; intro hZq tkZq hkZq; walk_at "MY back"))
  (k_with "exec For Name Name cons nil" => (k_here; (rename Fr _ _ _ _ => lFZq); (with_unfolding_all refine' For_invVF lFZq ?kzk1z ?kzk2z ?_; (case kzk1z => exact rfl); (case kzk2z => exact rfl); k_whole)))
  (k_with "exec For Name Call cons nil" => (k_here; (rename Fr _ _ _ _ => lFZq); (with_unfolding_all refine' For_invVF lFZq ?kzk1z ?kzk2z ?_; (case kzk1z => exact rfl); (case kzk2z => exact rfl); k_whole)))
  (k_with "exec For Name Subscript cons nil" => (k_here; (rename Fr _ _ _ _ => lFZq); (with_unfolding_all refine' For_invVF lFZq ?kzk1z ?kzk2z ?_; (case kzk1z => exact rfl); (case kzk2z => exact rfl); k_whole)))
  (k_with "exec For Name IfExp cons nil" => (k_here; (rename Fr _ _ _ _ => lFZq); (with_unfolding_all refine' For_invVF lFZq ?kzk1z ?kzk2z ?_; (case kzk1z => exact rfl); (case kzk2z => exact rfl); k_whole)))
  (k_with "exec While BoolOp cons nil" => (k_here; refine Halt.mk ?_))
  (k_with "exec While Compare cons nil" => (k_here; refine Halt.mk ?_))
  (k_with "MY go" => show wpAny _ _ _ _ _ _)
  (k_with "eval ListComp" => (k_here; k_dflt (refine ListComp_G (F₀ := by k_asm) (by with_unfolding_all rfl) (by decide) (by rfl) (by decide) ?_)))
  (k_with "exec Assign cons ListComp" => (k_here; k_dflt (refine Assign_ListComp_G (F₀ := by k_asm) (by rfl) (by with_unfolding_all rfl) (by with_unfolding_all rfl) (by decide) (by rfl) (by decide) (by rfl) (by rfl) ?_)))
  (k_with "CompAt" => (k_here; refine Halt.mk ?_))
  (k_with "call type:zip" => (k_here; refine Halt.mk ?_))
  (k_with "MY open" => unfold Halt)
  (k_with "call builtin:len" => (k_here; (with_reducible show wpAny _ _ (call (Value.builtin "len") [Value.ref _]) _ _ _); k_dflt (refine' len_any ?kzlz ?kzzz ?_; (case kzlz => kmk_list); (case kzzz => first | assumption | exact Nat.le_of_ble_eq_true rfl))))
  (k_with "subscriptTail Name Name ref int" => (k_here; k_dflt (refine' item_nat ?kzlz ?kzxz ?kzzz ?_; (case kzlz => kmk_list); (case kzxz => assumption); (case kzzz => assumption))))
  (k_with "call type:range" => (k_here; (with_reducible show wpAny _ _ (call _ _) (CompAt _ _ _ _ _ _ _ _ _ _ _ _ _ _) _ _); refine Halt.mk ?_))
  (k_with "binaryOp Add ref ref" => (k_here; k_dflt (refine' add_any ?kzFz ?kzNz ?kzlz ?kzbz ?kzzz ?_; (case kzFz => k_asm); (case kzNz => k_asm); (case kzlz => kmk_list); (case kzbz => kmk_list); (case kzzz => (rw [sizeLine_eq]; (try simp only [List.length_cons, List.length_nil]); first | exact sz_one (by assumption) | exact sz_zero (by assumption) | exact sz_one2 (by assumption) (by assumption) | exact sz_zero2 (by assumption) (by assumption) | exact sz_two (by assumption) (by assumption) | decide | (first | lia | omega)))); intro DZq hZq FZq NZq l1; (try k_lt l1); (try k_sweep)))
  (k_with "call builtin:max" => (k_here; (with_reducible show wpAny _ _ (call (Value.builtin "max") [Value.ref _]) _ _ _); k_dflt (refine' max_list_N ?kzhz ?kzFz ?kzNz ?kzlz ?kziz ?kzzz ?_; (case kzhz => first | assumption | exact rfl); (case kzFz => k_asm); (case kzNz => k_asm); (case kzlz => kmk_list); (case kziz => first | assumption | exact (IntsAre.cons _ _ .nil).append (by assumption) | exact IntsAre.cons _ _ (by assumption)); (case kzzz => simp)); intro hZq MZq tZq tkZq FZq NZq hM1Zq hM2Zq; (try k_sweep)))
  (k_with "call ref" => (k_here; (with_reducible show wpAny _ _ (call (Value.ref 127) [Value.str _ _, Value.int _ _]) _ _ _); (fail_if_success with_reducible show wpAny _ _ (call (Value.ref 127) [Value.str _ _, Value.int 0 _]) _ _ _); (fail_if_success with_reducible show wpAny _ _ (call (Value.ref 127) [Value.str _ _, Value.int 1 _]) _ _ _); refine Halt.mk ?_))
  (k_with "subscriptTail Name UnaryOp ref int" => (k_here; k_dflt (refine' item_last ?kzlz ?kzxz ?kzzz ?_; (case kzlz => kmk_list); (case kzxz => assumption); (case kzzz => assumption))))
  (k_with "subscriptTail Name Slice ref ref" => (k_here; (with_reducible show wpAny _ _ (subscriptTail _ (PySem.Expr.Slice _ _ none _) (Value.ref _) (Value.ref _)) _ _ _); k_dflt (refine' slice_any ?kzFz ?kzNz ?kzlz ?kzpz ?kzqz ?_ ?kzsz ?kztz ?kzzz; (case kzFz => k_asm); (case kzNz => k_asm); (case kzlz => kmk_list); (case kzpz => kmk_part); (case kzqz => kmk_part); (case kzsz => with_unfolding_all rfl); (case kztz => kmk_pure); (case kzzz => first | assumption | exact Nat.le_of_ble_eq_true rfl)); intro DZq hZq FZq NZq l1; (try simp only [pick_tail1] at NZq); (try k_lt l1); (try k_sweep)))
  (k_with "unpackItems ref" => (k_here; k_dflt (refine' unpackItemsN_ ?kzk1z ?kzk2z ?kzk3z ?kzk4z ?kzk5z ?_; (case kzk1z => k_asm); (case kzk2z => k_asm); (case kzk3z => kun_tup); (case kzk4z => first | exact rfl | assumption); (case kzk5z => exact rfl); k_whole); intro hZq FZq NZq; (try k_sweep)))
  (k_with "MY k_all" => assumption)
  (k_with "MY k_mem" => first | assumption | (refine List.mem_append_right _ ?_; k_mem) | exact List.mem_append_left _ (by assumption))
  (k_with "subscriptTail Name Constant ref int" => (k_here; k_dflt (refine' item_zero ?kzlz ?_; (case kzlz => kmk_list))))
  (k_with "compareOp Eq ref ref" => (k_here; first | k_dflt (refine' ke_eq_ints ?kzaz ?kzbz ?kziz ?kzjz ?kzuz ?_; (case kzaz => kmk_list); (case kzbz => kmk_list); (case kziz => first | assumption | exact IntsAre.nil); (case kzjz => first | assumption | exact IntsAre.nil); (case kzuz => (simp only [units_in1, units_deeper, Around.mark_units]; rw [show cLine = 9900 from rfl]; first | exact units64 (by assumption) | exact units1 (by assumption) | (first | lia | omega)))) | refine Halt.mk ?_))
  (k_with "call builtin:list.append" => (k_here; refine Halt.mk ?_))
  (k_with "call type:list" => (k_here; (with_reducible show wpAny _ _ (call (Value.type "list") [Value.bytes _ _]) _ _ _); refine Halt.mk ?_))
  (k_with "call ref" => (k_here; (with_reducible show wpAny _ _ (call (Value.ref 113) _) _ _ _); refine Halt.mk ?_))
  (k_with "call ref" => (k_here; (with_reducible show wpAny _ _ (call (Value.ref 130) _) _ _ _); refine Halt.mk ?_))
  (k_with "exec For Name Call cons nil" => (k_here; k_dflt (refine For_T ?_)))
  (k_with "call type:range" => (k_here; (with_reducible show wpAny _ _ (call _ [Value.int _ _]) _ _ _); refine Halt.mk ?_))
  k_fill
  intros; trivial
set_option maxHeartbeats 8000000
noncomputable def cv (r : List Int) (k : Int) : List Int := if k = 1 then r.map fun c => (c - 1).fmod 255 + 1 else r
noncomputable def cvs (rs : List (List Int)) (ks : List Int) : List (List Int) := List.zipWith cv rs ks
theorem cvs_at {rs : List (List Int)} {ks : List Int} {j : Nat} {row : List Int} {k : Int} (h1 : rs[j]? = some row) (h2 : ks[j]? = some k) : (cvs rs ks)[j]? = some (cv row k) := by
  unfold cvs; rw [List.getElem?_zipWith, h1, h2]
theorem cvs_len {rs : List (List Int)} {ks : List Int} (h : ks.length = rs.length) : (cvs rs ks).length = rs.length := by
  unfold cvs; rw [List.length_zipWith, h, Nat.min_self]
theorem cvs_size (rs : List (List Int)) : ∀ ks : List Int, lensL (cvs rs ks) ≤ lensL rs := by
  induction rs with
  | nil => intro ks; simp [cvs, lensL]
  | cons r t ih =>
    intro ks
    cases ks with
    | nil => simp [cvs, lensL]
    | cons k q =>
      have h1 := ih q
      have h2 : lensL (cvs (r :: t) (k :: q)) = ((cv r k).length + 1) + lensL (cvs t q) := by simp [cvs, lensL]
      have h3 : lensL (r :: t) = (r.length + 1) + lensL t := by simp [lensL]
      have h4 : (cv r k).length = r.length := by unfold cv; split <;> simp
      (first | lia | omega)
theorem cvs_of {rs : List (List Int)} {ks : List Int} {i : Nat} {row : List Int} (h : (cvs rs ks)[i]? = some row) : ∃ r k, rs[i]? = some r ∧ ks[i]? = some k ∧ row = cv r k := by
  unfold cvs at h
  rw [List.getElem?_zipWith] at h
  cases h1 : rs[i]? with
  | none => rw [h1] at h; cases h
  | some r =>
    cases h2 : ks[i]? with
    | none => rw [h1, h2] at h; cases h
    | some k => rw [h1, h2] at h; exact ⟨r, k, rfl, rfl, (Option.some.inj h).symm⟩
theorem cvs_cp {rs : List (List Int)} {ks : List Int} (h : ∀ row ∈ rs, ∀ c ∈ row, Cp c) : ∀ row ∈ cvs rs ks, ∀ c ∈ row, Cp c := fun row hrow c hc => by
  obtain ⟨i, hi⟩ := List.getElem?_of_mem hrow
  obtain ⟨r, k, h1, _, rfl⟩ := cvs_of hi
  unfold cv at hc
  split at hc
  · obtain ⟨z, hz, rfl⟩ := List.mem_map.mp hc
    have h0 : 0 ≤ (z - 1).fmod 255 := Int.fmod_nonneg_of_pos _ (by decide)
    have h1 : (z - 1).fmod 255 < 255 := Int.fmod_lt_of_pos _ (by decide)
    exact ⟨by (first | lia | omega), by (first | lia | omega)⟩
  · exact h r (List.mem_of_getElem? h1) c hc
theorem cvs_256 {rs : List (List Int)} {ks : List Int} {i : Nat} {row : List Int} (h1 : ks[i]? = some 1) (h2 : (cvs rs ks)[i]? = some row) : ∀ c ∈ row, c < 256 := fun c hc => by
  obtain ⟨r, k, _, h4, rfl⟩ := cvs_of h2
  rw [h1] at h4; cases h4
  unfold cv at hc
  rw [if_pos rfl] at hc
  obtain ⟨z, hz, rfl⟩ := List.mem_map.mp hc
  have h1 : (z - 1).fmod 255 < 255 := Int.fmod_lt_of_pos _ (by decide)
  (first | lia | omega)
inductive J22a (P Kd A2 : Addr) (rest : List (Addr × Obj)) (m : MapS) (l : List (Addr × Obj)) : Prop
  | mk {q : Obj} {x : Option Value} (hr : m "rows" = some (.ref P)) (hk : m "kinds" = some (.ref Kd)) (hl : l = (A2, q) :: rest) (hq : q.data = .cell x)
inductive J22b (P Kd D2 Cc : Addr) (cs : List (List Int)) (T nx : List (Addr × Obj)) (j : Nat) (m : MapS) (l : List (Addr × Obj)) : Prop
  | mk {zs : List Value} {cc : Nat} {rest : List (Addr × Obj)} (hc : m "codes" = some (.ref Cc)) (hs : m "sorts" = some (.ref D2)) (hr : m "rows" = some (.ref P)) (hk : m "kinds" = some (.ref Kd))
    (hl : l = (Cc, lobj zs cc) :: (T ++ rest)) (hsub : ∀ p ∈ nx, p ∈ rest) (hnC : ∀ p ∈ T ++ rest, p.1 ≠ Cc) (hrz : Rows rest zs (cs.take j))
theorem holds1 : PySem.Challenge.rw_ko0128_01.Holds := Mine.hd (by
  k_go0; (all_goals try k_fold)
  k_steps
  walk_at "MY open"
  rename Heap.IsList _ _ _ => hL
  rename IntsAre _ _ => hI
  rename List Int => ns
  rename ¬ _ => hc
  rename Fr _ _ _ _ => F1
  rename News _ _ _ _ => N1
  rename Below _ _ _ _ => K0
  rename Frag.In _ _ => KX
  rename Top _ _ _ _ _ _ => TT
  have hlen := hI.length
  refine law_paths (KX.keeps F1.keep) (TT.keeps F1.keep) (by k_room) rfl (by simp only [units_in1, units_deeper, Around.mark_units]; decide) (hL.at fun o e => F1.keep _ o e) hI (by (first | lia | omega)) (fun h' tk D P Kd vs kvs c c' nx rs ks k1 new1 hr hk hg => ?_)
  have N2 := news_swap (news_new F1 N1 k1 new1)
  have F2 := F1.keeps k1
  have o1 := new_ne new1 (N1 _ (.head _)).1
  have p1 := neN (o1 _ (.head _))
  have p2 := neN (o1 _ (.tail _ (.head _)))
  have p3 := neN (o1 _ (.tail _ (.tail _ (.head _))))
  dsimp only at p1 p2 p3
  have x1 := fun (p : Addr × Obj) (hp : p ∈ nx) => o1 p (.tail _ (.tail _ (.tail _ hp)))
  dsimp only at x1
  clear F1 N1 o1
  simp only [List.cons_append, List.nil_append] at N2
  k_steps
  walk_at "MY open"
  try clear F2 N2
  rename Fr _ _ _ _ => F1
  rename News _ _ _ _ => N1
  have N2 := led_drop2 N1
  clear N1
  try dsimp only
  refine rangeK (n := 2) (fun _ => J22a P Kd _ ((Kd, lobj kvs c') :: (P, lobj vs c) :: nx)) rfl F1 N2 rfl (by decide) (.mk rfl rfl rfl (by assumption)) (fun _ _ => rfl) ?_ ?_
  · intro I oI i tv m1 nx1 h1 tk1 K hi hoff hJ F3 N3 hK
    obtain ⟨gr, gk, rfl, hq⟩ := hJ
    rw [map2k gr gk] at F3
    have i1 := neN (hoff _ (.head _))
    dsimp only at i1
    clear F1 N2
    k_steps
    walk_at "MY open"
    rename Fr _ _ _ _ => F4
    rename News _ _ _ _ => N4
    have hkz : kvs.length ≤ sizeLine := le_size (k := 120) (by rw [hk.length, hg.len]; have := lensL_ge rs; have := hg.size; (first | lia | omega))
    try dsimp only
    refine src_listP (fun j ys => IntsAre ys ((ks.take j).map fun k => (k + (i : Int)).fmod 2)) rfl F4 N4 (News.isList N4 (by k_mem)) (N4 (Kd, lobj kvs c') (by k_mem)).2.1 hkz rfl rfl .nil ?_ ?_
    · intro j v C oC D2 m₂ h₂ tk own ys K2 E' hv hys hm hC F₂ N₂ hK2
      obtain ⟨n, t, rfl, hn⟩ := ints_item hk hv
      clear F4 N4
      k_steps
      exact hK2 _ _ _ (by k_asm) (by k_asm) (ints_step hn hys (by simp))
    intro g tk ys hys D2 h₂ tk₂ F₂ N₂ hoff2
    rw [List.take_of_length_le (by rw [hk.length]; exact Nat.le_refl _)] at hys
    have j1 := neN (hoff2 _ (.head _))
    have j2 := neN (hoff2 _ (.tail _ (.head _)))
    have j3 := neN (hoff2 _ (.tail _ (.tail _ (.head _))))
    have j4 := neN (hoff2 _ (.tail _ (.tail _ (.tail _ (.head _)))))
    dsimp only at j1 j2 j3 j4
    clear hoff2 F4 N4
    have hvl : vs.length ≤ 120 := by rw [hr.1]; have := lensL_ge rs; have := hg.size; (first | lia | omega)
    have hvz : vs.length ≤ sizeLine := le_size hvl
    have hyl : ys.length = rs.length := by rw [hys.length, List.length_map, hg.len]
    have hyz : ys.length ≤ sizeLine := le_size (k := 120) (by rw [hyl, ← hr.1]; exact hvl)
    have hcl : (cvs rs (ks.map fun k => (k + (i : Int)).fmod 2)).length = rs.length := cvs_len (by rw [List.length_map]; exact hg.len)
    k_steps
    walk_at "MY open"
    rename Fr _ _ _ _ => F5
    rename News _ _ _ _ => N5
    rename (_ < _ ∧ _ < _ ∧ _ < _ ∧ _ < _ ∧ _ < _ ∧ AllLt _ nx) => l1
    try dsimp only
    refine rangeK (n := vs.length) (J22b P Kd D2 _ (cvs rs (ks.map fun k => (k + (i : Int)).fmod 2)) [(D2, LCg.lst ys), (I, oI), (_, _), (Kd, lobj kvs c'), (P, lobj vs c)] nx) rfl F5 N5 rfl hvz (.mk rfl rfl rfl rfl rfl (fun p hp => hp) (all_lt l1) alnil) (fun _ _ => rfl) ?_ ?_
    · intro I2 oI2 j tj m2 l2 h2 tk2 K2 hj hoff2 hJ2 F6 N6 hK2
      obtain @⟨zs, cc, rest, gc, gs, gr2, gk2, rfl, hsub, hnC, hrz⟩ := hJ2
      rw [map4k gc gs gr2 gk2] at F6
      have N6 : News _ _ _ ((I2, oI2) :: (_, lobj zs cc) :: (_, _) :: (_, _) :: (_, _) :: (_, _) :: (_, _) :: rest) := N6
      have d1 := hoff2 _ (.head _)
      obtain ⟨row, hrow, b, c1, us, hvb, hbm, hbu⟩ := hr.2 j _ (List.getElem?_eq_getElem hj)
      have hvj := List.getElem?_eq_getElem hj
      rw [hvb] at hvj
      have hjr : j < ys.length := by rw [hyl, ← hr.1]; exact hj
      obtain ⟨kn, tkn, hkn, hknn⟩ := ints_item hys (List.getElem?_eq_getElem hjr)
      have hyj := List.getElem?_eq_getElem hjr
      rw [hkn] at hyj
      have hbm' := hsub _ hbm
      have ecv : (cvs rs (ks.map fun k => (k + (i : Int)).fmod 2))[j]? = some (cv row kn) := cvs_at hrow hknn
      have hul : us.length ≤ sizeLine := le_size (k := 120) (by
        have := row_len2 (List.mem_of_getElem? hrow); have := hg.size; rw [hbu.length]; (first | lia | omega))
      have hzl : zs.length ≤ sizeLine := le_size (k := 120) (by rw [hrz.1, List.length_take]; (first | lia | omega))
      clear F5 N5
      k_steps
      · walk_at "MY open"
        rename Fr _ _ _ _ => F7
        rename News _ _ _ _ => N7
        rename kn = 1 => hk1
        try dsimp only
        refine src_listP (vs := us) (fun j ws => IntsAre ws ((row.take j).map fun c => (c - 1).fmod 255 + 1)) rfl F7 N7 (News.isList N7 (by k_mem)) (N7 (b, lobj us c1) (by k_mem)).2.1 hul rfl rfl .nil ?_ ?_
        · intro j3 v C3 oC3 D3 m₃ h₃ tk own ws K3 E' hv hws hm hC F₂ N₂ hK3
          obtain ⟨n, t, rfl, hn⟩ := ints_item hbu hv
          clear F7 N7
          k_steps
          exact hK3 _ _ _ (by k_asm) (by k_asm) (ints_step hn hws (by simp))
        intro g tk ws hws D5 h₂ tk₂ F₂ N₂ hoff
        rw [List.take_of_length_le (by rw [hbu.length]; exact Nat.le_refl _)] at hws
        have hD5C := Ne.symm (hoff _ (.tail _ (.head _)))
        have hD52 := Ne.symm (hoff _ (.head _))
        clear F7 N7 hoff
        k_steps
        walk_at "MY open"
        rename Fr _ _ _ _ => F8
        rename News _ _ _ _ => N8
        refine append_led F8 N8 (by k_mem) hzl fun h9 k9 F9 hC9 hk9 => ?_
        have N9 := app_turn (w := [(_, _)]) (T := [_, _, _, _, _]) N8 hC9 hk9 d1 (off_one hD5C) hnC
        clear F8 N8
        k_steps
        refine hK2 _ _ _ _ (by k_asm) N9 (off_same (off_in (T := [_, _, _, _, _, _]) hoff2 (off_one hD52))) (.mk rfl rfl rfl rfl rfl (fun p hp => List.mem_append_right _ (hsub p hp)) (off_in hnC (off_one hD5C)) ?_)
        rw [take_snoc ecv]
        exact alsnoc (hrz.sub fun p hp => List.mem_append_right _ hp) ⟨D5, ws.length, ws, rfl, List.mem_append_left _ (.head _), by unfold cv; rw [if_pos hk1]; exact hws⟩
      · walk_at "MY open"
        rename Fr _ _ _ _ => F8
        rename News _ _ _ _ => N8
        rename kn ≠ 1 => hk1
        refine append_led F8 N8 (by k_mem) hzl fun h9 k9 F9 hC9 hk9 => ?_
        have N9 := app_turn (w := []) (T := [_, _, _, _, _]) N8 hC9 hk9 d1 off_nil hnC
        clear F8 N8
        k_steps
        refine hK2 _ _ _ _ (by k_asm) N9 (off_same hoff2) (.mk rfl rfl rfl rfl rfl hsub hnC ?_)
        rw [take_snoc ecv]
        exact alsnoc hrz ⟨b, c1, us, rfl, hbm', by unfold cv; rw [if_neg hk1]; exact hbu⟩
    · intro m2 l2 h2 tk2 hJ2 F6 N6
      obtain @⟨zs, cc, rest, gc, gs, gr2, gk2, rfl, hsub, hnC, hrz⟩ := hJ2
      rw [map4k gc gs gr2 gk2] at F6
      have N6 : News _ _ _ ((_, lobj zs cc) :: (_, _) :: (_, _) :: (_, _) :: (_, _) :: (_, _) :: rest) := N6
      rw [List.take_of_length_le (by rw [hcl, hr.1]; exact Nat.le_refl _)] at hrz
      clear F5 N5
      k_steps
      walk_at "MY open"
      rename Fr _ _ _ _ => F8
      rename News _ _ _ _ => N8
      have hks2 : ∀ k ∈ ks.map fun k => (k + (i : Int)).fmod 2, k = 0 ∨ k = 1 := fun k hk => by
        obtain ⟨z, _, rfl⟩ := List.mem_map.mp hk; exact fmod2 _
      refine law_right (pushX K0 F8 (by rfl) (by rfl)) KX TT (by k_room) rfl (by simp only [units_in1, units_deeper, Around.mark_units]; decide) (News.isList N8 (.head _)) (hrz.mono fun v d _ ⟨b, c, us, e, hm, hi⟩ => ⟨b, us, e, ⟨_, (N8 (b, lobj us c) (by k_mem)).1, rfl, c, rfl⟩, hi⟩) (News.isList N8 (.tail _ (.head _))) hys (by rw [hcl, List.length_map]; exact hg.len) hks2 (cvs_cp hg.cps) (fun _ _ a b => cvs_256 a b) (by have := cvs_size rs (ks.map fun k => (k + (i : Int)).fmod 2); have := hg.size; (first | lia | omega)) fun h9 tk9 k9 => ?_
      have F9 := k9.fr F8 (fun b hb => by rw [List.mem_singleton.mp hb]; exact fr_none F8)
      have N9 := k9.news N8 (fun p hp hm => (N8 p hp).2.1 (List.mem_singleton.mp hm))
      clear F8 N8
      k_steps
      exact hK _ _ _ _ F9 (led_rest (T := [_, _, _, _]) (led1 (led1 N9)) hsub) (off_same hoff) (.mk rfl rfl rfl (by assumption))
  · intro m1 nx1 h1 tk1 hJ F3 N3
    obtain ⟨gr, gk, rfl, hq⟩ := hJ
    rw [map2k gr gk] at F3
    k_steps)
end
end Mine
theorem PySem.Challenge.cw_ko0128_01_holds : PySem.Challenge.rw_ko0128_01.Holds := by
  exact Mine.holds1
