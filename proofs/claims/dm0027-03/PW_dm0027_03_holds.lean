import PyProof.Rows.All
import Wide.All
import OpenK.AllK
import Wide.FinOn
import Flt.RightSqrt
import Flt.RightMore
import Flt.Calls
import PySem.Challenge.RW_dm0027_03
set_option Elab.async false
namespace Mine
/-! MC -/
section
open PySem PySem.W PyProof.Rows PySem.Calls PySem.Flt
section
variable {prog : Program} {w : World} {A A₀ : Around} {s : Shared} {K : Frag} {L : Addr} {h₀ base : Heap} {m mg mb : Str → Option Value} {p : Program} {loose : List Str} {mean : ExcName → Option Value}
  {env : Env} {outer : List Env} {R : Result → Shared → Prop} {name qual : Str} {params : Arguments} {body : List Stmt} {scope : Scope} {dV kV doc pm cdv ct oc : Value} {an od : Option Addr} {osl : Array (Option Value)} {f : Addr} {args : Args} {binds : List (Str × Value)}

/-- a call whose callee starts with an empty ledger: all that stands at the call is kept -/
theorem call_own (B : Below A₀ base outer h₀) (F : Fr h₀ L s.heap m) (X₀ : K.In h₀) (T : Top p loose mean mg mb h₀) (hA : A.frames = some (env :: outer)) (hf : env.frame = some L) (hke : env.scope.kind = .function)
    (ho : K.lookup f = some ⟨oc, od, .func (fnOf name qual params body scope dV kV doc pm an cdv ct), osl⟩) (hcd : codeIn K cdv qual = true) (hroom : A.depth < recursionLimit)
    (hbind : BindsTo s (fnOf name qual params body scope dV kV doc pm an cdv ct) args binds) (hloc : ∀ y ∈ binds, scope.names.lookup y.1 = some .local)
    (h : ∀ g L' h₁, g = s.heap → Fr g L' h₁ (fun y => binds.reverse.lookup y) → News g L' h₁ [] → Below A base (env :: outer) g → K.In g → Top p loose mean mg mb g →
      wpAny (model prog w) (A.deeper (envOf qual scope L' f cdv)) (execs body (envOf qual scope L' f cdv))
        (fun fl s' => R (.ok (.ret (match fl with | .ret v => v | _ => .none))) s')
        (fun e s' => wpAny (model prog w) (A.deeper (envOf qual scope L' f cdv)) (leaving (envOf qual scope L' f cdv) e) (fun _ s'' => R (.error e) s'') (fun e' s'' => R (.error e') s'') s')
        { s with heap := h₁, toks := s.toks + binds.length })
    (hco : scope.isCoroutine = false) (hgen : scope.isGenerator = false) (hk : scope.kind = .function)
    (hcell : ∀ x ∈ scope.names, x.2 ≠ .cell) : codeAny (model prog w) A (.call (.ref f) args) R s := by
  have X := X₀.keeps F.keep
  obtain ⟨_, BG, _, _⟩ := groundX (R := R) B F (news := []) News.nil hA hf hke
  refine codeAny_call_def (fd := fnOf name qual params body scope dV kV doc pm an cdv ct) (body := body) (binds := binds) hroom (X _ _ ho) rfl (T.nolimit.keeps F.keep) (codeRec_of X hcd) rfl hbind hcell hloc (fun h₁ hns hk₁ => ?_) hco hgen hk
  exact h s.heap s.heap.objs.size h₁ rfl ⟨hns, hk₁, Nat.le_refl _⟩ News.nil BG X (T.keeps F.keep)

theorem call_ownC (B : Below A₀ base outer h₀) (F : Fr h₀ L s.heap m) (X₀ : K.In h₀) (T : Top p loose mean mg mb h₀) (hA : A.frames = some (env :: outer)) (hf : env.frame = some L) (hke : env.scope.kind = .function)
    (ho : K.lookup f = some ⟨oc, od, .func (fnOf name qual params body scope dV kV doc pm an cdv ct), osl⟩) (hcd : codeIn K cdv qual = true) (hroom : A.depth < recursionLimit)
    (hbind : BindsTo s (fnOf name qual params body scope dV kV doc pm an cdv ct) args binds) (hkind : (binds.all fun y => scope.names.lookup y.1 == some .local || scope.names.lookup y.1 == some .cell) = true)
    (hnd : ((cellsFrom 0 scope.names []).map (·.1)).Nodup)
    (h : ∀ g L' h₁ tk cells, g = s.heap → Fr g L' h₁ (bindL (envOfC qual scope L' f cdv).kindOf binds fun _ => none) → News g L' h₁ (cells ++ []) →
      CellsAre (bindC (envOfC qual scope L' f cdv).kindOf binds fun _ => none) (cellsFrom (L' + 1) scope.names []) cells → Below A base (env :: outer) g → K.In g → Top p loose mean mg mb g →
      wpAny (model prog w) (A.deeper (envOfC qual scope L' f cdv)) (execs body (envOfC qual scope L' f cdv))
        (fun fl s' => R (.ok (.ret (match fl with | .ret v => v | _ => .none))) s')
        (fun e s' => wpAny (model prog w) (A.deeper (envOfC qual scope L' f cdv)) (leaving (envOfC qual scope L' f cdv) e) (fun _ s'' => R (.error e) s'') (fun e' s'' => R (.error e') s'') s')
        { s with heap := h₁, toks := tk })
    (hco : scope.isCoroutine = false) (hgen : scope.isGenerator = false) (hk : scope.kind = .function) : codeAny (model prog w) A (.call (.ref f) args) R s := by
  have X := X₀.keeps F.keep
  obtain ⟨_, BG, _, _⟩ := groundX (R := R) B F (news := []) News.nil hA hf hke
  refine codeAny_call_function hroom (X _ _ ho) rfl hco hgen rfl (codeRec_of X hcd) (hbind _ _ _ _ ?_)
  refine wpAny_newFunctionEnv_cells hk (kindsX hkind _) fun env' he s' x => ?_
  subst he
  refine ⟨(T.nolimit.keeps F.keep).keeps x.toInCall.keep, codeAny_func ?_⟩
  obtain ⟨h₁, tk, rfl, _⟩ := x.done
  have hk₁ := x.toInCall.keep
  obtain ⟨cells, NC, Y⟩ := Cl.news (h₀ := s.heap) (Nat.le_refl _) fun n c hm => ⟨x.cell n c (lookup_of_mem_nodup (cellsFrom_names scope.names 0 (s.heap.objs.size + 1) [] [] rfl ▸ hnd) hm), x.above n c hm⟩
  refine h s.heap s.heap.objs.size h₁ tk cells rfl ⟨x.toInCall.ns, hk₁, Nat.le_refl _⟩ (fun p hp => ?_) Y BG X (T.keeps F.keep)
  rw [List.append_nil] at hp
  exact NC p hp

end
section
variable {s : Shared} {h₀ h' : Heap} {L x : Addr} {o : Obj} {m : Str → Option Value} {news : List (Addr × Obj)}
theorem News.add (F : Fr h₀ L s.heap m) (N : News h₀ L s.heap news) (hk : ∀ b o, s.heap.get? b = some o → h'.get? b = some o) (hx : s.heap.get? x = none) (ho : h'.get? x = some o) :
    News h₀ L h' ((x, o) :: news) := by
  intro p hp
  rcases List.mem_cons.mp hp with rfl | hp
  · refine ⟨ho, fun e => ?_, ?_⟩
    · obtain ⟨oL, _, _, hL, _⟩ := F.ns
      rw [← e, hx] at hL; cases hL
    · cases q : h₀.get? x with
      | none => rfl
      | some o' => rw [F.keep _ _ q] at hx; cases hx
  · exact ⟨hk _ _ (N p hp).1, (N p hp).2⟩
theorem News.off (N : News h₀ L s.heap news) (hx : s.heap.get? x = none) : ∀ p ∈ news, p.1 ≠ x := fun p hp e => by
  have := (N p hp).1
  rw [e, hx] at this; cases this
end
end
/-! MH -/
section
open PySem PySem.W PyProof.Rows PySem.Calls PySem.Flt
/-- the greatest of three floats, as max finds it -/
def fmax2 (x y : UInt64) : UInt64 := if (Float64.cmp x y == some .lt) = true then y else x
def fmin2 (x y : UInt64) : UInt64 := if (Float64.cmp y x == some .lt) = true then y else x
def fmax3 (x y z : UInt64) : UInt64 := fmax2 (fmax2 x y) z
def fmin3 (x y z : UInt64) : UInt64 := fmin2 (fmin2 x y) z

def hlsL (r g b : UInt64) : UInt64 := Float64.div (Float64.add (fmax3 r g b) (fmin3 r g b)) 4611686018427387904
def hlsGrey (r g b : UInt64) : Bool := Float64.cmp (fmin3 r g b) (fmax3 r g b) == some .eq
def hlsDark (r g b : UInt64) : Bool := Float64.cmp (hlsL r g b) 4602678819172646912 == some .lt || Float64.cmp (hlsL r g b) 4602678819172646912 == some .eq
def hlsS (r g b : UInt64) : UInt64 := if hlsGrey r g b = true then 0 else if hlsDark r g b = true then Float64.div (Float64.sub (fmax3 r g b) (fmin3 r g b)) (Float64.add (fmax3 r g b) (fmin3 r g b))
  else Float64.div (Float64.sub (fmax3 r g b) (fmin3 r g b)) (Float64.sub (Float64.sub 4611686018427387904 (fmax3 r g b)) (fmin3 r g b))
def hlsA (r g b x : UInt64) : UInt64 := Float64.div (Float64.sub (fmax3 r g b) x) (Float64.sub (fmax3 r g b) (fmin3 r g b))
def hlsP (r g b : UInt64) : UInt64 := if (Float64.cmp r (fmax3 r g b) == some .eq) = true then Float64.sub (hlsA r g b b) (hlsA r g b g)
  else if (Float64.cmp g (fmax3 r g b) == some .eq) = true then Float64.sub (Float64.add 4611686018427387904 (hlsA r g b r)) (hlsA r g b b)
  else Float64.sub (Float64.add 4616189618054758400 (hlsA r g b g)) (hlsA r g b r)
def hlsH (r g b : UInt64) : UInt64 := if hlsGrey r g b = true then 0 else (Float64.divmod (Float64.div (hlsP r g b) 4618441417868443648) 4607182418800017408).2
/-- nothing is divided by nought -/
def HlsOk (r g b : UInt64) : Prop := hlsGrey r g b = false → Float64.isZero (Float64.sub (fmax3 r g b) (fmin3 r g b)) = false ∧
  (hlsDark r g b = true → Float64.isZero (Float64.add (fmax3 r g b) (fmin3 r g b)) = false) ∧
  (hlsDark r g b = false → Float64.isZero (Float64.sub (Float64.sub 4611686018427387904 (fmax3 r g b)) (fmin3 r g b)) = false)
section
variable {prog : Program} {w : World} {A : Around} {E : Value → Shared → Prop} {s : Shared} {Q : Value → Shared → Prop} {h₀ : Heap} {L : Addr} {m : Str → Option Value} {news : List (Addr × Obj)}

theorem keep3 {a b c : Value} {d : Addr} {o : Obj} {h' : Heap} {oi : Obj}
    (hk : ∀ d o, d ∉ [((s.heap.push { cls := .type "tuple", data := .seq #[a, b, c] })).objs.size] → ((s.heap.push { cls := .type "tuple", data := .seq #[a, b, c] }).push oi).get? d = some o → h'.get? d = some o) (e : s.heap.get? d = some o) : h'.get? d = some o := by
  refine hk d o (fun hm => ?_) (Heap.get?_push_of_some _ (Heap.get?_push_of_some _ e))
  have h1 := List.mem_singleton.mp hm
  have := Heap.lt_size e
  rw [h1, Heap.size_push] at this
  exact Nat.lt_irrefl _ (Nat.lt_of_succ_lt this)

theorem max_three_ff {x y z : UInt64} {t u v : Tok} (hh : A.handled = none) (F : Fr h₀ L s.heap m) (N : News h₀ L s.heap news)
    (h : ∀ h' tk t', Fr h₀ L h' m → News h₀ L h' news → Q (.float (fmax3 x y z) t') { s with heap := h', toks := tk }) :
    wpAny (model prog w) A (call (.builtin "max") [.float x t, .float y u, .float z v]) Q E s := by
  have hT : (s.heap.push { cls := .type "tuple", data := .seq #[.float x t, .float y u, .float z v] }).IsTuple s.heap.objs.size #[.float x t, .float y u, .float z v] := ⟨_, Heap.get?_push_size _ rfl, rfl, 0, rfl⟩
  refine call_max_three (wpAny_pyIter_tuple hT ?_)
  have hsz : (s.heap.push { cls := .type "tuple", data := .seq #[.float x t, .float y u, .float z v] }).objs.size = s.heap.objs.size + 1 := Heap.size_push ..
  refine ⟨_, [_, s.heap.objs.size], [_], _, _, _, _, rfl, Walks.tuple (A := A.in1) hh _ s.heap.objs.size (by rw [hsz]; exact Nat.ne_of_lt (Nat.lt_succ_self _)) #[.float x t, .float y u, .float z v],
    ⟨⟨_, Heap.get?_push_size _ rfl, rfl, rfl⟩, hT.push _⟩, fun c hc => ?_, by simp, cmpOf_gt #[.float x t, .float y u, .float z v] (by simp [NumV.float]), fun vv h' tk hP hk => ?_⟩
  · show c < ((s.heap.push _).push _).objs.size
    rw [Heap.size_push, hsz]
    rcases List.mem_cons.mp hc with rfl | hc
    · rw [hsz]; exact Nat.lt_succ_self _
    · rcases List.mem_cons.mp hc with rfl | hc
      · exact Nat.lt_succ_of_lt (Nat.lt_succ_self _)
      · cases hc
  · have hold : ∀ c o, s.heap.get? c = some o → h'.get? c = some o := fun c o e => keep3 hk e
    have hv : ∃ t', vv = .float (fmax3 x y z) t' := by
      unfold fmax3 fmax2
      have e2 : (#[Value.float x t, Value.float y u, Value.float z v] : Array Value).size - 1 = 2 := by simp
      rw [e2] at hP
      cases hc : (Float64.cmp x y == some .lt) with
      | true => cases hd : (Float64.cmp y z == some .lt) <;> simp [argBest, ltV, hc, hd] at hP <;> subst hP <;> simp [hd]
      | false => cases hd : (Float64.cmp x z == some .lt) <;> simp [argBest, ltV, hc, hd] at hP <;> subst hP <;> simp [hd]
    obtain ⟨t', rfl⟩ := hv
    exact h h' tk t' (F.grownK hold) (N.grown hold)

theorem min_three_ff {x y z : UInt64} {t u v : Tok} (hh : A.handled = none) (F : Fr h₀ L s.heap m) (N : News h₀ L s.heap news)
    (h : ∀ h' tk t', Fr h₀ L h' m → News h₀ L h' news → Q (.float (fmin3 x y z) t') { s with heap := h', toks := tk }) :
    wpAny (model prog w) A (call (.builtin "min") [.float x t, .float y u, .float z v]) Q E s := by
  have hT : (s.heap.push { cls := .type "tuple", data := .seq #[.float x t, .float y u, .float z v] }).IsTuple s.heap.objs.size #[.float x t, .float y u, .float z v] := ⟨_, Heap.get?_push_size _ rfl, rfl, 0, rfl⟩
  refine call_min_three (wpAny_pyIter_tuple hT ?_)
  have hsz : (s.heap.push { cls := .type "tuple", data := .seq #[.float x t, .float y u, .float z v] }).objs.size = s.heap.objs.size + 1 := Heap.size_push ..
  refine ⟨_, [_, s.heap.objs.size], [_], _, _, _, _, rfl, Walks.tuple (A := A.in1) hh _ s.heap.objs.size (by rw [hsz]; exact Nat.ne_of_lt (Nat.lt_succ_self _)) #[.float x t, .float y u, .float z v],
    ⟨⟨_, Heap.get?_push_size _ rfl, rfl, rfl⟩, hT.push _⟩, fun c hc => ?_, by simp, cmpOf_lt #[.float x t, .float y u, .float z v] (by simp [NumV.float]), fun vv h' tk hP hk => ?_⟩
  · show c < ((s.heap.push _).push _).objs.size
    rw [Heap.size_push, hsz]
    rcases List.mem_cons.mp hc with rfl | hc
    · rw [hsz]; exact Nat.lt_succ_self _
    · rcases List.mem_cons.mp hc with rfl | hc
      · exact Nat.lt_succ_of_lt (Nat.lt_succ_self _)
      · cases hc
  · have hold : ∀ c o, s.heap.get? c = some o → h'.get? c = some o := fun c o e => keep3 hk e
    have hv : ∃ t', vv = .float (fmin3 x y z) t' := by
      unfold fmin3 fmin2
      have e2 : (#[Value.float x t, Value.float y u, Value.float z v] : Array Value).size - 1 = 2 := by simp
      rw [e2] at hP
      cases hc : (Float64.cmp y x == some .lt) with
      | true => cases hd : (Float64.cmp z y == some .lt) <;> simp [argBest, ltV, hc, hd] at hP <;> subst hP <;> simp [hd]
      | false => cases hd : (Float64.cmp z x == some .lt) <;> simp [argBest, ltV, hc, hd] at hP <;> subst hP <;> simp [hd]
    obtain ⟨t', rfl⟩ := hv
    exact h h' tk t' (F.grownK hold) (N.grown hold)
end

/-- the quotient of two ints as a float -/
def fdivI (a b : Int) : UInt64 := Float64.ofFrac (decide (a < 0) != decide (b < 0)) a.natAbs b.natAbs
theorem div_small {prog : Program} {w : World} {A : Around} {E : Value → Shared → Prop} {s : Shared} {t u : Tok} {Q : Value → Shared → Prop} {a b : Int} (hA : A.handled = none) (ha : a.natAbs < 2 ^ 64) (hb : b ≠ 0)
    (h : Q (.float (fdivI a b) s.toks) { s with toks := s.toks + 1 }) : wpAny (model prog w) A (binaryOp .Div (.int a t) (.int b u)) Q E s :=
  div_ii_fits hA (Nat.lt_of_lt_of_le ha (Nat.pow_le_pow_right (by decide) (by decide))) (fun e => absurd e hb) (fun _ _ => h)
structure Held (p : Prop) : Prop where
  out : p
theorem hold {p : Prop} (h : Held p) : p := h.out
theorem keep_map {m₁ : Str → Option Value} {x : Str} {v : Value} (h : m₁ x = some v) : m₁ = fun y => if y = x then some v else m₁ y := by
  funext y
  by_cases e : y = x
  · rw [if_pos e, e, h]
  · rw [if_neg e]
theorem item_at {prog : Program} {w : World} {A : Around} {E : Value → Shared → Prop} {s : Shared} {Q : Value → Shared → Prop} {h₀ : Heap} {L : Addr} {news : List (Addr × Obj)} {value slice : PySem.Expr} {l : Addr} {vs : List Value} {n : Nat} {k : Int} {u : Tok} {v : Value}
    (N : News h₀ L s.heap news) (hm : (l, W.listOf vs.toArray n) ∈ news) (h0 : 0 ≤ k) (hhi : k < 2 ^ 63) (hx : vs[k.toNat]? = some v) (h : Q v s)
    (hs : subscripted slice false (.ref l) (.int k u) = operate [.ref l, .int k u] (getItem (.ref l) (.int k u)) := by with_unfolding_all rfl) :
    wpAny (model prog w) A (subscriptTail value slice (.ref l) (.int k u)) Q E s :=
  have hl : s.heap.IsList l vs.toArray := ⟨_, (N _ hm).1, rfl, n, rfl⟩
  tail_any hl.typeIs slot_list_getitem.lookup (wpAny_getItem_list hl h0 hhi (by simpa using hx) h) hs
end
/-! MO -/
section
open PySem PySem.W PyProof.Rows PySem.Calls PySem.Flt
/-- the scope of «[x for x in told if not isinstance(x, float)]» -/
abbrev scopeI : Scope := { kind := .function, names := [(".0", .local), ("x", .local), ("isinstance", .globalImplicit), ("float", .globalImplicit)], isGenerator := false, isCoroutine := false, more := [] }
abbrev testI (p1 p2 p3 p4 p5 : Pos) : PySem.Expr := .UnaryOp .Not (.Call (.Name "isinstance" p1) [.Name "x" p2, .Name "float" p3] [] p4) p5
section
variable {prog : Program} {w : World} {A : Around} {E : Value → Shared → Prop} {s : Shared} {K : Frag} {h₀ : Heap} {L C : Addr} {m m₂ mg mb : Str → Option Value} {news : List (Addr × Obj)} {cl : List (Str × Addr)} {env : Env} {p : Program} {loose : List Str} {mean : ExcName → Option Value} {oC : Obj}
theorem isfloat_test {f : UInt64} {t : Tok} {p1 p2 p3 p4 p5 : Pos} {whole : Sem Value} {Q : Bool → Shared → Prop} (F : Fr h₀ L s.heap m) (N : News h₀ L s.heap news) (hm : (C, oC) ∈ news) (hC : LCg.NsObj oC m₂) (hx : m₂ "x" = some (.float f t)) (X : K.In h₀) (T : Top p loose mean mg mb h₀)
    (eI : nsIn K mainGlobals "isinstance" = some none) (eF : nsIn K mainGlobals "float" = some none) (hg : env.globals = mainGlobals) (hb : env.builtins = builtinsNs) (h : Q false s) :
    wpAny (model prog w) A (isTrue (testI p1 p2 p3 p4 p5) (compEnvC scopeI cl C env) whole) Q E s := by
  refine isTrue_not (isTrue_plain ?_)
  walk1
  refine LCgL.ld_built F X T eI (by boot_fast) (by decide) ?_ hg hb
  walk1
  walk1
  refine LCgL.ld_own N hm hC hx ?_
  walk1
  refine LCgL.ld_built F X T eF (by boot_fast) (by decide) ?_ hg hb
  walk1
  walk1
  exact wpAny_truthy_bool h
theorem off1_mem {D : Addr} {l : List (Addr × Obj)} (h : LCg.Off1 D l) : ∀ p ∈ l, p.1 ≠ D := by
  induction l with
  | nil => intro p hp; cases hp
  | cons q r ih =>
    intro p hp
    rcases List.mem_cons.mp hp with e | e
    · rw [e]; exact h.1
    · exact ih h.2 p e
open PyProof.Rows.LCg PyProof.Rows.LCt in
/-- a tuple of floats, each asked whether it is one: nothing is left -/
theorem comp_floats {elt iter : PySem.Expr} {px : Pos} {pos p1 p2 p3 p4 p5 : Pos} {Q : Value → Shared → Prop} (_F₀ : Fr h₀ L s.heap m) (X : K.In h₀) (T : Top p loose mean mg mb h₀)
    (eI : nsIn K mainGlobals "isinstance" = some none) (eF : nsIn K mainGlobals "float" = some none) (hg : env.globals = mainGlobals) (hb : env.builtins = builtinsNs) (hh : A.handled = none)
    (h : wpAny (model prog w) A (eval iter env) (fun xv s₁ => ∃ ax its k, ∃ news : List (Addr × Obj), xv = .ref ax ∧ Fr h₀ L s₁.heap m ∧ News h₀ L s₁.heap news ∧ (ax, ({ cls := .type "tuple", data := .seq its k } : Obj)) ∈ news ∧
      (∀ v ∈ its, ∃ f t, v = .float f t) ∧ its.size ≤ sizeLine ∧ ∀ D h tk, Fr h₀ L h m → News h₀ L h ((D, W.listOf #[] 0) :: news) → (∀ p ∈ news, p.1 ≠ D) → Q (.ref D) { s₁ with heap := h, toks := tk }) E s)
    (hs : ∀ x, foldedSetIterable iter env x = pure x := by intro _; rfl) :
    wpAny (model prog w) A (eval (.ListComp elt [⟨.Name "x" px, iter, [testI p1 p2 p3 p4 p5], 0⟩] scopeI pos) env) Q E s := by
  rw [eval_ListComp]
  refine wpAny_comprehension_free (cl := []) (use := none) rfl hs (by with_unfolding_all rfl) rfl (by decide) (wpAny_mono h (fun xv s₁ h₁ => ?_) fun _ _ e => e)
  obtain ⟨ax, its, k, news, rfl, F, N, hm, hits, hsz, fin⟩ := h₁
  have hl : s₁.heap.IsTuple ax its := ⟨_, (N _ hm).1, rfl, k, rfl⟩
  have hlt : ax < s₁.heap.objs.size := Heap.lt_size (N _ hm).1
  refine wpAny_pyIter_tuple hl ?_
  have up : ∀ b o, s₁.heap.get? b = some o → (s₁.heap.push { cls := .type "tuple_iterator", data := .fields #[.ref ax, .int 0 0] }).get? b = some o := fun b o e => Heap.get?_push_of_some _ e
  have R : ∀ s₂ : Shared, ∀ n i, i + n = its.size → CompRestT prog w A h₀ L m env (testI p1 p2 p3 p4 p5) elt "x" scopeI [] s₂ (fun nw => (ax, ({ cls := .type "tuple", data := .seq its k } : Obj)) ∈ nw) (fun i v => its[i]? = some v) (fun ys nw => ys = [] ∧ nw = news) n i [] news := by
    intro s₂ n
    induction n with
    | zero => intro i _; exact ⟨rfl, rfl⟩
    | succ n ih =>
      intro i hi
      refine CompRestT.succ ?_
      intro v I oI C oC D m₂ h tk E' hv hC hx F' N' off _
      obtain ⟨f, t, rfl⟩ := hits v (Array.mem_of_getElem? hv)
      refine isfloat_test F' N' (List.mem_cons_of_mem _ (List.mem_cons_self ..)) hC hx X T eI eF hg hb ?_
      rw [if_neg Bool.false_ne_true]
      exact CompEnd.intro F' N' news (fun p hp => hp) off hm (ih (i + 1) (by omega))
  refine block_T (Fin := fun ys nw => ys = [] ∧ nw = news) (S := fun nw => (ax, ({ cls := .type "tuple", data := .seq its k } : Obj)) ∈ nw) (Walks.tuple hh s₁.heap.objs.size ax (Nat.ne_of_lt hlt) its) hsz (fun i h st => by obtain ⟨o, e, _⟩ := st.1; exact ⟨o, e⟩)
    (fun i h h' o nw st e e' _ N' S => ⟨by obtain ⟨o', q, r⟩ := st.1; rw [e] at q; cases q; exact ⟨o, e', r⟩, ⟨_, (N' _ S).1, rfl, k, rfl⟩⟩)
    (by decide) rfl rfl ⟨⟨_, Heap.get?_push_size _ rfl, rfl, rfl⟩, hl.push _⟩ (fun b hb => ?_)
    (F.keeps up) (N.grown up) (Nat.ne_of_lt F.ns.lt) (next_is_new F) (fun p hp => Nat.ne_of_lt (Heap.lt_size (N p hp).1)) hm (R _ _ 0 (by omega)) ?_
  · show b < (s₁.heap.push _).objs.size
    rw [Heap.size_push]
    rcases List.mem_cons.mp hb with rfl | hb
    · exact Nat.lt_succ_self _
    · rw [List.mem_singleton.mp hb]; exact Nat.lt_succ_of_lt hlt
  · rintro D C h tk m' ys news' F' N' o1 hn hC₀ hD₀ hCL hDL hCD offC ⟨rfl, rfl⟩
    refine ⟨m', hn, fun h'' hs'' => fin D h'' tk (F'.change hs'' hCL hC₀) (fun p hp => ?_) (off1_mem o1)⟩
    refine ⟨hs''.extBut _ _ ?_ (N' p hp).1, (N' p hp).2⟩
    rcases List.mem_cons.mp hp with rfl | hp
    · exact Ne.symm hCD
    · exact offC p hp
end
end
/-! MP -/
section
open PySem PySem.W PyProof.Rows PySem.Calls PySem.Flt
section
variable {prog : Program} {w : World} {A : Around} {E : Value → Shared → Prop} {s : Shared} {Q : Value → Shared → Prop} {h₀ : Heap} {L : Addr} {m : Str → Option Value} {news : List (Addr × Obj)}
theorem noneBooked_of {K : Frag} {h : Heap} (X : K.In h) (e : K.lookup cStatics = some { cls := .none, data := .dict #[] 0 }) : NoneBooked h :=
  ⟨fun _ => none, ⟨_, _, _, X _ _ e, rfl, fun e he => (nomatch he), fun _ => rfl⟩, rfl⟩
theorem isSame_floats {x y : UInt64} {t u : Tok} {Q : Bool → Shared → Prop} (ht : t ≠ 0) (hu : u ≠ 0) (hb : NoneBooked s.heap) (hq : ∀ b, Q b s) : wpAny (model prog w) A (isSame (.float x t) (.float y u)) Q E s := by
  show wpAny _ A (isSame.created (x == y && !Float64.isNaN x) t u) Q E s
  unfold isSame.created
  refine wpAny_ite ?_
  split
  · rename_i h; simp [ht, hu] at h
  refine wpAny_ite ?_
  split
  · exact wpAny_pure (hq _)
  refine wpAny_ite ?_
  split
  · exact wpAny_pure (hq _)
  refine wpAny_bind (wpAny_sharingNotTold_none hb ?_)
  first | rw [if_neg Bool.false_ne_true] | simp only [Bool.false_eq_true, if_false]
  refine wpAny_bind (wpAny_sharingNotTold_none hb ?_)
  first | rw [if_neg Bool.false_ne_true] | simp only [Bool.false_eq_true, if_false]
  exact wpAny_bind (wpAny_rule (wpAny_bind (wpAny_askSetting (wpAny_pure (hq _)))))
theorem eqAt_floats {x y : UInt64} {t u : Tok} (h : Float64.cmp x y = some .eq) (ht : t ≠ 0) (hu : u ≠ 0) (hb : NoneBooked s.heap) : SeqAt.EqAt A s (.float x t) (.float y u) true := fun prog w E Q hq => by
  unfold eqBool
  refine wpAny_holding ?_
  refine wpAny_ite_split (fun _ => wpAny_bind (wpAny_rule (wpAny_pure hq))) (fun _ => ?_)
  refine wpAny_bind (isSame_floats ht hu hb fun b => ?_)
  cases b with
  | true => exact wpAny_pure hq
  | false =>
    show wpAny _ _ (richCompare CmpOp.Eq (Value.float x t) (Value.float y u) >>= truthOfDropped) _ _ _
    refine wpAny_bind ?_
    have e : (Float64.cmp x y == some Ordering.eq) = true := by rw [h]; rfl
    refine AutoFloatOps.eq_0 (Q := fun a s' => wpAny (model prog w) A (truthOfDropped a) Q E s') ?_
    rw [e]; exact wpAny_truthy_bool hq
theorem ne_tup {l b : Addr} {items items2 : Array Value} (hl : s.heap.IsTuple l items) (hb : s.heap.IsTuple b items2) (hu : A.units < cLine) (hsz : items.size = items2.size)
    (he : ∀ j (h1 : j < items.size) (h2 : j < items2.size), SeqAt.EqAt A.in1 s items[j] items2[j] true) (h : Q (.bool false) s) : wpAny (model prog w) A (compareOp .NotEq (.ref l) (.ref b)) Q E s := by
  refine SeqAt.RcNeAt.tuples (e := fun _ => true) hl hb hu he prog w E Q ?_
  have e : (!((List.range (min items.size items2.size)).all (fun _ => true) && items.size == items2.size)) = false := by simp [hsz]
  rw [e]; exact h
theorem ne_floats3 {l b : Addr} {n n2 : Nat} {x1 x2 x3 y1 y2 y3 : UInt64} {t1 t2 t3 u1 u2 u3 : Tok} (N : News h₀ L s.heap news)
    (hl : (l, ({ cls := .type "tuple", data := .seq #[.float x1 t1, .float x2 t2, .float x3 t3] n } : Obj)) ∈ news) (hb : (b, ({ cls := .type "tuple", data := .seq #[.float y1 u1, .float y2 u2, .float y3 u3] n2 } : Obj)) ∈ news) (hu : A.units < cLine)
    (nb : NoneBooked s.heap) (k1 : t1 ≠ 0) (k2 : t2 ≠ 0) (k3 : t3 ≠ 0) (k4 : u1 ≠ 0) (k5 : u2 ≠ 0) (k6 : u3 ≠ 0) (h1 : Float64.cmp x1 y1 = some .eq) (h2 : Float64.cmp x2 y2 = some .eq) (h3 : Float64.cmp x3 y3 = some .eq) (h : Q (.bool false) s) : wpAny (model prog w) A (compareOp .NotEq (.ref l) (.ref b)) Q E s := by
  refine ne_tup ⟨_, (N _ hl).1, rfl, _, rfl⟩ ⟨_, (N _ hb).1, rfl, _, rfl⟩ hu rfl (fun j j1 j2 => ?_) h
  match j, j1 with
  | 0, _ => exact eqAt_floats h1 k1 k4 nb
  | 1, _ => exact eqAt_floats h2 k2 k5 nb
  | 2, _ => exact eqAt_floats h3 k3 k6 nb
theorem ne_floats2 {l b : Addr} {n n2 : Nat} {x1 x2 y1 y2 : UInt64} {t1 t2 u1 u2 : Tok} (N : News h₀ L s.heap news)
    (hl : (l, ({ cls := .type "tuple", data := .seq #[.float x1 t1, .float x2 t2] n } : Obj)) ∈ news) (hb : (b, ({ cls := .type "tuple", data := .seq #[.float y1 u1, .float y2 u2] n2 } : Obj)) ∈ news) (hu : A.units < cLine)
    (nb : NoneBooked s.heap) (k1 : t1 ≠ 0) (k2 : t2 ≠ 0) (k4 : u1 ≠ 0) (k5 : u2 ≠ 0) (h1 : Float64.cmp x1 y1 = some .eq) (h2 : Float64.cmp x2 y2 = some .eq) (h : Q (.bool false) s) : wpAny (model prog w) A (compareOp .NotEq (.ref l) (.ref b)) Q E s := by
  refine ne_tup ⟨_, (N _ hl).1, rfl, _, rfl⟩ ⟨_, (N _ hb).1, rfl, _, rfl⟩ hu rfl (fun j j1 j2 => ?_) h
  match j, j1 with
  | 0, _ => exact eqAt_floats h1 k1 k4 nb
  | 1, _ => exact eqAt_floats h2 k2 k5 nb
/-- M is the greatest of three -/
structure Mx (a b c M : Int) : Prop where
  h1 : a ≤ M
  h2 : b ≤ M
  h3 : c ≤ M
  h4 : M = a ∨ M = b ∨ M = c
structure Mn (a b c M : Int) : Prop where
  h1 : M ≤ a
  h2 : M ≤ b
  h3 : M ≤ c
  h4 : M = a ∨ M = b ∨ M = c
theorem ints3 {a b c : Int} {t1 t2 t3 : Tok} : IntsAre [.int a t1, .int b t2, .int c t3] [a, b, c] := .cons _ _ (.cons _ _ (.cons _ _ .nil))
theorem max_list3 {y : Addr} {a b c M : Int} {t1 t2 t3 : Tok} {n : Nat} (hM : Mx a b c M) (F : Fr h₀ L s.heap m) (N : News h₀ L s.heap news) (hm : (y, W.listOf #[.int a t1, .int b t2, .int c t3] n) ∈ news) (hh : A.handled = none)
    (h : ∀ h' (t : Tok) tk, Fr h₀ L h' m → News h₀ L h' news → Q (.int M t) { s with heap := h', toks := tk }) : wpAny (model prog w) A (call (.builtin "max") [.ref y]) Q E s := by
  refine kso_max (vs := [.int a t1, .int b t2, .int c t3]) F N ⟨_, (N _ hm).1, rfl, n, rfl⟩ ints3 (Nat.succ_pos _) hh fun h' M' t tk F' N' hin hle => ?_
  have e : M' = M := by
    have q1 := hle a (by simp); have q2 := hle b (by simp); have q3 := hle c (by simp)
    simp only [List.mem_cons, List.not_mem_nil, or_false] at hin
    have := hM.h1; have := hM.h2; have := hM.h3; have := hM.h4
    omega
  rw [e]; exact h h' t tk F' N'
theorem min_list3 {y : Addr} {a b c M : Int} {t1 t2 t3 : Tok} {n : Nat} (hM : Mn a b c M) (F : Fr h₀ L s.heap m) (N : News h₀ L s.heap news) (hm : (y, W.listOf #[.int a t1, .int b t2, .int c t3] n) ∈ news) (hh : A.handled = none)
    (h : ∀ h' (t : Tok) tk, Fr h₀ L h' m → News h₀ L h' news → Q (.int M t) { s with heap := h', toks := tk }) : wpAny (model prog w) A (call (.builtin "min") [.ref y]) Q E s := by
  refine kso_min (vs := [.int a t1, .int b t2, .int c t3]) F N ⟨_, (N _ hm).1, rfl, n, rfl⟩ ints3 (Nat.succ_pos _) hh fun h' M' t tk F' N' hin hle => ?_
  have e : M' = M := by
    have q1 := hle a (by simp); have q2 := hle b (by simp); have q3 := hle c (by simp)
    simp only [List.mem_cons, List.not_mem_nil, or_false] at hin
    have := hM.h1; have := hM.h2; have := hM.h3; have := hM.h4
    omega
  rw [e]; exact h h' t tk F' N'
theorem exists_mx (a b c : Int) : ∃ M, Mx a b c M := by
  refine ⟨max a (max b c), ?_, ?_, ?_, ?_⟩ <;> omega
theorem exists_mn (a b c : Int) : ∃ M, Mn a b c M := by
  refine ⟨min a (min b c), ?_, ?_, ?_, ?_⟩ <;> omega
theorem three_floats {a b c : UInt64} {t u v : Tok} : ∀ x ∈ #[Value.float a t, Value.float b u, Value.float c v], ∃ f t, x = .float f t := by
  intro x hx
  simp only [List.mem_toArray, List.mem_cons, List.not_mem_nil, or_false] at hx
  rcases hx with rfl | rfl | rfl <;> exact ⟨_, _, rfl⟩
theorem three_size {a b c : Value} : (#[a, b, c] : Array Value).size ≤ sizeLine := by show 3 ≤ sizeLine; decide
theorem ne_nil {l b : Addr} {n n2 : Nat} (N : News h₀ L s.heap news) (m1 : (l, W.listOf #[] n) ∈ news) (m2 : (b, W.listOf #[] n2) ∈ news) (hu : A.units + 64 < cLine) (h : Q (.bool false) s) :
    wpAny (model prog w) A (compareOp .NotEq (.ref l) (.ref b)) Q E s :=
  ke_ne_ints (xs := []) (ys := []) ⟨_, (N _ m1).1, rfl, n, rfl⟩ ⟨_, (N _ m2).1, rfl, n2, rfl⟩ .nil .nil hu h
theorem ne_ints3 {l b : Addr} {n n2 : Nat} {x1 x2 x3 y1 y2 y3 : Int} {t1 t2 t3 u1 u2 u3 : Tok} (N : News h₀ L s.heap news) (m1 : (l, W.listOf #[.int x1 t1, .int x2 t2, .int x3 t3] n) ∈ news) (m2 : (b, W.listOf #[.int y1 u1, .int y2 u2, .int y3 u3] n2) ∈ news) (hu : A.units + 64 < cLine)
    (e1 : x1 = y1) (e2 : x2 = y2) (e3 : x3 = y3) (h : Q (.bool false) s) : wpAny (model prog w) A (compareOp .NotEq (.ref l) (.ref b)) Q E s := by
  subst e1 e2 e3
  refine ke_ne_ints (xs := [.int x1 t1, .int x2 t2, .int x3 t3]) (ys := [.int x1 u1, .int x2 u2, .int x3 u3]) ⟨_, (N _ m1).1, rfl, n, rfl⟩ ⟨_, (N _ m2).1, rfl, n2, rfl⟩ ints3 ints3 hu ?_
  simpa using h
theorem slice_told {value slice : PySem.Expr} {t : Addr} {n : Nat} {x1 x2 x3 : UInt64} {t1 t2 t3 u : Tok} (F : Fr h₀ L s.heap m) (N : News h₀ L s.heap news) (hm : (t, ({ cls := .type "tuple", data := .seq #[.float x1 t1, .float x2 t2, .float x3 t3] n } : Obj)) ∈ news)
    (h : ∀ D h', Fr h₀ L h' m → News h₀ L h' ((D, ({ cls := .type "tuple", data := .seq #[.float x2 t2, .float x3 t3] } : Obj)) :: news) → (∀ p ∈ news, p.1 ≠ D) → Q (.ref D) { s with heap := h' })
    (hs : subscripted slice false (.ref t) (.ref s.heap.objs.size) = operate [.ref s.heap.objs.size, .ref t] (getItem (.ref t) (.ref s.heap.objs.size)) := by with_unfolding_all rfl)
    (hg : ∀ r, letTemporaryGo value (.ref t) r = pure () := by intro _; with_unfolding_all rfl) :
    wpAny (model prog w) A (subscriptTail value slice (.ref t) (.ref s.heap.objs.size)) Q E { s with heap := s.heap.push { cls := .type "slice", data := .fields #[.int 1 u, .none, .none] } } :=
  slice_tuple_from (a := 1) (items := #[.float x1 t1, .float x2 t2, .float x3 t3]) F N (News.isTup N hm) (by decide) (by simp) (fun h' F' N' => h _ h' F' N' fun p hp e => by
    have := Heap.lt_size (N p hp).1
    rw [e] at this
    exact Nat.lt_irrefl _ (Nat.lt_of_succ_lt this)) hs hg three_size
theorem gen_toks {α : Type} {M : Model} {A : Around} {t : Sem α} {Q : α → Shared → Prop} {E : Value → Shared → Prop} {h : Heap} {g} {d} {X : Nat} {os} (hpos : X ≠ 0) (k : ∀ tk : Nat, tk ≠ 0 → wpAny M A t Q E ⟨h, g, d, tk, os⟩) : wpAny M A t Q E ⟨h, g, d, X, os⟩ := k X hpos
end
end
/-! MT -/
section
open PySem PySem.W PyProof.Rows PySem.Calls PySem.Flt
/-- tokens are never taken back -/
theorem runs_toks {M : Model} {Γ : Ctx} {p : Pos} {t : Sem Fin} {fs : List Frame} {s : Shared} {e : End} {s' : Shared} (h : Runs M Γ p t fs s e s') : s.toks ≤ s'.toks := by
  induction h with
  | done | raise | yield => exact Nat.le_refl _
  | again _ _ ih | rule _ ih | «at» _ ih | load _ _ ih | update _ _ ih | loadIfAlive _ ih | point _ ih | alloc _ ih | ask _ ih | choose _ _ ih | os _ ih | handled _ ih | genState _ _ ih | stack _ ih | thread _ ih | newGen _ ih => exact ih
  | fresh _ ih => exact Nat.le_trans (Nat.le_succ _) ih
  | call _ _ ih₁ ih₂ => exact Nat.le_trans ih₁ ih₂
  | callSusp _ ih => exact ih
  | resumeFresh _ _ _ _ ih₁ ih₂ => exact Nat.le_trans ih₁ ih₂
  | resumeSuspended _ _ _ _ ih₁ ih₂ => exact Nat.le_trans ih₁ ih₂
  | resumeJustStarted _ _ _ ih => exact ih
  | resumeThrowFresh _ _ ih => exact ih
  | resumeRunning _ _ ih => exact ih
  | resumeFinished _ _ ih => exact ih
  | segRet _ _ ih₁ ih₂ => exact Nat.le_trans ih₁ ih₂
  | segGen _ _ ih₁ ih₂ => exact Nat.le_trans ih₁ ih₂
  | segSuspOut _ _ ih => exact ih
  | segSuspGen _ _ _ _ ih₁ ih₂ => exact Nat.le_trans ih₁ ih₂
theorem wakes_toks {M : Model} {Γ : Ctx} {p : Pos} {g : Nat} {r : Resume} {s : Shared} {res : GenResult} {s' : Shared} (h : Wakes M Γ p g r s res s') : s.toks ≤ s'.toks := by
  unfold Wakes at h
  split at h
  · exact h.elim
  · split at h
    · obtain ⟨e₁, s₁, hr, _, _, rfl⟩ := h; have q := runs_toks hr; exact q
    · rw [h.2]; exact Nat.le_refl _
    · rw [h.2]; exact Nat.le_refl _
  · obtain ⟨e₁, s₁, hr, _, _, rfl⟩ := h; have q := runs_toks hr; exact q
  all_goals (rw [h.2]; exact Nat.le_refl _)
theorem wp_toks {α : Type} {M : Model} {Γ : Ctx} {t : Sem α} {Q : α → Pos → Shared → Prop} {E : Value → Pos → Shared → Prop} (n : Nat) (p : Pos) (s : Shared) (hn : n ≤ s.toks)
    (h : Sem.wp M Γ t (fun a p s' => n ≤ s'.toks → Q a p s') (fun e p s' => n ≤ s'.toks → E e p s') p s) : Sem.wp M Γ t Q E p s := by
  induction t generalizing p s with
  | pure x => exact h hn
  | raise v => exact h hn
  | unsupported | finish | yield | fork | await | register => exact h
  | rule _ k ih | «at» _ k ih | alloc _ k ih | loadIfAlive _ k ih | point _ k ih | ask k ih | os _ _ k ih | handled _ k ih | newGen _ k ih | stack k ih | thread k ih => exact ih _ _ _ hn h
  | fresh k ih => exact ih _ _ _ (Nat.le_trans hn (Nat.le_succ _)) h
  | load a _ k ih | genState a k ih => obtain ⟨o, ho, h⟩ := h; exact ⟨o, ho, ih _ _ _ hn h⟩
  | update a _ f k ih | choose _ _ k ih => obtain ⟨ha, h⟩ := h; exact ⟨ha, ih _ _ _ hn h⟩
  | call c hd g l k ih =>
    obtain ⟨r, s', hr, h⟩ := h
    exact ⟨r, s', hr, ih r _ _ (Nat.le_trans hn (runs_toks hr)) h⟩
  | resume g r l k ih =>
    obtain ⟨res, s', hw, h⟩ := h
    exact ⟨res, s', hw, ih res _ _ (Nat.le_trans hn (wakes_toks hw)) h⟩
theorem wpAny_pos {α : Type} {M : Model} {A : Around} {t : Sem α} {Q : α → Shared → Prop} {E : Value → Shared → Prop} {s : Shared} (hn : s.toks ≠ 0)
    (h : wpAny M A t (fun a s' => s'.toks ≠ 0 → Q a s') (fun e s' => s'.toks ≠ 0 → E e s') s) : wpAny M A t Q E s := fun Γ p hΓ => by
  refine wp_toks 1 p s (Nat.pos_of_ne_zero hn) ?_
  exact Sem.wp_mono M Γ t (fun a _ s' q e => q (by omega)) (fun a _ s' q e => q (by omega)) p s (h Γ p hΓ)
section
variable {prog : Program} {w : World} {A : Around} {E : Value → Shared → Prop} {s : Shared} {Q : Value → Shared → Prop} {h₀ : Heap} {L : Addr} {m : Str → Option Value} {news : List (Addr × Obj)}
theorem min_two_pos {a b : Int} {t u : Tok} (hs : s.toks ≠ 0) (hh : A.handled = none) (F : Fr h₀ L s.heap m) (N : News h₀ L s.heap news)
    (h : ∀ h' tk t', tk ≠ 0 → Fr h₀ L h' m → News h₀ L h' news → Q (.int (if b < a then b else a) t') { s with heap := h', toks := tk }) : wpAny (model prog w) A (call (.builtin "min") [.int a t, .int b u]) Q E s := by
  refine wpAny_pos hs (min_two_num hh (.int a t) (.int b u) fun h' tk kp hk => ?_)
  by_cases c : b < a
  · have := h h' tk u hk (F.grownK kp) (N.grown kp)
    rw [if_pos c] at this
    rw [if_pos (by simpa [ltV] using c)]; exact this
  · have := h h' tk t hk (F.grownK kp) (N.grown kp)
    rw [if_neg c] at this
    rw [if_neg (by simpa [ltV] using c)]; exact this
end
end
/-! MU -/
section
open PySem PySem.W PyProof.Rows PySem.Calls PySem.Flt
/-- the height of one corner's hill at a place of the ring -/
def ringWay (place n corner : Int) : Int := if (corner - place).fmod (6 * n) < (place - corner).fmod (6 * n) then (corner - place).fmod (6 * n) else (place - corner).fmod (6 * n)
def ringTop (place n corner : Int) : Int := if (2 * n - ringWay place n corner) < n then 2 * n - ringWay place n corner else n
def ringAt (place n corner : Int) : Int := if ringTop place n corner > 0 then ringTop place n corner else 0
/-- what is asked of a hue -/
structure Hue (x y z n : Int) (H : UInt64) (fine spot P r40 : Int) : Prop where
  hf : Int.fdiv (2 ^ Int.toNat 40) n = fine
  f0 : 0 < fine
  f1 : fine ≤ 1099511627776
  hbig : (6 * n * fine).natAbs < 2 ^ 64
  hfin : Float64.isFinite (Float64.mul (Float64.ofInt (6 * n * fine)) H) = true
  hspot : toInt Float64.nearestOf (Float64.mul (Float64.ofInt (6 * n * fine)) H) = spot
  hneg : (Float64.cmp H 0 == some .lt) = false
  hmod : Int.fmod spot fine = 0
  hdiv : Int.fdiv spot fine = P
  hP0 : 0 ≤ P
  hP1 : P < 6 * n
  r1 : ringAt P n 0 = x
  r2 : ringAt P n (2 * n) = y
  r3 : ringAt P n (4 * n) = z
  h40 : Int.fmod (2 ^ Int.toNat 40) n = r40
  hpow : r40 = 0 → Float64.cmp H (fdivI P (6 * n)) = some .eq
section
variable {prog : Program} {w : World} {A : Around} {E : Value → Shared → Prop} {s : Shared} {Q : Value → Shared → Prop} {h₀ : Heap} {L : Addr} {m : Str → Option Value} {news : List (Addr × Obj)}
theorem noPylong64 {x y : Int} (h : y.natAbs < 2 ^ 64) : Builtin.divisionGoesByPylong x y = false := by
  refine PyProof.noPylong_of_log2 ?_
  by_cases h0 : y.natAbs = 0
  · rw [h0]; decide +kernel
  · have h30 : y.natAbs.log2 < 64 := (Nat.log2_lt h0).mpr h
    omega
theorem fdiv_to {a b q : Int} {t u : Tok} (hb : b ≠ 0) (ha : b.natAbs < 2 ^ 64) (hq : a.fdiv b = q) (h : Q (.int q s.toks) { s with toks := s.toks + 1 }) : wpAny (model prog w) A (binaryOp .FloorDiv (.int a t) (.int b u)) Q E s :=
  floordiv_int hb (by rw [hq]; exact h) (Or.inl (noPylong64 ha))
theorem fmod_to {a b q : Int} {t u : Tok} (hb : b ≠ 0) (hq : a.fmod b = q) (h : Q (.int q s.toks) { s with toks := s.toks + 1 }) : wpAny (model prog w) A (binaryOp .Mod (.int a t) (.int b u)) Q E s :=
  mod_int hb (by rw [hq]; exact h)
theorem mulf_to {n : Int} {a : UInt64} {t u : Tok} (hn : n.natAbs < 2 ^ 64) (h : Q (.float (Float64.mul (Float64.ofInt n) a) s.toks) { s with toks := s.toks + 1 }) : wpAny (model prog w) A (binaryOp .Mult (.int n u) (.float a t)) Q E s :=
  mul_if_fits (Nat.lt_of_lt_of_le hn (Nat.pow_le_pow_right (by decide) (by decide))) h
theorem round_to {x : UInt64} {r : Int} {t : Tok} (hA : A.handled = none) (hx : Float64.isFinite x = true) (hr : toInt Float64.nearestOf x = r) (h : Q (.int r s.toks) { s with toks := s.toks + 1 }) : wpAny (model prog w) A (call (.builtin "round") [.float x t]) Q E s :=
  call_round_float hA (fun e => absurd e (by rw [not_nan_of_finite hx]; exact Bool.false_ne_true)) (fun e => absurd e (by rw [not_inf_of_finite hx]; exact Bool.false_ne_true)) (fun _ => by rw [hr]; exact h)
theorem told_at {value slice : PySem.Expr} {l : Addr} {vs : List Value} {n : Nat} {k : Int} {u : Tok} {j : Nat} {v : Value}
    (N : News h₀ L s.heap news) (hm : (l, ({ cls := .type "tuple", data := .seq vs.toArray n } : Obj)) ∈ news) (hlo : -(2 ^ 63) ≤ k) (hhi : k < 2 ^ 63) (hj : seqIndex? k vs.length = some j) (hx : vs[j]? = some v) (h : Q v s)
    (hs : subscripted slice false (.ref l) (.int k u) = operate [.ref l, .int k u] (getItem (.ref l) (.int k u)) := by with_unfolding_all rfl) :
    wpAny (model prog w) A (subscriptTail value slice (.ref l) (.int k u)) Q E s :=
  item_tupleT (News.isTup N hm) hlo hhi hj hx h hs
theorem ne_ff_to {x y : UInt64} {t u : Tok} (hc : Float64.cmp x y = some .eq) (h : Q (.bool false) s) : wpAny (model prog w) A (compareOp .NotEq (.float x t) (.float y u)) Q E s := by
  refine AutoFloatOps.ne_0 ?_
  rw [hc]; exact h
end
end
/-! ML -/
section
open PySem PySem.W PyProof.Rows PySem.Calls PySem.Flt
section
variable {prog : Program} {w : World} {A : Around} {E : Value → Shared → Prop} {s : Shared} {env : Env} {h₀ : Heap} {x : Str} {body : List Stmt} {Q : Flow → Shared → Prop}
/-- a loop over any range, by what holds between the turns -/
theorem range_iter {r : Addr} {a₀ b₀ c₀ : Int} {t₀ u₀ v₀ : Tok} {n : Nat} {m₀ : Str → Option Value} {news : List (Addr × Obj)} (J : Nat → (Str → Option Value) → List (Addr × Obj) → Prop)
    (hh : A.handled = none) (hr : IsRange s.heap r a₀ b₀ c₀ t₀ u₀ v₀) (hsmall : Builtin.Range.small a₀ b₀ c₀ = true) (hsz : Builtin.Range.rangeSize a₀ b₀ c₀ = (n : Int)) (F : Fr h₀ env.locals s.heap m₀) (N : News h₀ env.locals s.heap news) (hj : J 0 m₀ news)
    (turn : ∀ i t m₁ nx h tk own, i < n → OwnOff own (nx.map (·.1)) → J i m₁ nx → Fr h₀ env.locals h (fun y => if y = x then some (.int (a₀ + (i : Int) * c₀) t) else m₁ y) → News h₀ env.locals h (nx ++ own) →
      wpAny (model prog w) A (execs body env) (InvPostG h₀ env.locals (J (i + 1)) own { s with heap := h, toks := tk } Q) E { s with heap := h, toks := tk })
    (done : ∀ m₁ nx h tk, J n m₁ nx → Fr h₀ env.locals h m₁ → News h₀ env.locals h nx → Q .next { s with heap := h, toks := tk }) :
    wpAny (model prog w) A (pyIter (.ref r)) (fun it s₂ => LoopAtV prog w A h₀ env x body Q E it s₂) E s := by
  refine wpAny_pyIter_range hr hsmall ?_
  have W : Walks prog w A s.heap.objs.size [s.heap.objs.size] [s.heap.objs.size] n (fun i v => i < n ∧ ∃ t, v = .int (a₀ + i * c₀) t)
      (fun i h => IsRangeIter h s.heap.objs.size (a₀ + (i : Nat) * c₀) ((n : Int) - (i : Nat)) c₀) := (Walks.range hh _ a₀ c₀ n).bound
  refine kdr_loop (news := news) J W (fun _ h => h) (fun _ h => h) ?_ ?_ ?_ ?_ (by show IsRangeIter _ _ _ _ _; rw [hsz]; simpa using Heap.get?_push_size _ rfl) (F.push _) (fun p hp => ⟨Heap.get?_push_of_some _ (N p hp).1, (N p hp).2⟩) hj ?_ ?_
  · intro i h hi b hb
    rw [List.mem_singleton.mp hb]
    exact ⟨_, hi⟩
  · intro hm
    exact absurd F.ns.lt ((List.mem_singleton.mp hm) ▸ Nat.lt_irrefl _)
  · intro b hb
    rw [List.mem_singleton.mp hb]
    exact next_is_new F
  · intro p hp hI
    exact absurd (Heap.lt_size (N p hp).1) ((List.mem_singleton.mp hI) ▸ Nat.lt_irrefl _)
  · rintro i v m₁ nx h tk own hi ⟨_, t, rfl⟩ hoff hJ F₁ N₁
    exact turn i t m₁ nx h tk own hi hoff hJ F₁ N₁
  · rintro m₁ nx h tk hJ F₁ N₁
    exact done m₁ nx h tk hJ F₁ N₁
end
section
variable {prog : Program} {w : World} {A : Around} {E : Value → Shared → Prop} {s : Shared} {Q : Value → Shared → Prop}
theorem pow_to {e r : Int} {t u : Tok} (h0 : 0 ≤ e) (h1 : e ≤ 1000000) (hr : (2 : Int) ^ e.toNat = r) (h : Q (.int r s.toks) { s with toks := s.toks + 1 }) : wpAny (model prog w) A (binaryOp .Pow (.int 2 t) (.int e u)) Q E s :=
  pow_int_small h0 h1 (by decide) (by rw [hr]; exact h)
end
theorem pow2_mono {i j : Nat} (h : i ≤ j) : (2 : Int) ^ i ≤ 2 ^ j := by
  have := Nat.pow_le_pow_right (n := 2) (by decide) h
  exact_mod_cast this
theorem pow2_pos (i : Nat) : (1 : Int) ≤ 2 ^ i := by
  have := Nat.two_pow_pos i
  exact_mod_cast this
theorem allLt_mem {d : Addr} : ∀ {l : List (Addr × Obj)}, AllLt d l → ∀ p ∈ l, p.1 < d := by
  intro l
  induction l with
  | nil => intro _ p hp; cases hp
  | cons q r ih =>
    intro h p hp
    rcases List.mem_cons.mp hp with e | e
    · rw [e]; exact h.1
    · exact ih h.2 p e
theorem name_head {h₀ h : Heap} {L a : Addr} {o : Obj} {r : List (Addr × Obj)} {P : Prop} (_N : News h₀ L h ((a, o) :: r)) (k : ∀ C : Addr, C = a → P) : P := k a rfl
theorem name_pair {h₀ h : Heap} {L a : Addr} {o : Obj} {r : List (Addr × Obj)} {P : Prop} (_N : News h₀ L h ((a, o) :: r)) (k : ∀ q : Addr × Obj, q = (a, o) → P) : P := k _ rfl
theorem ints3_of {ws : List Value} {ns : List Int} (h : IntsAre ws ns) (hl : ns.length = 3) : ∃ a b c t1 t2 t3, ws = [.int a t1, .int b t2, .int c t3] := by
  cases h with
  | nil => cases hl
  | cons a t1 h =>
    cases h with
    | nil => cases hl
    | cons b t2 h =>
      cases h with
      | nil => cases hl
      | cons c t3 h =>
        cases h with
        | nil => exact ⟨a, b, c, t1, t2, t3, rfl⟩
        | cons _ _ _ => simp only [List.length_cons] at hl; omega
theorem fmod_range (a : Int) {b : Int} (h : 0 < b) : 0 ≤ a.fmod b ∧ a.fmod b < b := by
  rw [Int.fmod_eq_emod_of_nonneg _ (by omega)]
  exact ⟨Int.emod_nonneg _ (by omega), Int.emod_lt_of_pos _ h⟩
theorem small_three {a b : Int} (ha : 0 ≤ a) (ha' : a ≤ 1000) (hb : 0 ≤ b) (hb' : b ≤ 1000) : Builtin.Range.small a b 3 = true := by
  unfold Builtin.Range.small
  simp only [Builtin.Range.rangeSize, Builtin.Range.rangeFitsLong, Bool.and_eq_true, Bool.or_eq_true, decide_eq_true_eq, beq_iff_eq, show (3 : Int) > 0 by decide, if_true]
  split <;> omega
end
/-! MV -/
section
open PySem PySem.W PyProof.Rows PySem.Calls PySem.Flt
/-- the scope of «[.. for three in triples]» where three is closed over -/
abbrev scopeT : Scope := { kind := .function, names := [(".0", .local), ("three", .cell)], isGenerator := false, isCoroutine := false, more := [] }
/-- the end of a turn -/
def CEnd (h₀ : Heap) (L : Addr) (m : Str → Option Value) (s₁ : Shared) (own : List (Addr × Obj)) (J : Value → List (Addr × Obj) → Prop) (y : Value) (s₂ : Shared) : Prop :=
  ∃ h' tk nw, s₂ = { s₁ with heap := h', toks := tk } ∧ Fr h₀ L h' m ∧ News h₀ L h' (own ++ nw) ∧ OwnOff own (nw.map (·.1)) ∧ J y nw
section
variable {prog : Program} {w : World} {A : Around} {E : Value → Shared → Prop} {s : Shared} {h₀ : Heap} {L : Addr} {m : Str → Option Value} {env : Env}
theorem CEnd.intro {s₁ : Shared} {own all : List (Addr × Obj)} {J : Value → List (Addr × Obj) → Prop} {y : Value} {h' : Heap} {tk : Nat} (F : Fr h₀ L h' m) (N : News h₀ L h' all) (nw : List (Addr × Obj))
    (s1 : ∀ p ∈ own, p ∈ all) (s2 : ∀ p ∈ nw, p ∈ all) (off : OwnOff own (nw.map (·.1))) (hJ : J y nw) : CEnd h₀ L m s₁ own J y { s₁ with heap := h', toks := tk } :=
  ⟨h', tk, nw, rfl, F, fun p hp => (List.mem_append.mp hp).elim (fun q => N p (s1 p q)) (fun q => N p (s2 p q)), off, hJ⟩
theorem new_env_cell {env : Env} {Q : Env → Shared → Prop}
    (h : Q { scope := scopeT, locals := s.heap.objs.size, globals := env.globals, cells := [("three", s.heap.objs.size + 1)], qual := env.qual, func := none, code := env.code, frame := env.frame, builtins := env.builtins }
      { s with heap := (s.heap.push { cls := .type "dict", data := .dict #[] }).push { cls := .type "cell", data := .cell none } }) :
    wpAny (model prog w) A (newFunctionEnv scopeT env.globals [] [] env.qual none .none (some env)) Q E s := by
  unfold newFunctionEnv
  refine wpAny_bind (wpAny_alloc ?_)
  simp only [List.forIn_cons, List.forIn_nil, bind_assoc, pure_bind]
  rw [if_neg (by decide)]
  show wpAny _ _ (do
      let x ← if (NameKind.cell == NameKind.cell) = true then do
                  let __do_lift ← alloc { cls := Value.type "cell", data := Data.cell none }
                  pure (ForInStep.yield ((Str.ofString "three", __do_lift) :: []))
                else pure (ForInStep.yield [])
      _) _ _ _
  rw [if_pos (by decide)]
  refine wpAny_bind (wpAny_bind (wpAny_alloc (wpAny_pure ?_)))
  dsimp only
  refine wpAny_pure ?_
  have e : (s.heap.push { cls := Value.type (if (some env).isSome = true then "dict" else "frame"), data := Data.dict #[] }).objs.size = s.heap.objs.size + 1 := Heap.size_push ..
  simp only [e]
  exact h
/-- a comprehension by what holds between its turns -/
theorem comp_inv {elt : PySem.Expr} {x : Str} {scope : Scope} {cl : List (Str × Addr)} {S : List (Addr × Obj) → Prop} {P : Nat → Value → Prop} {Fin : List Value → List (Addr × Obj) → Prop} {n : Nat} {news : List (Addr × Obj)}
    (J : Nat → List Value → List (Addr × Obj) → Prop) (h0 : J 0 [] news) (hS : S news)
    (turn : ∀ i v ys nw I oI C oC D m₂ h tk (E' : Value → Shared → Prop), i < n → P i v → J i ys nw → S nw → LCg.NsObj oC m₂ → m₂ x = some v → Fr h₀ L h m → News h₀ L h ((I, oI) :: (C, oC) :: (D, LCg.lst ys) :: nw) → LCg.Off3 I C D nw → ((@Ne Nat I C) ∧ (@Ne Nat I D) ∧ (@Ne Nat C D)) →
      wpAny (model prog w) A (eval elt (compEnvC scope cl C env)) (LCg.CompEnd h₀ L m { s with heap := h, toks := tk } I oI C oC D (LCg.lst ys) S (fun y nw' => J (i + 1) (ys ++ [y]) nw')) E' { s with heap := h, toks := tk })
    (fin : ∀ ys nw, J n ys nw → Fin ys nw) : LCg.CompRest prog w A h₀ L m env elt x scope cl s S P Fin n 0 [] news := by
  have key : ∀ (j i : Nat) (ys : List Value) (nw : List (Addr × Obj)), i + j = n → J i ys nw → S nw → LCg.CompRest prog w A h₀ L m env elt x scope cl s S P Fin j i ys nw := by
    intro j
    induction j with
    | zero =>
      intro i ys nw hi hJ _
      have e : i = n := hi
      rw [e] at hJ
      exact LCg.CompRest.zero (fin ys nw hJ)
    | succ j ih =>
      intro i ys nw hi hJ hS
      refine LCg.CompRest.succ ?_
      intro v I oI C oC D m₂ h tk E' hv hC hx F N off ne
      refine wpAny_mono (turn i v ys nw I oI C oC D m₂ h tk E' (by omega) hv hJ hS hC hx F N off ne) (fun y s₂ hq => ?_) fun _ _ e => e
      obtain ⟨h', tk', nw', e, F', N', off', hS', hJ'⟩ := hq
      exact ⟨h', tk', nw', e, F', N', off', hS', ih (i + 1) _ _ (by omega) hJ' hS'⟩
  exact key n 0 [] news (Nat.zero_add _) h0 hS
theorem cell_loop {elt iter : PySem.Expr} {px pos : Pos} {RR : Value → Addr → Result → Shared → Prop} {H : Heap} {I D C cx ax : Addr} {vs : List Value} {k : Nat} {news : List (Addr × Obj)} {J : Nat → List Value → List (Addr × Obj) → Prop} {mC : Str → Option Value} (hh : A.handled = none)
    (F : Fr h₀ L s.heap m) (N : News h₀ L s.heap news) (hm : (ax, W.listOf vs.toArray k) ∈ news) (hsz : vs.length ≤ sizeLine) (hJ0 : J 0 [] news)
    (eI : H.get? I = some { cls := .type "list_iterator", data := .fields #[.ref ax, .int 0 0] }) (eD : H.get? D = some (LCg.lst [])) (eC : H.Ns C mC) (eX : H.get? cx = some { cls := .type "cell", data := .cell none })
    (old : ∀ b o, s.heap.get? b = some o → H.get? b = some o) (fI : s.heap.get? I = none) (fD : s.heap.get? D = none) (fC : s.heap.get? C = none) (fX : s.heap.get? cx = none)
    (nID : I ≠ D) (nIC : I ≠ C) (nIX : I ≠ cx) (nDC : D ≠ C) (nDX : D ≠ cx) (nCX : C ≠ cx)
    (turn : ∀ i v ys nw I oI C oC D cx oX h tk (E' : Value → Shared → Prop), vs[i]? = some v → J i ys nw → (ax, W.listOf vs.toArray k) ∈ nw → oX.data = .cell (some v) → Fr h₀ L h m →
         News h₀ L h ((cx, oX) :: (I, oI) :: (C, oC) :: (D, LCg.lst ys) :: nw) → OwnOff [(cx, oX), (I, oI), (C, oC), (D, LCg.lst ys)] (nw.map (·.1)) →
         wpAny (model prog w) A (eval elt (compEnvC scopeT [("three", cx)] C env)) (CEnd h₀ L m { s with heap := h, toks := tk } [(cx, oX), (I, oI), (C, oC), (D, LCg.lst ys)] (fun y nw' => (ax, W.listOf vs.toArray k) ∈ nw' ∧ J (i + 1) (ys ++ [y]) nw')) E' { s with heap := h, toks := tk })
    (hRR : ∀ ys nw h tk mC, J vs.length ys nw → Fr h₀ L h m → News h₀ L h ((D, LCg.lst ys) :: nw) → (∀ p ∈ nw, p.1 ≠ D) → h.Ns C mC → C ≠ L → h₀.get? C = none → (∀ p ∈ (D, LCg.lst ys) :: nw, p.1 ≠ C) → RR (.ref D) C (.ok .next) { s with heap := h, toks := tk }) :
    codeAny (model prog w) A (.compStart (.ListComp elt [⟨.Name "three" px, iter, [], 0⟩] scopeT pos) 0 (.ref I) (.ref D) (compEnvC scopeT [("three", cx)] C env)) (RR (.ref D) C) { s with heap := H } := by
  have none₀ : ∀ b, s.heap.get? b = none → h₀.get? b = none := fun b e => by
    cases q : h₀.get? b with
    | none => rfl
    | some o => rw [F.keep b o q] at e; cases e
  have offL : ∀ b, s.heap.get? b = none → b ≠ L := fun b e q => by
    obtain ⟨oL, _, _, hL, _⟩ := F.ns
    rw [q, hL] at e; cases e
  have offN : ∀ b, s.heap.get? b = none → ∀ p ∈ news, p.1 ≠ b := fun b e p hp q => by
    have := (N p hp).1
    rw [q, e] at this; cases this
  have hax : ax ≠ I := fun q => by have := (N _ hm).1; rw [q, fI] at this; cases this
  have Wk := Walks.list (prog := prog) (w := w) hh I ax hax vs.toArray
  have hn : vs.toArray.size = vs.length := List.size_toArray ..
  rw [hn] at Wk
  obtain ⟨oC, eC', hoC⟩ := LCg.ns_obj eC
  have loop : codeAny (model prog w) A (.compLoop (.ListComp elt [⟨.Name "three" px, iter, [], 0⟩] scopeT pos) 0 (.ref I) (.ref D) (compEnvC scopeT [("three", cx)] C env)) (RR (.ref D) C) { s with heap := H } := by
    refine codeAny_compLoop_tests
      (fun kk s' => ∃ h' tk i ys oX nw, s' = { s with heap := h', toks := tk } ∧ i ≤ vs.length ∧ kk = vs.length + 1 - i ∧ ys.length = i ∧ (h'.IsListIter I ax i ∧ h'.IsList ax vs.toArray) ∧ Fr h₀ L h' m ∧ News h₀ L h' ((cx, oX) :: (C, oC) :: (D, LCg.lst ys) :: nw) ∧ (∃ v₀, oX.data = .cell v₀) ∧
        (∀ p ∈ nw, p.1 ≠ cx ∧ p.1 ≠ I ∧ p.1 ≠ C ∧ p.1 ≠ D) ∧ (ax, W.listOf vs.toArray k) ∈ nw ∧ J i ys nw) ?_ (vs.length + 1)
      ⟨H, s.toks, 0, [], { cls := .type "cell", data := .cell none }, news, rfl, Nat.zero_le _, rfl, rfl, ⟨⟨_, eI, rfl, rfl⟩, _, old _ _ (N _ hm).1, rfl, k, rfl⟩, F.keeps old, fun p hp => ?_, ⟨none, rfl⟩, fun p hp => ⟨offN _ fX p hp, offN _ fI p hp, offN _ fC p hp, offN _ fD p hp⟩, hm, hJ0⟩
    · rintro kk s' ⟨h', tk, i, ys, oX, nw, rfl, hi, rfl, hyl, hst', F', N', ⟨v₀, hX⟩, off', hm', hJ⟩
      by_cases hlt : i < vs.length
      · refine Wk.item i _ _ _ hlt hst' fun v h₂ tk₂ hPv hst₂ hk₂ => ?_
        have zX := N' (cx, oX) (.head _)
        have zC := N' (C, oC) (.tail _ (.head _))
        have zD := N' (D, LCg.lst ys) (.tail _ (.tail _ (.head _)))
        have k2 : ∀ b o, b ≠ I → h'.get? b = some o → h₂.get? b = some o := fun b o hb e => hk₂ b o (by simpa using hb) e
        refine wpAny_assign_Name (wpAny_storeName_cell (c := cx) rfl rfl rfl ⟨oX, k2 _ _ (Ne.symm nIX) zX.1, hX⟩ fun h₃ hv₃ hs₃ => ?_)
        obtain ⟨oX', eX', hX'⟩ := hv₃
        refine wpAny_tests_nil ?_
        simp only [if_true]
        have k3 : ∀ b o, b ≠ I → b ≠ cx → h'.get? b = some o → h₃.get? b = some o := fun b o h1 h2 e => hs₃.extBut b o h2 (k2 b o h1 e)
        obtain ⟨oI, heI, hIt⟩ := hst₂.1
        have heI3 : h₃.get? I = some oI := hs₃.extBut _ _ nIX heI
        have hst₃ : h₃.IsListIter I ax (i + 1) ∧ h₃.IsList ax vs.toArray := by
          refine ⟨⟨oI, heI3, hIt⟩, ?_⟩
          have q := off' _ hm'
          exact ⟨_, k3 _ _ q.2.1 q.1 (N' _ (.tail _ (.tail _ (.tail _ hm')))).1, rfl, k, rfl⟩
        have F₃ : Fr h₀ L h₃ m := by
          refine ⟨F'.ns.at' fun o e => k3 _ _ (Ne.symm (offL _ fI)) (Ne.symm (offL _ fX)) e, fun b o e => k3 b o (fun q => ?_) (fun q => ?_) (F'.keep b o e), F'.above⟩
          · rw [q, none₀ _ fI] at e; cases e
          · rw [q, none₀ _ fX] at e; cases e
        have N₃ : News h₀ L h₃ ((cx, oX') :: (I, oI) :: (C, oC) :: (D, LCg.lst ys) :: nw) := fun p hp => by
          rcases List.mem_cons.mp hp with rfl | hp
          · exact ⟨eX', zX.2⟩
          rcases List.mem_cons.mp hp with rfl | hp
          · exact ⟨heI3, offL _ fI, none₀ _ fI⟩
          rcases List.mem_cons.mp hp with rfl | hp
          · exact ⟨k3 _ _ (Ne.symm nIC) nCX zC.1, zC.2⟩
          rcases List.mem_cons.mp hp with rfl | hp
          · exact ⟨k3 _ _ (Ne.symm nID) nDX zD.1, zD.2⟩
          · have z := N' p (.tail _ (.tail _ (.tail _ hp)))
            exact ⟨k3 _ _ (off' p hp).2.1 (off' p hp).1 z.1, z.2⟩
        have hoff : OwnOff [(cx, oX'), (I, oI), (C, oC), (D, LCg.lst ys)] (nw.map (·.1)) := fun p hp b hb e => by
          obtain ⟨q, hq, rfl⟩ := List.mem_map.mp hb
          have := off' q hq
          simp only [List.mem_cons, List.not_mem_nil, or_false] at hp
          rcases hp with rfl | rfl | rfl | rfl
          · exact this.1 e.symm
          · exact this.2.1 e.symm
          · exact this.2.2.1 e.symm
          · exact this.2.2.2 e.symm
        refine wpAny_mono (turn i v ys nw I oI C oC D cx oX' h₃ _ _ (by simpa using hPv) hJ hm' hX' F₃ N₃ hoff) (fun y s₄ h₄ => ?_) fun _ _ e => e
        obtain ⟨h₄, tk₄, nw₄, rfl, F₄, N₄, off₄, hm₄, hJ₄⟩ := h₄
        have yX := N₄ (cx, oX') (.head _)
        have yI := N₄ (I, oI) (.tail _ (.head _))
        have yC := N₄ (C, oC) (.tail _ (.tail _ (.head _)))
        have yD := N₄ (D, LCg.lst ys) (.tail _ (.tail _ (.tail _ (.head _))))
        have offq : ∀ p ∈ nw₄, p.1 ≠ cx ∧ p.1 ≠ I ∧ p.1 ≠ C ∧ p.1 ≠ D := fun p hp =>
          have hb := List.mem_map_of_mem (f := (·.1)) hp
          ⟨fun e => off₄ _ (.head _) _ hb e.symm, fun e => off₄ _ (.tail _ (.head _)) _ hb e.symm, fun e => off₄ _ (.tail _ (.tail _ (.head _))) _ hb e.symm, fun e => off₄ _ (.tail _ (.tail _ (.tail _ (.head _)))) _ hb e.symm⟩
        refine append_at (hsz := by show ys.toArray.size ≤ sizeLine; rw [List.size_toArray, hyl]; exact Nat.le_trans hi hsz) yD.1 fun h₅ hs₅ hD₅ => ?_
        have k5 : ∀ b o, b ≠ D → h₄.get? b = some o → h₅.get? b = some o := fun b o hb e => hs₅.extBut b o hb e
        refine ⟨vs.length + 1 - (i + 1), by omega, h₅, tk₄, i + 1, ys ++ [y], oX', nw₄, rfl, hlt, rfl, by rw [List.length_append, List.length_singleton, hyl], ⟨⟨oI, k5 _ _ nID yI.1, hIt⟩, ?_⟩, F₄.change hs₅ (offL _ fD) (none₀ _ fD), fun p hp => ?_, ⟨_, hX'⟩, offq, hm₄, hJ₄⟩
        · exact ⟨_, k5 _ _ (offq _ hm₄).2.2.2 (N₄ _ (.tail _ (.tail _ (.tail _ (.tail _ hm₄))))).1, rfl, k, rfl⟩
        · rcases List.mem_cons.mp hp with rfl | hp
          · exact ⟨k5 _ _ (Ne.symm nDX) yX.1, yX.2⟩
          rcases List.mem_cons.mp hp with rfl | hp
          · exact ⟨k5 _ _ (Ne.symm nDC) yC.1, yC.2⟩
          rcases List.mem_cons.mp hp with rfl | hp
          · exact ⟨hD₅.trans (congrArg some (LCg.lst_snoc ys y)), yD.2⟩
          · have z := N₄ p (.tail _ (.tail _ (.tail _ (.tail _ hp))))
            exact ⟨k5 _ _ (offq p hp).2.2.2 z.1, z.2⟩
      · obtain rfl : i = vs.length := Nat.le_antisymm hi (Nat.not_lt.mp hlt)
        refine Wk.done _ _ _ hst' fun h₂ tk₂ hk₂ => ?_
        have zC := N' (C, oC) (.tail _ (.head _))
        have zD := N' (D, LCg.lst ys) (.tail _ (.tail _ (.head _)))
        have k2 : ∀ b o, b ≠ I → h'.get? b = some o → h₂.get? b = some o := fun b o hb e => hk₂ b o (by simpa using hb) e
        refine hRR ys nw h₂ tk₂ _ hJ (LCg.fr_but F' hk₂ (Ne.symm (offL _ fI)) (none₀ _ fI)) (fun p hp => ?_) (fun p hp => (off' p hp).2.2.2) (hoC.ns (k2 _ _ (Ne.symm nIC) zC.1)) (offL _ fC) (none₀ _ fC) (fun p hp => ?_)
        · rcases List.mem_cons.mp hp with rfl | hp
          · exact ⟨k2 _ _ (Ne.symm nID) zD.1, zD.2⟩
          · have z := N' p (.tail _ (.tail _ (.tail _ hp)))
            exact ⟨k2 _ _ (off' p hp).2.1 z.1, z.2⟩
        · rcases List.mem_cons.mp hp with rfl | hp
          · exact nDC
          · exact (off' p hp).2.2.1
    · rcases List.mem_cons.mp hp with rfl | hp
      · exact ⟨eX, offL _ fX, none₀ _ fX⟩
      rcases List.mem_cons.mp hp with rfl | hp
      · exact ⟨eC', offL _ fC, none₀ _ fC⟩
      rcases List.mem_cons.mp hp with rfl | hp
      · exact ⟨eD, offL _ fD, none₀ _ fD⟩
      · exact ⟨old _ _ (N p hp).1, (N p hp).2⟩
  exact codeAny_compStart_list loop (Wk.self 0 _ _ _ ⟨⟨_, eI, rfl, rfl⟩, _, old _ _ (N _ hm).1, rfl, k, rfl⟩ loop)
/-- a comprehension whose target is closed over -/
theorem comp_cell {elt iter : PySem.Expr} {px pos : Pos} {Q : Value → Shared → Prop} (_F₀ : Fr h₀ L s.heap m) (hh : A.handled = none) (hclos : closureFor scopeT env = pure [])
    (h : wpAny (model prog w) A (eval iter env) (fun xv s₁ => ∃ ax vs k, ∃ news : List (Addr × Obj), ∃ J : Nat → List Value → List (Addr × Obj) → Prop, xv = .ref ax ∧ Fr h₀ L s₁.heap m ∧ News h₀ L s₁.heap news ∧ (ax, W.listOf (List.toArray vs) k) ∈ news ∧ vs.length ≤ sizeLine ∧ J 0 [] news ∧
      (∀ i v ys nw I oI C oC D cx oX h tk (E' : Value → Shared → Prop), vs[i]? = some v → J i ys nw → (ax, W.listOf vs.toArray k) ∈ nw → oX.data = .cell (some v) → Fr h₀ L h m →
         News h₀ L h ((cx, oX) :: (I, oI) :: (C, oC) :: (D, LCg.lst ys) :: nw) → OwnOff [(cx, oX), (I, oI), (C, oC), (D, LCg.lst ys)] (nw.map (·.1)) →
         wpAny (model prog w) A (eval elt (compEnvC scopeT [("three", cx)] C env)) (CEnd h₀ L m { s₁ with heap := h, toks := tk } [(cx, oX), (I, oI), (C, oC), (D, LCg.lst ys)] (fun y nw' => (ax, W.listOf vs.toArray k) ∈ nw' ∧ J (i + 1) (ys ++ [y]) nw')) E' { s₁ with heap := h, toks := tk }) ∧
      (∀ ys nw D h tk, J vs.length ys nw → Fr h₀ L h m → News h₀ L h ((D, LCg.lst ys) :: nw) → (∀ p ∈ nw, p.1 ≠ D) → Q (.ref D) { s₁ with heap := h, toks := tk })) E s)
    (hs : ∀ x, foldedSetIterable iter env x = pure x := by intro _; rfl) :
    wpAny (model prog w) A (eval (.ListComp elt [⟨.Name "three" px, iter, [], 0⟩] scopeT pos) env) Q E s := by
  rw [eval_ListComp]
  refine wpAny_comprehension_free (cl := []) (use := none) rfl hs hclos rfl (by decide) (wpAny_mono h (fun xv s₁ h₁ => ?_) fun _ _ e => e)
  obtain ⟨ax, vs, k, news, J, rfl, F, N, hm, hsz, hJ0, turn, done⟩ := h₁
  have hl : s₁.heap.IsList ax vs.toArray := ⟨_, (N _ hm).1, rfl, k, rfl⟩
  have hlt : ax < s₁.heap.objs.size := Heap.lt_size (N _ hm).1
  refine wpAny_pyIter_list hl (wpAny_newObj_type (new_env_cell ?_))
  dsimp only
  have s1 : (s₁.heap.push { cls := .type "list_iterator", data := .fields #[.ref ax, .int 0 0] }).objs.size = s₁.heap.objs.size + 1 := Heap.size_push ..
  have s2 : ((s₁.heap.push { cls := .type "list_iterator", data := .fields #[.ref ax, .int 0 0] }).push { cls := .type "list", data := .seq #[] }).objs.size = s₁.heap.objs.size + 2 := by rw [Heap.size_push, s1]
  have s3 : (((s₁.heap.push { cls := .type "list_iterator", data := .fields #[.ref ax, .int 0 0] }).push { cls := .type "list", data := .seq #[] }).push { cls := .type "dict", data := .dict #[] }).objs.size = s₁.heap.objs.size + 3 := by rw [Heap.size_push, s2]
  have fresh : ∀ j, s₁.heap.get? (s₁.heap.objs.size + j) = none := fun j => by
    cases e : s₁.heap.get? (s₁.heap.objs.size + j) with
    | none => rfl
    | some o => exact absurd (Heap.lt_size e) (Nat.not_lt.mpr (Nat.le_add_right _ _))
  have ne : ∀ i j : Nat, i < j → (s₁.heap.objs.size + i : Nat) ≠ s₁.heap.objs.size + j := fun i j h => Nat.ne_of_lt (Nat.add_lt_add_left h _)
  have zI := Heap.get?_push_size s₁.heap (o := ({ cls := .type "list_iterator", data := .fields #[.ref ax, .int 0 0] } : Obj)) rfl
  have zD := Heap.get?_push_size (s₁.heap.push { cls := .type "list_iterator", data := .fields #[.ref ax, .int 0 0] }) (o := ({ cls := .type "list", data := .seq #[] } : Obj)) rfl
  have zC := Heap.Ns.new ((s₁.heap.push { cls := .type "list_iterator", data := .fields #[.ref ax, .int 0 0] }).push { cls := .type "list", data := .seq #[] }) (.type "dict")
  have zX := Heap.get?_push_size (((s₁.heap.push { cls := .type "list_iterator", data := .fields #[.ref ax, .int 0 0] }).push { cls := .type "list", data := .seq #[] }).push { cls := .type "dict", data := .dict #[] }) (o := ({ cls := .type "cell", data := .cell none } : Obj)) rfl
  rw [s1] at zD ⊢
  rw [s2] at zC ⊢
  rw [s3] at zX
  refine cell_loop (s := s₁) (RR := fun acc C => compPost (model prog w) A E none Q acc C) hh F N hm hsz hJ0 (Heap.get?_push_of_some _ (Heap.get?_push_of_some _ (Heap.get?_push_of_some _ zI))) (Heap.get?_push_of_some _ (Heap.get?_push_of_some _ zD)) (zC.at' fun o e => Heap.get?_push_of_some _ e) zX
    (fun b o e => Heap.get?_push_of_some _ (Heap.get?_push_of_some _ (Heap.get?_push_of_some _ (Heap.get?_push_of_some _ e)))) (fresh 0) (fresh 1) (fresh 2) (fresh 3) (ne 0 1 (by decide)) (ne 0 2 (by decide)) (ne 0 3 (by decide)) (ne 1 2 (by decide)) (ne 1 3 (by decide)) (ne 2 3 (by decide)) turn ?_
  intro ys nw h tk mC hJ F' N' off hC hCL hC₀ offC
  refine ⟨mC, hC, fun h'' hs'' => done ys nw _ h'' tk hJ (F'.change hs'' hCL hC₀) (fun p hp => ⟨hs''.extBut _ _ (offC p hp) (N' p hp).1, (N' p hp).2⟩) off⟩
end
end
/-! MW -/
section
open PySem PySem.W PyProof.Rows PySem.Calls PySem.Flt
/-- a row of three ints from 0 to 2 ^ 40, laid in a ledger -/
def Row40 (led : List (Addr × Obj)) (v : Value) : Prop :=
  ∃ y a b c t1 t2 t3 k, v = .ref y ∧ (y, W.listOf #[.int a t1, .int b t2, .int c t3] k) ∈ led ∧ 0 ≤ a ∧ a ≤ 1099511627776 ∧ 0 ≤ b ∧ b ≤ 1099511627776 ∧ 0 ≤ c ∧ c ≤ 1099511627776
theorem Row40.mono {led led' : List (Addr × Obj)} {v : Value} (h : Row40 led v) (hs : ∀ p ∈ led, p ∈ led') : Row40 led' v := by
  obtain ⟨y, a, b, c, t1, t2, t3, k, e, hm, r⟩ := h
  exact ⟨y, a, b, c, t1, t2, t3, k, e, hs _ hm, r⟩
theorem keep_map2 {m₁ : Str → Option Value} {x1 x2 : Str} {v1 v2 : Value} (h1 : m₁ x1 = some v1) (h2 : m₁ x2 = some v2) :
    m₁ = fun y => if y = x1 then some v1 else if y = x2 then some v2 else m₁ y := by
  funext y
  by_cases e1 : y = x1
  · rw [if_pos e1, e1, h1]
  · rw [if_neg e1]
    by_cases e2 : y = x2
    · rw [if_pos e2, e2, h2]
    · rw [if_neg e2]
/-- between the turns of the first comprehension -/
def Made (base : List (Addr × Obj)) (i : Nat) (ys : List Value) (nw : List (Addr × Obj)) : Prop := ys.length = i ∧ (∀ v ∈ ys, Row40 nw v) ∧ ∀ p ∈ base, p ∈ nw
theorem Made.snoc {base : List (Addr × Obj)} {i : Nat} {ys : List Value} {nw : List (Addr × Obj)} {y : Addr} {a b c : Int} {t1 t2 t3 : Tok} {k : Nat} (h : Made base i ys nw) (ha : 0 ≤ a ∧ a ≤ 2) (hb : 0 ≤ b ∧ b ≤ 2) (hc : 0 ≤ c ∧ c ≤ 2) :
    Made base (i + 1) (ys ++ [.ref y]) ((y, W.listOf #[.int a t1, .int b t2, .int c t3] k) :: nw) := by
  obtain ⟨h1, h2, h3⟩ := h
  refine ⟨by rw [List.length_append, h1]; rfl, fun v hv => ?_, fun p hp => .tail _ (h3 p hp)⟩
  rcases List.mem_append.mp hv with hv | hv
  · exact (h2 v hv).mono fun p hp => .tail _ hp
  · rw [List.mem_singleton.mp hv]
    exact ⟨_, _, _, _, _, _, _, _, rfl, .head _, ha.1, Int.le_trans ha.2 (by decide), hb.1, Int.le_trans hb.2 (by decide), hc.1, Int.le_trans hc.2 (by decide)⟩
/-- between the turns of the building loop -/
def BuiltT (C c : Addr) (cell : List (Addr × Obj)) (nm : Str) (n : Nat) (m : Str → Option Value) (nx : List (Addr × Obj)) : Prop :=
  ∃ arr nn tl, nx = (C, W.listOf arr nn) :: tl ∧ arr.size ≤ n ∧ (∀ p ∈ tl, p.1 ≠ C) ∧ (∀ p ∈ cell, p ∈ tl) ∧ (∀ v ∈ arr, Row40 tl v) ∧ m nm = some (.ref c) ∧ m "triples" = some (.ref C)
theorem builtT_intro {g : Heap} {L : Addr} {h' : Heap} {m' : Str → Option Value} {C c : Addr} {cell : List (Addr × Obj)} {nm : Str} {n : Nat} {own tl R adds news' : List (Addr × Obj)} {tk : Nat} {s₁ : Shared} {arr : Array Value} {nn : Nat}
    (F : Fr g L h' m') (N : News g L h' news') (hR : R = tl ++ own) (hoff : OwnOff own (C :: tl.map (·.1))) (hC : (C, W.listOf arr nn) ∈ news') (hadds : ∀ p ∈ adds, p ∈ news') (hsub : ∀ p ∈ R, p ∈ news')
    (hne : ∀ p ∈ adds, p.1 ≠ C) (htl : ∀ p ∈ tl, p.1 ≠ C) (hlt : ∀ q ∈ adds, ∀ p ∈ R, p.1 ≠ q.1) (hsz : arr.size ≤ n) (hcell : ∀ p ∈ cell, p ∈ tl) (hrows : ∀ v ∈ arr, Row40 (adds ++ tl) v)
    (q1 : m' nm = some (.ref c)) (q4 : m' "triples" = some (.ref C)) :
    InvEndG g L (fun m nx => BuiltT C c cell nm n m nx) own s₁ { s₁ with heap := h', toks := tk } := by
  refine InvEndG.intro (nx := (C, W.listOf arr nn) :: (adds ++ tl)) F N ⟨arr, nn, adds ++ tl, rfl, hsz, ?_, fun p hp => List.mem_append_right _ (hcell p hp), hrows, q1, q4⟩ ?_ ?_ ?_
  · intro p hp
    rcases List.mem_append.mp hp with hp | hp
    · exact hne p hp
    · exact htl p hp
  · intro p hp b hb
    rcases List.mem_cons.mp hb with rfl | hb
    · exact hoff p hp _ (List.mem_cons_self ..)
    · obtain ⟨q, hq, rfl⟩ := List.mem_map.mp hb
      rcases List.mem_append.mp hq with hq | hq
      · exact hlt q hq p (hR ▸ List.mem_append_right _ hp)
      · exact hoff p hp _ (List.mem_cons_of_mem _ (List.mem_map_of_mem hq))
  · intro p hp
    rcases List.mem_cons.mp hp with rfl | hp
    · exact hC
    · rcases List.mem_append.mp hp with hp | hp
      · exact hadds p hp
      · exact hsub p (hR ▸ List.mem_append_left _ hp)
  · intro p hp
    exact hsub p (hR ▸ List.mem_append_right _ hp)
theorem off3_cons {I C D y : Addr} {o : Obj} {l : List (Addr × Obj)} (h : LCg.Off3 I C D l) (h1 : y ≠ I) (h2 : y ≠ C) (h3 : y ≠ D) : LCg.Off3 I C D ((y, o) :: l) := ⟨⟨h1, h2, h3⟩, h⟩
theorem name_cell {o : Obj} {v : Option Value} {P : Prop} (_h : o.data = .cell v) (k : ∀ o' : Obj, o' = o → P) : P := k o rfl
theorem rot3 {α : Type} (a b c d : α) (l : List α) : ∀ p ∈ a :: b :: c :: (d :: l), p ∈ d :: a :: b :: c :: l := fun p hp => by
  rcases List.mem_cons.mp hp with rfl | hp
  · exact .tail _ (.head _)
  rcases List.mem_cons.mp hp with rfl | hp
  · exact .tail _ (.tail _ (.head _))
  rcases List.mem_cons.mp hp with rfl | hp
  · exact .tail _ (.tail _ (.tail _ (.head _)))
  rcases List.mem_cons.mp hp with rfl | hp
  · exact .head _
  · exact .tail _ (.tail _ (.tail _ (.tail _ hp)))
/-- the end of one item's reckoning -/
def ElEnd (h₀ : Heap) (L : Addr) (m : Str → Option Value) (s₁ : Shared) (led : List (Addr × Obj)) (G : Value → Prop) (y : Value) (s₂ : Shared) : Prop :=
  ∃ h' tk, s₂ = { s₁ with heap := h', toks := tk } ∧ Fr h₀ L h' m ∧ News h₀ L h' led ∧ G y
section
variable {prog : Program} {w : World} {A : Around} {s : Shared} {h₀ : Heap} {L : Addr} {m : Str → Option Value} {env : Env}
/-- a comprehension over three ints whose items make nothing -/
theorem comp_map3 {elt : PySem.Expr} {x : Str} {scope : Scope} {cl : List (Str × Addr)} {S : List (Addr × Obj) → Prop} {Fin : List Value → List (Addr × Obj) → Prop} {news : List (Addr × Obj)} {a b c : Int} {ta tb tc : Tok} (G : Int → Value → Prop) (hS : S news)
    (turn : ∀ k t I oI C oC D m₂ ys h tk (E' : Value → Shared → Prop), (k = a ∨ k = b ∨ k = c) → LCg.NsObj oC m₂ → m₂ x = some (.int k t) → Fr h₀ L h m → News h₀ L h ((I, oI) :: (C, oC) :: (D, LCg.lst ys) :: news) →
      wpAny (model prog w) A (eval elt (compEnvC scope cl C env)) (ElEnd h₀ L m { s with heap := h, toks := tk } ((I, oI) :: (C, oC) :: (D, LCg.lst ys) :: news) (G k)) E' { s with heap := h, toks := tk })
    (fin : ∀ y0 y1 y2, G a y0 → G b y1 → G c y2 → Fin [y0, y1, y2] news) :
    LCg.CompRest prog w A h₀ L m env elt x scope cl s S (fun i v => (List.toArray [Value.int a ta, Value.int b tb, Value.int c tc])[i]? = some v) Fin (List.toArray [Value.int a ta, Value.int b tb, Value.int c tc]).size 0 [] news := by
  have step : ∀ (j i : Nat) (k : Int) (t : Tok) (ys : List Value), (k = a ∨ k = b ∨ k = c) → (List.toArray [Value.int a ta, Value.int b tb, Value.int c tc])[i]? = some (.int k t) →
      (∀ y, G k y → LCg.CompRest prog w A h₀ L m env elt x scope cl s S (fun i v => (List.toArray [Value.int a ta, Value.int b tb, Value.int c tc])[i]? = some v) Fin j (i + 1) (ys ++ [y]) news) →
      LCg.CompRest prog w A h₀ L m env elt x scope cl s S (fun i v => (List.toArray [Value.int a ta, Value.int b tb, Value.int c tc])[i]? = some v) Fin (j + 1) i ys news := by
    intro j i k t ys hk hat next
    refine LCg.CompRest.succ ?_
    intro v I oI C oC D m₂ h tk E' hv hC hx F N off ne
    have e : v = .int k t := Option.some.inj (hv.symm.trans hat)
    subst e
    refine wpAny_mono (turn k t I oI C oC D m₂ ys h tk E' hk hC hx F N) (fun y s₂ hq => ?_) fun _ _ e => e
    obtain ⟨h', tk', e, F', N', hG⟩ := hq
    exact ⟨h', tk', news, e, F', N', off, hS, next y hG⟩
  show LCg.CompRest prog w A h₀ L m env elt x scope cl s S _ Fin 3 0 [] news
  refine step 2 0 a ta [] (.inl rfl) rfl fun y0 g0 => ?_
  refine step 1 1 b tb [y0] (.inr (.inl rfl)) rfl fun y1 g1 => ?_
  refine step 0 2 c tc [y0, y1] (.inr (.inr rfl)) rfl fun y2 g2 => ?_
  exact LCg.CompRest.zero (fin y0 y1 y2 g0 g1 g2)
end
/-- what three components lack of one: the least even, none far from it -/
def Lacks (a b c : Int) : Prop := ∃ near far, Mn a b c near ∧ Mx a b c far ∧ 0 ≤ near ∧ near % 2 = 0 ∧ far ≤ 1099511627777 ∧ far - near ≤ 1099511627776
theorem lacks_of {a b c mn : Int} (a0 : 0 ≤ a) (a1 : a ≤ 1099511627776) (b0 : 0 ≤ b) (b1 : b ≤ 1099511627776) (c0 : 0 ≤ c) (c1 : c ≤ 1099511627776) (h : Mn a b c mn) : Lacks (a + mn.fmod 2) (b + mn.fmod 2) (c + mn.fmod 2) := by
  obtain ⟨M, hM⟩ := exists_mx a b c
  rw [Int.fmod_eq_emod_of_nonneg _ (by decide)]
  obtain ⟨h1, h2, h3, h4⟩ := h
  obtain ⟨g1, g2, g3, g4⟩ := hM
  refine ⟨mn + mn % 2, M + mn % 2, ⟨by omega, by omega, by omega, ?_⟩, ⟨by omega, by omega, by omega, ?_⟩, ?_, by omega, ?_, ?_⟩
  · rcases h4 with q | q | q
    · exact .inl (by rw [q])
    · exact .inr (.inl (by rw [q]))
    · exact .inr (.inr (by rw [q]))
  · rcases g4 with q | q | q
    · exact .inl (by rw [q])
    · exact .inr (.inl (by rw [q]))
    · exact .inr (.inr (by rw [q]))
  · have : 0 ≤ mn := by rcases h4 with q | q | q <;> omega
    omega
  · have : M ≤ 1099511627776 := by rcases g4 with q | q | q <;> omega
    omega
  · have : M ≤ 1099511627776 := by rcases g4 with q | q | q <;> omega
    have : 0 ≤ mn := by rcases h4 with q | q | q <;> omega
    omega
def RowL (led : List (Addr × Obj)) (v : Value) : Prop := ∃ y a b c t1 t2 t3 k, v = .ref y ∧ (y, W.listOf #[.int a t1, .int b t2, .int c t3] k) ∈ led ∧ Lacks a b c
theorem RowL.mono {led led' : List (Addr × Obj)} {v : Value} (h : RowL led v) (hs : ∀ p ∈ led, p ∈ led') : RowL led' v := by
  obtain ⟨y, a, b, c, t1, t2, t3, k, e, hm, r⟩ := h
  exact ⟨y, a, b, c, t1, t2, t3, k, e, hs _ hm, r⟩
theorem own4 {α : Type} {a b c d p : α} {l : List α} (h : p ∈ [a, b, c, d]) : p ∈ a :: b :: c :: d :: l := List.mem_append_left (as := [a, b, c, d]) l h
/-- what stands behind a call that made a list of rows: two cells, the list, the rows -/
theorem led_two {h₀ : Heap} {L : Addr} {s : Shared} {m : Str → Option Value} {h₂ : Heap} {a1 a2 D x : Addr} {o1 o2 od : Obj} {o : Obj} {led : List (Addr × Obj)} {P : Prop} (F : Fr h₀ L s.heap m) (N : News h₀ L s.heap [(D, od), (a2, o2), (a1, o1)])
    (hk : ∀ b o, s.heap.get? b = some o → h₂.get? b = some o) (hx : s.heap.get? x = none) (hxo : h₂.get? x = some o) (hled : ∀ p ∈ led, s.heap.get? p.1 = none ∧ h₂.get? p.1 = some p.2)
    (k : ∀ b1 b2 : Addr, b1 = a1 → b2 = a2 → News h₀ L h₂ ((b1, o1) :: (b2, o2) :: (x, o) :: led) → (∀ p ∈ (x, o) :: led, p.1 ≠ b2) → P) : P := by
  refine k a1 a2 rfl rfl (fun p hp => ?_) (fun p hp e => ?_)
  · rcases List.mem_cons.mp hp with rfl | hp
    · have z := N (a1, o1) (.tail _ (.tail _ (.head _)))
      exact ⟨hk _ _ z.1, z.2⟩
    rcases List.mem_cons.mp hp with rfl | hp
    · have z := N (a2, o2) (.tail _ (.head _))
      exact ⟨hk _ _ z.1, z.2⟩
    rcases List.mem_cons.mp hp with rfl | hp
    · exact News.add F News.nil hk hx hxo _ (.head _)
    · exact News.add F News.nil hk (hled p hp).1 (hled p hp).2 _ (.head _)
  · have z := (N (a2, o2) (.tail _ (.head _))).1
    rw [← e] at z
    rcases List.mem_cons.mp hp with rfl | hp
    · rw [hx] at z; cases z
    · rw [(hled p hp).1] at z; cases z
theorem news_drop {h₀ h : Heap} {L : Addr} {p1 p2 p3 p4 : Addr × Obj} {r : List (Addr × Obj)} (N : News h₀ L h (p1 :: p2 :: p3 :: p4 :: r)) : News h₀ L h (p3 :: r) := fun p hp => by
  rcases List.mem_cons.mp hp with rfl | hp
  · exact N _ (.tail _ (.tail _ (.head _)))
  · exact N _ (.tail _ (.tail _ (.tail _ (.tail _ hp))))
theorem ne_cell {h₀ h : Heap} {L a c : Addr} {oc : Value} {its : Array Value} {n : Nat} {od : Option Addr} {os} {o : Obj} {v : Option Value} {news : List (Addr × Obj)} (N : News h₀ L h news) (m1 : (a, (⟨oc, od, .seq its n, os⟩ : Obj)) ∈ news) (m2 : (c, o) ∈ news) (hd : o.data = .cell v) : a ≠ c := fun e => by
  have h1 := (N _ m1).1
  have h2 := (N _ m2).1
  dsimp only at h1 h2
  rw [e, h2] at h1
  rw [Option.some.inj h1] at hd
  cases hd
end
/-! MX -/
section
open PySem PySem.W PyProof.Rows PySem.Calls PySem.Flt
section
variable {prog : Program} {w : World} {A : Around} {E : Value → Shared → Prop} {s : Shared} {env : Env} {h₀ : Heap} {x : Str} {px : Pos} {body : List Stmt} {Q : Flow → Shared → Prop}
/-- a loop over the items of one object, whatever its target's kind, by what holds between the turns -/
theorem seq_turns {l : Addr} {lo oI : Obj} {vs : List Value} {St : Nat → Heap → Prop} {m₀ : Str → Option Value} {news : List (Addr × Obj)} (J : Nat → (Str → Option Value) → List (Addr × Obj) → Prop)
    (W : Walks prog w A s.heap.objs.size [s.heap.objs.size, l] [s.heap.objs.size] vs.length (fun i v => vs[i]? = some v) St) (hit : ∀ i h, St i h → ∃ o, h.get? s.heap.objs.size = some o) (hst : St 0 (s.heap.push oI))
    (hl : (l, lo) ∈ news) (F : Fr h₀ env.locals s.heap m₀) (N : News h₀ env.locals s.heap news) (hj : J 0 m₀ news)
    (turn : ∀ i v m₁ nx h tk own, vs[i]? = some v → OwnOff own (nx.map (·.1)) → (l, lo) ∈ nx → J i m₁ nx → Fr h₀ env.locals h m₁ → News h₀ env.locals h (nx ++ own) →
      wpAny (model prog w) A (assign (.Name x px) env v) (fun _ s₃ => wpAny (model prog w) A (execs body env) (InvPostG h₀ env.locals (fun m' nx' => (l, lo) ∈ nx' ∧ J (i + 1) m' nx') own { s with heap := h, toks := tk } Q) E s₃) E { s with heap := h, toks := tk })
    (done : ∀ m₁ nx h tk, J vs.length m₁ nx → Fr h₀ env.locals h m₁ → News h₀ env.locals h nx → Q .next { s with heap := h, toks := tk }) :
    TurnsAt prog w A h₀ env (.Name x px) body Q E (.ref s.heap.objs.size) { s with heap := s.heap.push oI } := by
  have T := KTurns.ofWalks (target := .Name x px) W (fun _ _ _ _ _ _ q => wpAny_pure q)
  refine ⟨s.heap.objs.size, _, _, vs.length, _, _, St, m₀, news, (fun i m nx => (l, lo) ∈ nx ∧ J i m nx), rfl, T, ?_, ?_, ?_, hst, F.push _, (fun p hp => ⟨Heap.get?_push_of_some _ (N p hp).1, (N p hp).2⟩), ⟨hl, hj⟩, ?_, ?_⟩
  · intro hm
    rcases List.mem_cons.mp hm with e | hm
    · exact absurd F.ns.lt (e ▸ Nat.lt_irrefl _)
    · exact (N _ hl).2.1 ((List.mem_singleton.mp hm).symm)
  · intro b hb
    rw [List.mem_singleton.mp hb]
    exact next_is_new F
  · intro p hp hI
    exact absurd (Heap.lt_size (N p hp).1) ((List.mem_singleton.mp hI) ▸ Nat.lt_irrefl _)
  · rintro i v m₁ nx h tk own hin hP ⟨hl₁, hJ⟩ hoff hown hget hfp hst' F₁ N₁
    have hI0 : h₀.get? s.heap.objs.size = none := next_is_new F
    obtain ⟨oI', hoI⟩ := hit _ _ hst'
    have hIown : (s.heap.objs.size, oI') ∈ own.filter fun p => decide (p.1 = s.heap.objs.size) := List.mem_filter.mpr ⟨hfp _ (List.mem_cons.mpr (.inl rfl)) hI0 _ hoI, by simp⟩
    have hsep : OwnOff (own.filter fun p => decide (p.1 = s.heap.objs.size)) (nx.map (·.1)) := by
      intro p hp b hb e
      obtain ⟨q, hq, rfl⟩ := List.mem_map.mp hb
      have h1 : p.1 = s.heap.objs.size := by simpa using (List.mem_filter.mp hp).2
      exact hoff q hq (List.mem_singleton.mpr (e ▸ h1))
    have N₂ : News h₀ env.locals h (nx ++ own.filter fun p => decide (p.1 = s.heap.objs.size)) := fun p hp => N₁ p ((List.mem_append.mp hp).elim (fun h => List.mem_append.mpr (.inr h)) fun h => List.mem_append.mpr (.inl ((List.mem_filter.mp h).1)))
    have hlo : h.get? l = some lo := (N₁ _ (List.mem_append.mpr (.inr hl₁))).1
    refine wpAny_mono (turn i v m₁ nx h tk _ hP hsep hl₁ hJ F₁ N₂) (fun _ s₃ q => wpAny_mono q (fun f s₂ p => ?_) fun _ _ e => e) fun _ _ e => e
    have fin : InvEndG h₀ env.locals (fun m' nx => (l, lo) ∈ nx ∧ J (i + 1) m' nx) (own.filter fun p => decide (p.1 = s.heap.objs.size)) { s with heap := h, toks := tk } s₂ →
        LoopStepU h₀ env.locals [s.heap.objs.size] own (fun m nx => (l, lo) ∈ nx ∧ J (i + 1) m nx) { s with heap := h, toks := tk } .next s₂ := by
      rintro ⟨h', tk, m', news', nx, e, F', N', hn, ho, ha, hm⟩
      refine ⟨rfl, h', tk, m', nx, e, F', fun p hp => ?_, fun p hp hq => ?_, hm⟩
      · rcases List.mem_append.mp hp with h | h
        · by_cases hI : p.1 = s.heap.objs.size
          · exact N' p (ho p (List.mem_filter.mpr ⟨h, by simpa using hI⟩))
          · have h1 : p.1 = l := by
              rcases List.mem_cons.mp (hown p h) with h2 | h2
              · exact absurd h2 hI
              · exact List.mem_singleton.mp h2
            have h2 := hget p h
            rw [h1, hlo] at h2
            have h3 : p = (l, lo) := Prod.ext h1 (Option.some.inj h2).symm
            rw [h3]
            exact N' _ (hn _ hm.1)
        · exact N' p (hn p h)
      · exact ha _ hIown p.1 (List.mem_map.mpr ⟨p, hp, rfl⟩) (List.mem_singleton.mp hq).symm
    cases f with
    | ret v => exact .ret p
    | brk => exact .brk p
    | next => exact .next (fin p)
    | cont => exact .cont (fin p)
  · rintro h' tk m' news' F' N' _ ⟨_, hJ⟩
    exact done m' news' h' tk hJ F' N'
theorem list_turns {l : Addr} {vs : List Value} {nn : Nat} {m₀ : Str → Option Value} {news : List (Addr × Obj)} (J : Nat → (Str → Option Value) → List (Addr × Obj) → Prop) (hh : A.handled = none)
    (hl : (l, W.listOf vs.toArray nn) ∈ news) (F : Fr h₀ env.locals s.heap m₀) (N : News h₀ env.locals s.heap news) (hj : J 0 m₀ news)
    (turn : ∀ i v m₁ nx h tk own, vs[i]? = some v → OwnOff own (nx.map (·.1)) → (l, W.listOf vs.toArray nn) ∈ nx → J i m₁ nx → Fr h₀ env.locals h m₁ → News h₀ env.locals h (nx ++ own) →
      wpAny (model prog w) A (assign (.Name x px) env v) (fun _ s₃ => wpAny (model prog w) A (execs body env) (InvPostG h₀ env.locals (fun m' nx' => (l, W.listOf vs.toArray nn) ∈ nx' ∧ J (i + 1) m' nx') own { s with heap := h, toks := tk } Q) E s₃) E { s with heap := h, toks := tk })
    (done : ∀ m₁ nx h tk, J vs.length m₁ nx → Fr h₀ env.locals h m₁ → News h₀ env.locals h nx → Q .next { s with heap := h, toks := tk }) :
    wpAny (model prog w) A (pyIter (.ref l)) (fun it s₂ => TurnsAt prog w A h₀ env (.Name x px) body Q E it s₂) E s := by
  have hol := (N _ hl).1
  have hls : s.heap.IsList l vs.toArray := ⟨_, hol, rfl, nn, rfl⟩
  have hne : l ≠ s.heap.objs.size := Nat.ne_of_lt (Heap.lt_size hol)
  refine wpAny_pyIter_list hls ?_
  have Wk := Walks.list (prog := prog) (w := w) hh s.heap.objs.size l hne vs.toArray
  simp only [List.size_toArray, List.getElem?_toArray] at Wk
  exact seq_turns J Wk (fun i h st => by obtain ⟨o, e, _⟩ := st.1; exact ⟨o, e⟩) ⟨⟨_, Heap.get?_push_size _ rfl, rfl, rfl⟩, hls.at fun o e => Heap.get?_push_of_some _ e⟩ hl F N hj turn done
theorem tuple_turns {l : Addr} {vs : List Value} {nn : Nat} {m₀ : Str → Option Value} {news : List (Addr × Obj)} (J : Nat → (Str → Option Value) → List (Addr × Obj) → Prop) (hh : A.handled = none)
    (hl : (l, ({ cls := .type "tuple", data := .seq vs.toArray nn } : Obj)) ∈ news) (F : Fr h₀ env.locals s.heap m₀) (N : News h₀ env.locals s.heap news) (hj : J 0 m₀ news)
    (turn : ∀ i v m₁ nx h tk own, vs[i]? = some v → OwnOff own (nx.map (·.1)) → (l, ({ cls := .type "tuple", data := .seq vs.toArray nn } : Obj)) ∈ nx → J i m₁ nx → Fr h₀ env.locals h m₁ → News h₀ env.locals h (nx ++ own) →
      wpAny (model prog w) A (assign (.Name x px) env v) (fun _ s₃ => wpAny (model prog w) A (execs body env) (InvPostG h₀ env.locals (fun m' nx' => (l, ({ cls := .type "tuple", data := .seq vs.toArray nn } : Obj)) ∈ nx' ∧ J (i + 1) m' nx') own { s with heap := h, toks := tk } Q) E s₃) E { s with heap := h, toks := tk })
    (done : ∀ m₁ nx h tk, J vs.length m₁ nx → Fr h₀ env.locals h m₁ → News h₀ env.locals h nx → Q .next { s with heap := h, toks := tk }) :
    wpAny (model prog w) A (pyIter (.ref l)) (fun it s₂ => TurnsAt prog w A h₀ env (.Name x px) body Q E it s₂) E s := by
  have hol := (N _ hl).1
  have hls : s.heap.IsTuple l vs.toArray := ⟨_, hol, rfl, nn, rfl⟩
  have hne : l ≠ s.heap.objs.size := Nat.ne_of_lt (Heap.lt_size hol)
  refine wpAny_pyIter_tuple hls ?_
  have Wk := Walks.tuple (prog := prog) (w := w) hh s.heap.objs.size l hne vs.toArray
  simp only [List.size_toArray, List.getElem?_toArray] at Wk
  exact seq_turns J Wk (fun i h st => by obtain ⟨o, e, _⟩ := st.1; exact ⟨o, e⟩) ⟨⟨_, Heap.get?_push_size _ rfl, rfl, rfl⟩, hls.at fun o e => Heap.get?_push_of_some _ e⟩ hl F N hj turn done
end
section
variable {prog : Program} {w : World} {A : Around} {E : Value → Shared → Prop} {s : Shared} {Q : Value → Shared → Prop} {h₀ : Heap} {L : Addr} {news : List (Addr × Obj)}
theorem item_first {value slice : PySem.Expr} {l : Addr} {its : Array Value} {n : Nat} {u : Tok} {v : Value} (N : News h₀ L s.heap news) (hm : (l, W.listOf its n) ∈ news) (hx : its[0]? = some v) (h : Q v s)
    (hs : subscripted slice false (.ref l) (.int 0 u) = operate [.ref l, .int 0 u] (getItem (.ref l) (.int 0 u)) := by with_unfolding_all rfl) :
    wpAny (model prog w) A (subscriptTail value slice (.ref l) (.int 0 u)) Q E s :=
  have hl : s.heap.IsList l its := ⟨_, (N _ hm).1, rfl, n, rfl⟩
  tail_any hl.typeIs slot_list_getitem.lookup (wpAny_getItem_list hl (Int.le_refl _) (by decide) hx h) hs
theorem item_last {value slice : PySem.Expr} {l : Addr} {its : Array Value} {n : Nat} {u : Tok} {v : Value} {j : Nat} (N : News h₀ L s.heap news) (hm : (l, W.listOf its n) ∈ news) (hj : its.size = j + 1) (hx : its[j]? = some v) (h : Q v s)
    (hs : subscripted slice false (.ref l) (.int (-1) u) = operate [.ref l, .int (-1) u] (getItem (.ref l) (.int (-1) u)) := by with_unfolding_all rfl) :
    wpAny (model prog w) A (subscriptTail value slice (.ref l) (.int (-1) u)) Q E s :=
  have hl : s.heap.IsList l its := ⟨_, (N _ hm).1, rfl, n, rfl⟩
  tail_any hl.typeIs slot_list_getitem.lookup (wpAny_getItem_list_neg hl (by decide) (by omega) (by decide) (by rw [hj, show (-1 + ((j + 1 : Nat) : Int)).toNat = j by omega]; exact hx) h) hs
end
theorem news_drop3 {h₀ h : Heap} {L : Addr} {p1 p2 p3 p4 : Addr × Obj} {r : List (Addr × Obj)} (N : News h₀ L h (p1 :: p2 :: p3 :: p4 :: r)) : News h₀ L h (p1 :: r) := fun p hp => by
  rcases List.mem_cons.mp hp with rfl | hp
  · exact N _ (.head _)
  · exact N _ (.tail _ (.tail _ (.tail _ (.tail _ hp))))
/-- what stands behind the call: two cells, the list, the rows, all apart -/
theorem led_two' {h₀ : Heap} {L : Addr} {s : Shared} {m : Str → Option Value} {h₂ : Heap} {a1 a2 D x : Addr} {o1 o2 od : Obj} {o : Obj} {led : List (Addr × Obj)} {P : Prop} (F : Fr h₀ L s.heap m) (N : News h₀ L s.heap [(D, od), (a2, o2), (a1, o1)])
    (hk : ∀ b o, s.heap.get? b = some o → h₂.get? b = some o) (hx : s.heap.get? x = none) (hxo : h₂.get? x = some o) (hled : ∀ p ∈ led, s.heap.get? p.1 = none ∧ h₂.get? p.1 = some p.2)
    (k : ∀ b1 b2 : Addr, b1 = a1 → b2 = a2 → News h₀ L h₂ ((b1, o1) :: (b2, o2) :: (x, o) :: led) → (∀ p ∈ (x, o) :: led, p.1 ≠ b1) → (∀ p ∈ (x, o) :: led, p.1 ≠ b2) → P) : P := by
  refine led_two F N hk hx hxo hled fun b1 b2 e1 e2 N' h2 => k b1 b2 e1 e2 N' (fun p hp e => ?_) h2
  have z := (N (a1, o1) (.tail _ (.tail _ (.head _)))).1
  rw [← e1, ← e] at z
  rcases List.mem_cons.mp hp with rfl | hp
  · rw [hx] at z; cases z
  · rw [(hled p hp).1] at z; cases z
theorem keep_four {m₁ : Str → Option Value} {x1 x2 x3 x4 : Str} {v1 v2 v3 v4 : Value} (h1 : m₁ x1 = some v1) (h2 : m₁ x2 = some v2) (h3 : m₁ x3 = some v3) (h4 : m₁ x4 = some v4) :
    m₁ = fun y => if y = x1 then some v1 else if y = x2 then some v2 else if y = x3 then some v3 else if y = x4 then some v4 else m₁ y := by
  funext y
  by_cases e1 : y = x1
  · rw [if_pos e1, e1, h1]
  · rw [if_neg e1]
    by_cases e2 : y = x2
    · rw [if_pos e2, e2, h2]
    · rw [if_neg e2]
      by_cases e3 : y = x3
      · rw [if_pos e3, e3, h3]
      · rw [if_neg e3]
        by_cases e4 : y = x4
        · rw [if_pos e4, e4, h4]
        · rw [if_neg e4]
theorem name_two {h₀ h : Heap} {L a : Addr} {o : Obj} {p : Addr × Obj} {r : List (Addr × Obj)} {P : Prop} (_N : News h₀ L h (p :: (a, o) :: r)) (k : ∀ C : Addr, C = a → P) : P := k a rfl
/-- what was told of one depth -/
abbrev tup3 (H L S : UInt64) (t1 t2 t3 : Tok) : Obj := { cls := .type "tuple", data := .seq #[.float H t1, .float L t2, .float S t3] }
/-- the first of what was told -/
def FirstIs (H S : UInt64) (arr : Array Value) (led : List (Addr × Obj)) : Prop := ∃ z Lz u1 u2 u3, arr[0]? = some (.ref z) ∧ u1 ≠ 0 ∧ u2 ≠ 0 ∧ u3 ≠ 0 ∧ (z, tup3 H Lz S u1 u2 u3) ∈ led
theorem FirstIs.mono {H S : UInt64} {arr : Array Value} {led led' : List (Addr × Obj)} (h : FirstIs H S arr led) (hs : ∀ p ∈ led, p ∈ led') : FirstIs H S arr led' := by
  obtain ⟨z, Lz, u1, u2, u3, h1, h2, h3, h4, h5⟩ := h
  exact ⟨z, Lz, u1, u2, u3, h1, h2, h3, h4, hs _ h5⟩
/-- between the turns over the depths -/
def Inner (a2 T : Addr) (H S : UInt64) (fixed : List (Addr × Obj)) (i : Nat) (nx : List (Addr × Obj)) : Prop :=
  ∃ oE vE arr nn more, nx = (a2, oE) :: (T, W.listOf arr nn) :: (more ++ fixed) ∧ oE.data = .cell vE ∧ arr.size = i ∧ (∀ p ∈ more, p.1 ≠ a2) ∧ (∀ p ∈ more, p.1 ≠ T) ∧ (0 < i → FirstIs H S arr more)
theorem FirstIs.push {H S Lz : UInt64} {arr : Array Value} {more : List (Addr × Obj)} {i : Nat} {z : Addr} {u1 u2 u3 : Tok} (hsz : arr.size = i) (h : 0 < i → FirstIs H S arr more) (h1 : u1 ≠ 0) (h2 : u2 ≠ 0) (h3 : u3 ≠ 0) :
    FirstIs H S (arr.push (.ref z)) ((z, tup3 H Lz S u1 u2 u3) :: more) := by
  rcases Nat.eq_zero_or_pos i with e | e
  · refine ⟨z, Lz, u1, u2, u3, ?_, h1, h2, h3, .head _⟩
    rw [Array.getElem?_push, hsz, e, if_pos rfl]
  · obtain ⟨z', L', v1, v2, v3, g1, g2, g3, g4, g5⟩ := h e
    refine ⟨z', L', v1, v2, v3, ?_, g2, g3, g4, .tail _ g5⟩
    rw [Array.getElem?_push, hsz, if_neg (Nat.ne_of_lt e)]; exact g1
theorem last_push {arr : Array Value} {i : Nat} {v : Value} (hsz : arr.size = i) : (arr.push v)[i]? = some v := by
  rw [Array.getElem?_push, hsz, if_pos rfl]
theorem ne_cls {h₀ h : Heap} {L a c : Addr} {oa oc : Obj} {news : List (Addr × Obj)} (N : News h₀ L h news) (m1 : (a, oa) ∈ news) (m2 : (c, oc) ∈ news) (hd : oa.cls ≠ oc.cls) : a ≠ c := fun e => by
  have h1 := (N _ m1).1
  have h2 := (N _ m2).1
  dsimp only at h1 h2
  rw [e, h2] at h1
  exact hd (by rw [Option.some.inj h1])
theorem tup_not_list {x y : Data} : ({ cls := .type "tuple", data := x } : Obj).cls ≠ ({ cls := .type "list", data := y } : Obj).cls := fun h => by
  have := Value.type.inj h
  revert this; decide
theorem three_ints {i : Nat} {x y z : Int} {t u v : Tok} {w : Value} (h : [Value.int x t, Value.int y u, Value.int z v][i]? = some w) {lo hi : Int} (hx : lo ≤ x ∧ x ≤ hi) (hy : lo ≤ y ∧ y ≤ hi) (hz : lo ≤ z ∧ z ≤ hi) : ∃ e te, w = .int e te ∧ lo ≤ e ∧ e ≤ hi := by
  have := List.mem_of_getElem? h
  simp only [List.mem_cons, List.not_mem_nil, or_false] at this
  rcases this with rfl | rfl | rfl
  · exact ⟨_, _, rfl, hx⟩
  · exact ⟨_, _, rfl, hy⟩
  · exact ⟨_, _, rfl, hz⟩
theorem pow2_ne (k : Nat) : (2 : Int) ^ k ≠ 0 := fun e => by have := pow2_pos k; omega
theorem name_45 {h₀ h : Heap} {L a1 a2 : Addr} {o1 o2 : Obj} {p1 p2 p3 : Addr × Obj} {r : List (Addr × Obj)} {P : Prop} (N : News h₀ L h (p1 :: p2 :: p3 :: (a1, o1) :: (a2, o2) :: r)) (k : ∀ b1 b2 : Addr, b1 = a1 → b2 = a2 → News h₀ L h ((b2, o2) :: p2 :: ([] ++ p1 :: p3 :: (b1, o1) :: r)) → P) : P :=
  k a1 a2 rfl rfl fun p hp => N p (by
    rcases List.mem_cons.mp hp with rfl | hp
    · exact .tail _ (.tail _ (.tail _ (.tail _ (.head _))))
    rcases List.mem_cons.mp hp with rfl | hp
    · exact .tail _ (.head _)
    rcases List.mem_cons.mp hp with rfl | hp
    · exact .head _
    rcases List.mem_cons.mp hp with rfl | hp
    · exact .tail _ (.tail _ (.head _))
    rcases List.mem_cons.mp hp with rfl | hp
    · exact .tail _ (.tail _ (.tail _ (.head _)))
    · exact .tail _ (.tail _ (.tail _ (.tail _ (.tail _ hp)))))
theorem gen_tup {h₀ h : Heap} {L tp : Addr} {x d z : Int} {ta tb tc : Tok} {r : List (Addr × Obj)} {P : Prop} (N : News h₀ L h ((tp, { cls := .type "tuple", data := .seq #[.int x ta, .int d tb, .int z tc] }) :: r))
    (k : ∀ ta tc : Tok, News h₀ L h ((tp, { cls := .type "tuple", data := .seq #[.int x ta, .int d tb, .int z tc] }) :: r) → P) : P := k ta tc N
theorem push_led {h₀ h : Heap} {L : Addr} {p0 p1 p2 p3 p4 pT : Addr × Obj} {r : List (Addr × Obj)} (N : News h₀ L h (p0 :: p1 :: p2 :: p3 :: p4 :: pT :: r)) : News h₀ L h (pT :: p0 :: p2 :: p3 :: p4 :: r) := fun p hp => N p (by
  rcases List.mem_cons.mp hp with rfl | hp
  · exact .tail _ (.tail _ (.tail _ (.tail _ (.tail _ (.head _)))))
  rcases List.mem_cons.mp hp with rfl | hp
  · exact .head _
  rcases List.mem_cons.mp hp with rfl | hp
  · exact .tail _ (.tail _ (.head _))
  rcases List.mem_cons.mp hp with rfl | hp
  · exact .tail _ (.tail _ (.tail _ (.head _)))
  rcases List.mem_cons.mp hp with rfl | hp
  · exact .tail _ (.tail _ (.tail _ (.tail _ (.head _))))
  · exact .tail _ (.tail _ (.tail _ (.tail _ (.tail _ (.tail _ hp))))))
theorem told_pushed {h₀ h : Heap} {L : Addr} {pT : Addr × Obj} {r more : List (Addr × Obj)} {H S Lz : UInt64} {arr : Array Value} {i : Nat} {z : Addr} {u1 u2 u3 : Tok} {P : Prop} (_N : News h₀ L h (pT :: (z, tup3 H Lz S u1 u2 u3) :: r)) (h1 : u1 ≠ 0) (h2 : u2 ≠ 0) (h3 : u3 ≠ 0)
    (hsz : arr.size = i) (hf : 0 < i → FirstIs H S arr more) (k : ∀ ad : Addr × Obj, ad = (z, tup3 H Lz S u1 u2 u3) → FirstIs H S (arr.push (.ref z)) (ad :: more) → P) : P :=
  k _ rfl (FirstIs.push hsz hf h1 h2 h3)
theorem first_led {h₀ h : Heap} {L : Addr} {p1 p2 p3 p4 p5 q : Addr × Obj} {r more : List (Addr × Obj)} (N : News h₀ L h (p1 :: p2 :: p3 :: p4 :: p5 :: r)) (hs : ∀ p ∈ more, p ∈ r) (hq : q ∈ p2 :: more) : News h₀ L h (q :: p1 :: p2 :: p3 :: p4 :: p5 :: r) := fun p hp => N p (by
  rcases List.mem_cons.mp hp with rfl | hp
  · rcases List.mem_cons.mp hq with rfl | hq
    · exact .tail _ (.head _)
    · exact .tail _ (.tail _ (.tail _ (.tail _ (.tail _ (hs _ hq)))))
  · exact hp)
end
/-! FM -/
section
open PySem PySem.Float64
/-- the unit: 2 ^ 1074 of the smallest floats -/
def U : Nat := 2 ^ 1074
def G : Nat := 2 ^ 1020
theorem U_eq : U = 18014398509481984 * G := by
  unfold U G
  rw [show (1074 : Nat) = 54 + 1020 from rfl, Nat.pow_add, show (18014398509481984 : Nat) = 2 ^ 54 from by decide]
theorem G_pos : 0 < G := Nat.two_pow_pos _
theorem U_pos : 0 < U := Nat.two_pow_pos _
theorem V_inj {t t' : Nat} (h : V t = V t') : t = t' := by
  rcases Nat.lt_trichotomy t t' with q | q | q
  · have := V_lt q; omega
  · exact q
  · have := V_lt q; omega
/-- every multiple of a power of two up to 2 ^ 53 of them is a float's magnitude -/
theorem V_rep (c : Nat) : ∀ m, m ≤ 2 ^ 53 → ∃ t, V t = m * 2 ^ c := by
  induction c with
  | zero => intro m hm; exact ⟨0 * 2 ^ 52 + m, V_at hm (Or.inr rfl)⟩
  | succ c ih =>
    intro m hm
    by_cases h : 2 ^ 52 ≤ m
    · exact ⟨_, V_at hm (Or.inl h)⟩
    · obtain ⟨t, ht⟩ := ih (2 * m) (by omega)
      exact ⟨t, by rw [ht, Nat.pow_succ]; rw [Nat.mul_comm 2 m, Nat.mul_assoc, Nat.mul_comm 2 (2 ^ c)]⟩
/-- t is a float nearest to W / D -/
def Nr (t W D : Nat) : Prop := ∀ t', dist W (D * V t) ≤ dist W (D * V t')
theorem nr_err {t W D : Nat} (c : Nat) (h : Nr t W D) (hD : 0 < D) (hW : W ≤ D * (2 ^ 53 * 2 ^ c)) : 2 * dist W (D * V t) ≤ D * 2 ^ c := by
  have hpos : 0 < D * 2 ^ c := Nat.mul_pos hD (Nat.two_pow_pos _)
  -- the nearest multiple
  obtain ⟨m, hm, hd⟩ : ∃ m, m ≤ 2 ^ 53 ∧ 2 * dist W (D * 2 ^ c * m) ≤ D * 2 ^ c := by
    have h1 := Nat.div_add_mod W (D * 2 ^ c)
    have h2 := Nat.mod_lt W hpos
    generalize hq : W / (D * 2 ^ c) = q at h1
    generalize hr : W % (D * 2 ^ c) = r at h1 h2
    have hq53 : q ≤ 2 ^ 53 := by
      rw [← hq]
      refine Nat.div_le_of_le_mul ?_
      calc W ≤ D * (2 ^ 53 * 2 ^ c) := hW
        _ = D * 2 ^ c * 2 ^ 53 := by rw [Nat.mul_assoc, Nat.mul_comm (2 ^ 53)]
    have hW2 : W ≤ D * 2 ^ c * 2 ^ 53 := by rw [Nat.mul_assoc, Nat.mul_comm (2 ^ c)]; exact hW
    generalize D * 2 ^ c = B at *
    by_cases hh : 2 * r ≤ B
    · refine ⟨q, hq53, ?_⟩
      unfold dist; omega
    · refine ⟨q + 1, ?_, ?_⟩
      · by_cases e : q = 2 ^ 53
        · rw [e] at h1; omega
        · omega
      · have e : B * (q + 1) = B * q + B := by rw [Nat.mul_add, Nat.mul_one]
        rw [e]
        unfold dist; omega
  obtain ⟨t', ht'⟩ := V_rep c m hm
  have := h t'
  have e : D * V t' = D * 2 ^ c * m := by rw [ht', Nat.mul_comm m, Nat.mul_assoc]
  rw [e] at this
  omega

theorem dist_comm (a b : Nat) : dist a b = dist b a := by unfold dist; omega
theorem dist_eq_zero {a b : Nat} (h : dist a b = 0) : a = b := by unfold dist at h; omega
theorem dist_self (a : Nat) : dist a a = 0 := by unfold dist; omega
/-- the two of them being even, nothing lies between: one float is the nearest, by ties to even -/
theorem near_uniq {W D t u : Nat} (hD : 0 < D) (ht : ∀ t', dist W (D * V t) ≤ dist W (D * V t') ∧ (V t' ≠ V t → dist W (D * V t) = dist W (D * V t') → t % 2 = 0))
    (hu : ∀ t', dist W (D * V u) ≤ dist W (D * V t') ∧ (V t' ≠ V u → dist W (D * V u) = dist W (D * V t') → u % 2 = 0)) : t = u := by
  have main : ∀ t u, t < u → dist W (D * V t) = dist W (D * V u) → (∀ t', dist W (D * V t) ≤ dist W (D * V t')) → t % 2 = 0 → u % 2 = 0 → False := by
    intro t u hlt he hn e1 e2
    have h1 : V t < V (t + 1) := V_succ t
    have h2 : V (t + 1) < V u := V_lt (by omega)
    have h3 := hn (t + 1)
    have k1 : D * V t < D * V (t + 1) := Nat.mul_lt_mul_of_pos_left h1 hD
    have k2 : D * V (t + 1) < D * V u := Nat.mul_lt_mul_of_pos_left h2 hD
    generalize D * V t = a at *
    generalize D * V (t + 1) = b at *
    generalize D * V u = c at *
    unfold dist at *
    omega
  by_cases he : V t = V u
  · exact V_inj he
  · have a1 := (ht u).1
    have a2 := (hu t).1
    have eq : dist W (D * V t) = dist W (D * V u) := Nat.le_antisymm a1 a2
    have p1 := (ht u).2 (fun h => he h.symm) eq
    have p2 := (hu t).2 he eq.symm
    rcases Nat.lt_trichotomy t u with q | q | q
    · exact (main t u q eq (fun t' => (ht t').1) p1 p2).elim
    · exact q
    · exact (main u t q eq.symm (fun t' => (hu t').1) p2 p1).elim
theorem dist_scale (k W D v : Nat) : dist (k * W) (k * D * v) = k * dist W (D * v) := by rw [Nat.mul_assoc, dist_mul]
/-- what is rightly rounded from one quotient is one float -/
theorem right_uniq {r r' : UInt64} {neg : Bool} {W D W' D' : Nat} (hD : 0 < D) (hD' : 0 < D') (h : W * D' = W' * D) (R : Right r neg W D) (R' : Right r' neg W' D') : r = r' := by
  obtain ⟨t, rfl, h1, h2, h3⟩ := R
  obtain ⟨u, rfl, k1, k2, k3⟩ := R'
  have ov : (D * ((2 ^ 54 - 1) * 2 ^ 2045) ≤ 2 * W) ↔ (D' * ((2 ^ 54 - 1) * 2 ^ 2045) ≤ 2 * W') := by
    generalize ((2 ^ 54 - 1) * 2 ^ 2045) = X
    constructor
    · intro q
      have := Nat.mul_le_mul_right D' q
      have e1 : D * X * D' = D' * X * D := by ac_rfl
      have e2 : 2 * W * D' = 2 * W' * D := by rw [Nat.mul_assoc, h, Nat.mul_assoc]
      rw [e1, e2] at this
      exact Nat.le_of_mul_le_mul_right this hD
    · intro q
      have := Nat.mul_le_mul_right D q
      have e1 : D' * X * D = D * X * D' := by ac_rfl
      have e2 : 2 * W' * D = 2 * W * D' := by rw [Nat.mul_assoc, ← h, Nat.mul_assoc]
      rw [e1, e2] at this
      exact Nat.le_of_mul_le_mul_right this hD'
  by_cases hi : t = infMag
  · have hu : u = infMag := k2.mpr (ov.mp (h2.mp hi))
    rw [hi, hu]
  · have hu : u ≠ infMag := fun e => hi (h2.mpr (ov.mpr (k2.mp e)))
    have ht := h3 (by omega)
    have hu' := k3 (by omega)
    have : t = u := by
      refine near_uniq (W := D' * W) (D := D' * D) (Nat.mul_pos hD' hD) (fun t' => ?_) (fun t' => ?_)
      · rw [dist_scale, dist_scale]
        refine ⟨Nat.mul_le_mul_left _ (ht t').1, fun a b => (ht t').2 a (Nat.eq_of_mul_eq_mul_left hD' b)⟩
      · have e : D' * W = D * W' := by rw [Nat.mul_comm, h, Nat.mul_comm]
        rw [e, Nat.mul_comm D' D, dist_scale, dist_scale]
        refine ⟨Nat.mul_le_mul_left _ (hu' t').1, fun a b => (hu' t').2 a (Nat.eq_of_mul_eq_mul_left hD b)⟩
    rw [this]
theorem ofFrac_congr {neg : Bool} {n d n' d' : Nat} (hd : 0 < d) (hd' : 0 < d') (h : n * d' = n' * d) : ofFrac neg n d = ofFrac neg n' d' := by
  refine right_uniq (W := n * 2 ^ 1074) (D := d) (W' := n' * 2 ^ 1074) (D' := d') hd hd' ?_ (ofFrac_right hd rfl hd) (ofFrac_right hd' rfl hd')
  generalize (2 : Nat) ^ 1074 = X
  calc n * X * d' = n * d' * X := by ac_rfl
    _ = n' * d * X := by rw [h]
    _ = n' * X * d := by ac_rfl
/-- not beyond the greatest float -/
theorem not_over {W D : Nat} (hD : 0 < D) (h : W ≤ D * (2 ^ 64 * U)) : ¬ D * ((2 ^ 54 - 1) * 2 ^ 2045) ≤ 2 * W := by
  intro q
  have h1 : D * ((2 ^ 54 - 1) * 2 ^ 2045) ≤ D * (2 * (2 ^ 64 * U)) := by
    refine Nat.le_trans q ?_
    calc 2 * W ≤ 2 * (D * (2 ^ 64 * U)) := Nat.mul_le_mul_left 2 h
      _ = D * (2 * (2 ^ 64 * U)) := Nat.mul_left_comm ..
  have h2 := Nat.le_of_mul_le_mul_left h1 hD
  have e : (2 : Nat) ^ 2045 = 2 ^ 971 * U := by
    unfold U; rw [show (2045 : Nat) = 971 + 1074 from rfl, Nat.pow_add]
  rw [e, ← Nat.mul_assoc, ← Nat.mul_assoc] at h2
  have h3 := Nat.le_of_mul_le_mul_right h2 U_pos
  revert h3
  decide +kernel
/-- a rightly rounded float of moderate size -/
theorem right_nr {r : UInt64} {neg : Bool} {W D : Nat} (hD : 0 < D) (h : W ≤ D * (2 ^ 64 * U)) (R : Right r neg W D) : ∃ t, r = pack neg t ∧ t < infMag ∧ Nr t W D := by
  obtain ⟨t, rfl, h1, h2, h3⟩ := R
  have hne : t ≠ infMag := fun e => not_over hD h (h2.mp e)
  exact ⟨t, rfl, by omega, fun t' => (h3 (by omega) t').1⟩
/-- x is the float of no sign whose worth is N / D -/
def Fv (x : UInt64) (N D : Nat) : Prop := ∃ t, x = pack false t ∧ t < infMag ∧ V t * D = N * U
theorem nr_exact {t u W D : Nat} (h : Nr t W D) (hD : 0 < D) (hu : D * V u = W) : t = u := by
  have := h u
  rw [hu, dist_self] at this
  have e := dist_eq_zero (Nat.le_zero.mp this)
  rw [← hu] at e
  exact (V_inj (Nat.eq_of_mul_eq_mul_left hD e)).symm
theorem Fv.ofFrac {x : UInt64} {N D : Nat} (h : Fv x N D) (hD : 0 < D) (hN : N ≤ D * 2 ^ 64) : Float64.ofFrac false N D = x := by
  obtain ⟨t, rfl, ht, hv⟩ := h
  obtain ⟨u, hu, _, hn⟩ := right_nr (r := Float64.ofFrac false N D) (neg := false) (W := N * U) (D := D) hD (by rw [← Nat.mul_assoc]; exact Nat.mul_le_mul_right _ hN) (ofFrac_right hD (by unfold U; rfl) hD)
  rw [hu, nr_exact hn hD (by rw [Nat.mul_comm]; exact hv)]
theorem Fv.dec {x : UInt64} {N D : Nat} (h : Fv x N D) : ∃ m e, decode x = .fin false m e := by
  obtain ⟨t, rfl, ht, _⟩ := h
  obtain ⟨m, e, hd, _⟩ := decode_pack false ht
  exact ⟨m, e, hd⟩
theorem Fv.fin {x : UInt64} {N D : Nat} (h : Fv x N D) : isFinite x = true := by
  obtain ⟨m, e, hd⟩ := h.dec
  unfold isFinite; rw [hd]
theorem pack_val {t : Nat} (h : t < infMag) : val (pack false t) = (V t : Int) := by rw [val_pack false h]; rfl
/-- whole numbers of 2 ^ -e -/
theorem Fv.mk (N e : Nat) (he : e ≤ 1074) (hN : N ≤ 2 ^ 53) : Fv (Float64.ofFrac false N (2 ^ e)) N (2 ^ e) := by
  obtain ⟨t, ht⟩ := V_rep (1074 - e) N hN
  have hv : V t * 2 ^ e = N * U := by
    rw [ht, Nat.mul_assoc, ← Nat.pow_add, show 1074 - e + e = 1074 by omega]; rfl
  have hlt : t < infMag := by
    rcases Nat.lt_or_ge t infMag with q | q
    · exact q
    · exfalso
      have h1 : V infMag ≤ V t := V_mono q
      have h2 : V infMag = 2 ^ 52 * 2 ^ 2046 := by
        have : infMag = 2046 * 2 ^ 52 + 2 ^ 52 := by decide
        rw [this]; exact V_at (by decide) (Or.inl (Nat.le_refl _))
      have h3 : V t ≤ 2 ^ 53 * 2 ^ 1074 := by
        rw [ht]; exact Nat.mul_le_mul hN (Nat.pow_le_pow_right (by decide) (by omega))
      rw [h2] at h1
      have h4 : (2 : Nat) ^ 52 * 2 ^ 2046 ≤ 2 ^ 53 * 2 ^ 1074 := Nat.le_trans h1 h3
      revert h4
      rw [← Nat.pow_add, ← Nat.pow_add]
      decide +kernel
  have hx : Fv (pack false t) N (2 ^ e) := ⟨t, rfl, hlt, hv⟩
  rw [hx.ofFrac (Nat.two_pow_pos _) (Nat.le_trans hN (Nat.le_trans (by decide) (Nat.le_mul_of_pos_left _ (Nat.two_pow_pos _))))]
  exact hx
end
/-! FN -/
section
open PySem PySem.Float64
theorem Fv.cmp_of {x y : UInt64} {N M D : Nat} (hx : Fv x N D) (hy : Fv y M D) (hD : 0 < D) :
    (N < M → cmp x y = some .lt) ∧ (N = M → cmp x y = some .eq) ∧ (M < N → cmp x y = some .gt) := by
  obtain ⟨a, rfl, ha, hva⟩ := hx
  obtain ⟨b, rfl, hb, hvb⟩ := hy
  obtain ⟨m, e, hda, _⟩ := decode_pack false ha
  obtain ⟨m', e', hdb, _⟩ := decode_pack false hb
  rw [cmp_right hda hdb, pack_val ha, pack_val hb]
  have key : ∀ p q : Nat, p < q → ∀ u v : Nat, u * D = p * U → v * D = q * U → u < v := by
    intro p q hpq u v h1 h2
    have : u * D < v * D := by rw [h1, h2]; exact Nat.mul_lt_mul_of_pos_right hpq U_pos
    exact Nat.lt_of_mul_lt_mul_right this
  refine ⟨fun h => ?_, fun h => ?_, fun h => ?_⟩
  · rw [Int.compare_eq_lt.mpr (Int.ofNat_lt.mpr (key _ _ h _ _ hva hvb))]
  · have : V a = V b := Nat.eq_of_mul_eq_mul_right hD (by rw [hva, hvb, h])
    rw [this]; simp
  · rw [Int.compare_eq_gt.mpr (Int.ofNat_lt.mpr (key _ _ h _ _ hvb hva))]
theorem decode_zero {x : UInt64} {m : Nat} {e : Int} (h : decode x = .fin false m e) : isZero x = (m == 0) := by
  unfold isZero; rw [h]
  cases m <;> rfl
theorem Fv.zero_iff {x : UInt64} {N D : Nat} (hx : Fv x N D) (hD : 0 < D) : isZero x = (N == 0) := by
  obtain ⟨a, rfl, ha, hva⟩ := hx
  obtain ⟨m, e, hda, hm⟩ := decode_pack false ha
  rw [decode_zero hda]
  have h1 : m = 0 ↔ N = 0 := by
    have p1 : 0 < 2 ^ (e + 1074).toNat := Nat.two_pow_pos _
    constructor
    · intro h
      rw [h, Nat.zero_mul] at hm
      rw [← hm, Nat.zero_mul] at hva
      rcases Nat.mul_eq_zero.mp hva.symm with q | q
      · exact q
      · exact absurd q (Nat.ne_of_gt U_pos)
    · intro h
      rw [h, Nat.zero_mul] at hva
      rcases Nat.mul_eq_zero.mp hva with q | q
      · rw [q] at hm
        rcases Nat.mul_eq_zero.mp hm with q | q
        · exact q
        · omega
      · omega
  by_cases h : N = 0
  · rw [h, h1.mpr h]
  · rw [beq_eq_false_iff_ne.mpr h, beq_eq_false_iff_ne.mpr (fun e => h (h1.mp e))]
/-- what two floats of no sign add up to -/
theorem add_nr {a b : Nat} (ha : a < infMag) (hb : b < infMag) (h : V a + V b ≤ 2 ^ 64 * U) : ∃ t, add (pack false a) (pack false b) = pack false t ∧ t < infMag ∧ Nr t (V a + V b) 1 := by
  obtain ⟨m, e, hda, _⟩ := decode_pack false ha
  obtain ⟨m', e', hdb, _⟩ := decode_pack false hb
  have R := add_right hda hdb
  rw [pack_val ha, pack_val hb] at R
  by_cases hz : (V a : Int) + (V b : Int) = 0
  · refine ⟨0, R.1 hz, by decide, fun t' => ?_⟩
    have e1 : V a + V b = 0 := by omega
    rw [e1, V_zero]; simp [dist_self]
  · have R2 := R.2 hz
    have e1 : decide ((V a : Int) + (V b : Int) < 0) = false := decide_eq_false (by omega)
    have e2 : ((V a : Int) + (V b : Int)).natAbs = V a + V b := by omega
    rw [e1, e2] at R2
    exact right_nr (by decide) (by rw [Nat.one_mul]; exact h) R2
theorem sub_nr {a b : Nat} (ha : a < infMag) (hb : b < infMag) (hle : V b ≤ V a) (h : V a ≤ 2 ^ 64 * U) : ∃ t, sub (pack false a) (pack false b) = pack false t ∧ t < infMag ∧ Nr t (V a - V b) 1 := by
  obtain ⟨m, e, hda, _⟩ := decode_pack false ha
  obtain ⟨m', e', hdb, _⟩ := decode_pack false hb
  have R := sub_right hda hdb
  rw [pack_val ha, pack_val hb] at R
  by_cases hz : (V a : Int) - (V b : Int) = 0
  · refine ⟨0, R.1 hz, by decide, fun t' => ?_⟩
    have e1 : V a - V b = 0 := by omega
    rw [e1, V_zero]; simp [dist_self]
  · have R2 := R.2 hz
    have e1 : decide ((V a : Int) - (V b : Int) < 0) = false := decide_eq_false (by omega)
    have e2 : ((V a : Int) - (V b : Int)).natAbs = V a - V b := by omega
    rw [e1, e2] at R2
    exact right_nr (by decide) (by rw [Nat.one_mul]; omega) R2
theorem sub_neg {a b : Nat} (ha : a < infMag) (hb : b < infMag) (hlt : V a < V b) (h : V b ≤ 2 ^ 64 * U) : ∃ t, sub (pack false a) (pack false b) = pack true t ∧ t < infMag ∧ Nr t (V b - V a) 1 := by
  obtain ⟨m, e, hda, _⟩ := decode_pack false ha
  obtain ⟨m', e', hdb, _⟩ := decode_pack false hb
  have R := sub_right hda hdb
  rw [pack_val ha, pack_val hb] at R
  have R2 := R.2 (by omega)
  have e1 : decide ((V a : Int) - (V b : Int) < 0) = true := decide_eq_true (by omega)
  have e2 : ((V a : Int) - (V b : Int)).natAbs = V b - V a := by omega
  rw [e1, e2] at R2
  exact right_nr (by decide) (by rw [Nat.one_mul]; omega) R2
theorem Fv.add {x y z : UInt64} {N M D : Nat} (hx : Fv x N D) (hy : Fv y M D) (hz : Fv z (N + M) D) (hD : 0 < D) (hN : N + M ≤ D * 2 ^ 64) : Float64.add x y = z := by
  obtain ⟨a, rfl, ha, hva⟩ := hx
  obtain ⟨b, rfl, hb, hvb⟩ := hy
  obtain ⟨c, rfl, hc, hvc⟩ := hz
  have hs : V c = V a + V b := Nat.eq_of_mul_eq_mul_right hD (by rw [Nat.add_mul, hva, hvb, hvc, Nat.add_mul])
  have hsz : V a + V b ≤ 2 ^ 64 * U := by
    rw [← hs]
    refine Nat.le_of_mul_le_mul_right (c := D) ?_ hD
    rw [hvc]
    calc (N + M) * U ≤ D * 2 ^ 64 * U := Nat.mul_le_mul_right _ hN
      _ = 2 ^ 64 * U * D := by rw [Nat.mul_comm D, Nat.mul_assoc, Nat.mul_assoc, Nat.mul_comm D]
  obtain ⟨t, ht, _, hn⟩ := add_nr ha hb hsz
  rw [ht, nr_exact hn (by decide) (by rw [Nat.one_mul]; exact hs)]
theorem Fv.le_of {a N D : Nat} (hv : V a * D = N * U) (hD : 0 < D) (hN : N ≤ D * 2 ^ 64) : V a ≤ 2 ^ 64 * U := by
  refine Nat.le_of_mul_le_mul_right (c := D) ?_ hD
  rw [hv]
  calc N * U ≤ D * 2 ^ 64 * U := Nat.mul_le_mul_right _ hN
    _ = 2 ^ 64 * U * D := by rw [Nat.mul_comm D, Nat.mul_assoc, Nat.mul_assoc, Nat.mul_comm D]
theorem Fv.sub {x y z : UInt64} {N M D : Nat} (hx : Fv x N D) (hy : Fv y M D) (hle : M ≤ N) (hz : Fv z (N - M) D) (hD : 0 < D) (hN : N ≤ D * 2 ^ 64) : Float64.sub x y = z := by
  obtain ⟨a, rfl, ha, hva⟩ := hx
  obtain ⟨b, rfl, hb, hvb⟩ := hy
  obtain ⟨c, rfl, hc, hvc⟩ := hz
  have hba : V b ≤ V a := by
    refine Nat.le_of_mul_le_mul_right (c := D) ?_ hD
    rw [hva, hvb]; exact Nat.mul_le_mul_right _ hle
  have hs : V c = V a - V b := Nat.eq_of_mul_eq_mul_right hD (by rw [Nat.sub_mul, hva, hvb, hvc, Nat.sub_mul])
  obtain ⟨t, ht, _, hn⟩ := sub_nr ha hb hba (Fv.le_of hva hD hN)
  rw [ht, nr_exact hn (by decide) (by rw [Nat.one_mul]; exact hs)]
/-- a quotient -/
theorem div_eq {s : Bool} {a b : Nat} {M D : Nat} (ha : a < infMag) (hb : b < infMag) (hv : V b * D = M * U) (hM : 0 < M) : Float64.div (pack s a) (pack false b) = Float64.ofFrac s (V a * D) (M * U) := by
  obtain ⟨m, e, hda, _⟩ := decode_pack s ha
  obtain ⟨m', e', hdb, hm'⟩ := decode_pack false hb
  have hVb : 0 < V b := by
    rcases Nat.eq_zero_or_pos (V b) with q | q
    · rw [q, Nat.zero_mul] at hv
      rcases Nat.mul_eq_zero.mp hv.symm with z | z
      · omega
      · exact absurd z (Nat.ne_of_gt U_pos)
    · exact q
  have hk : m' ≠ 0 := by
    intro h; rw [h, Nat.zero_mul] at hm'; omega
  have R := div_right hda hdb hk
  have e1 : (val (pack s a)).natAbs = V a := by rw [val_pack s ha, sgn_natAbs]
  have e2 : (val (pack false b)).natAbs = V b := by rw [val_pack false hb, sgn_natAbs]
  have e3 : (s != false) = s := by cases s <;> rfl
  rw [e1, e2, e3] at R
  refine right_uniq hVb (Nat.mul_pos hM U_pos) ?_ R (ofFrac_right (n := V a * D) (d := M * U) (W := V a * D * 2 ^ 1074) (D := M * U) (Nat.mul_pos hM U_pos) rfl (Nat.mul_pos hM U_pos))
  show V a * U * (M * U) = V a * D * U * V b
  rw [← hv]
  generalize U = X
  ac_rfl
theorem Fv.div {x y : UInt64} {N D M D' : Nat} (hx : Fv x N D) (hy : Fv y M D') (hD : 0 < D) (hD' : 0 < D') (hM : 0 < M) : Float64.div x y = Float64.ofFrac false (N * D') (D * M) := by
  obtain ⟨a, rfl, ha, hva⟩ := hx
  obtain ⟨b, rfl, hb, hvb⟩ := hy
  rw [div_eq ha hb hvb hM]
  refine ofFrac_congr (Nat.mul_pos hM U_pos) (Nat.mul_pos hD hM) ?_
  calc V a * D' * (D * M) = V a * D * D' * M := by ac_rfl
    _ = N * U * D' * M := by rw [hva]
    _ = N * D' * (M * U) := by generalize U = X; ac_rfl
end
/-! FO -/
section
open PySem PySem.Float64
theorem nr_le {t c W D : Nat} (h : Nr t W D) (hD : 0 < D) (hc : W ≤ D * V c) : V t ≤ V c := by
  rcases Nat.lt_or_ge (V c) (V t) with q | q
  · exfalso
    have := h c
    have k := Nat.mul_lt_mul_of_pos_left q hD
    unfold dist at this; omega
  · exact q
theorem nr_ge {t c W D : Nat} (h : Nr t W D) (hD : 0 < D) (hc : D * V c ≤ W) : V c ≤ V t := by
  rcases Nat.lt_or_ge (V t) (V c) with q | q
  · exfalso
    have := h c
    have k := Nat.mul_lt_mul_of_pos_left q hD
    unfold dist at this; omega
  · exact q
theorem Fv_one : Fv 4607182418800017408 1 1 := by have := Fv.mk 1 0 (by decide) (by decide); rwa [show Float64.ofFrac false 1 (2 ^ 0) = 4607182418800017408 by decide +kernel] at this
theorem Fv_two : Fv 4611686018427387904 2 1 := by have := Fv.mk 2 0 (by decide) (by decide); rwa [show Float64.ofFrac false 2 (2 ^ 0) = 4611686018427387904 by decide +kernel] at this
theorem Fv_four : Fv 4616189618054758400 4 1 := by have := Fv.mk 4 0 (by decide) (by decide); rwa [show Float64.ofFrac false 4 (2 ^ 0) = 4616189618054758400 by decide +kernel] at this
theorem Fv_three : Fv 4613937818241073152 3 1 := by have := Fv.mk 3 0 (by decide) (by decide); rwa [show Float64.ofFrac false 3 (2 ^ 0) = 4613937818241073152 by decide +kernel] at this
theorem Fv_five : Fv 4617315517961601024 5 1 := by have := Fv.mk 5 0 (by decide) (by decide); rwa [show Float64.ofFrac false 5 (2 ^ 0) = 4617315517961601024 by decide +kernel] at this
theorem Fv_six : Fv 4618441417868443648 6 1 := by have := Fv.mk 6 0 (by decide) (by decide); rwa [show Float64.ofFrac false 6 (2 ^ 0) = 4618441417868443648 by decide +kernel] at this
theorem Fv_half : Fv 4602678819172646912 1 2 := by have := Fv.mk 1 1 (by decide) (by decide); rwa [show Float64.ofFrac false 1 (2 ^ 1) = 4602678819172646912 by decide +kernel] at this
theorem Fv_zero : Fv 0 0 1 := by have := Fv.mk 0 0 (by decide) (by decide); rwa [show Float64.ofFrac false 0 (2 ^ 0) = 0 by decide +kernel] at this
theorem grid (j : Nat) : 2 ^ 53 * 2 ^ (1021 + j) = 2 ^ j * U := by
  unfold U; rw [← Nat.pow_add, ← Nat.pow_add]; congr 1; omega
theorem gridG (j : Nat) : 2 ^ (1021 + j) = 2 * (2 ^ j * G) := by
  unfold G; rw [show 1021 + j = 1 + (j + 1020) by omega, Nat.pow_add, Nat.pow_add]
/-- the error of a rounding of what is at most 2 ^ j -/
theorem nr_err' {t W D : Nat} (j : Nat) (h : Nr t W D) (hD : 0 < D) (hW : W ≤ D * (2 ^ j * U)) : dist W (D * V t) ≤ D * (2 ^ j * G) := by
  have := nr_err (1021 + j) h hD (by rw [grid]; exact hW)
  rw [gridG, Nat.mul_left_comm] at this
  omega
/-- a share u of n -/
theorem share_nr {u n : Nat} (hn : 0 < n) (hu : u ≤ n) : ∃ t, Float64.ofFrac false u n = pack false t ∧ t < infMag ∧ Nr t (u * U) n ∧ V t ≤ U ∧ dist (u * U) (n * V t) ≤ n * G := by
  have hW : u * U ≤ n * (2 ^ 0 * U) := by rw [Nat.pow_zero, Nat.one_mul]; exact Nat.mul_le_mul_right _ hu
  obtain ⟨t, ht, hi, hN⟩ := right_nr (r := Float64.ofFrac false u n) (neg := false) (W := u * U) (D := n) hn (Nat.le_trans hW (Nat.mul_le_mul_left _ (Nat.mul_le_mul_right _ (by decide)))) (ofFrac_right hn (by unfold U; rfl) hn)
  have he := nr_err' 0 hN hn hW
  rw [Nat.pow_zero, Nat.one_mul] at he
  obtain ⟨c, hc1, hc2, hc3⟩ := Fv_one
  have hVc : V c = U := by rw [Nat.mul_one, Nat.one_mul] at hc3; exact hc3
  refine ⟨t, ht, hi, hN, ?_, he⟩
  have := nr_le (c := c) hN hn (by rw [hVc]; exact Nat.mul_le_mul_right _ hu)
  rw [hVc] at this; exact this
/-- fmod by something greater -/
theorem fmod_lt {s : Bool} {a b : Nat} (ha : a < infMag) (hb : b < infMag) (h : V a < V b) (hsz : V b ≤ 2 ^ 64 * U) : fmod (pack s a) (pack false b) = pack s a := by
  obtain ⟨m, e, hda, hm⟩ := decode_pack s ha
  obtain ⟨k, f, hdb, hk⟩ := decode_pack false hb
  have he := decode_ge hda
  have hf := decode_ge hdb
  have hk0 : k ≠ 0 := by intro h0; rw [h0, Nat.zero_mul] at hk; omega
  have hfm : fmod (pack s a) (pack false b) = ofBin s ((m * 2 ^ (e - min e f).toNat) % (k * 2 ^ (f - min e f).toNat)) (min e f) := by
    unfold fmod
    rw [hda, hdb]
    simp only
    rw [if_neg (by simpa using hk0)]
    have hs : ∀ x : Nat, (sgn false x).toNat = x := fun x => by simp [sgn]
    simp only [align, hs]
  have e1 : m * 2 ^ (e - min e f).toNat * 2 ^ (min e f + 1074).toNat = V a := by
    rw [Nat.mul_assoc, ← Nat.pow_add, ← hm]; congr 2; omega
  have e2 : k * 2 ^ (f - min e f).toNat * 2 ^ (min e f + 1074).toNat = V b := by
    rw [Nat.mul_assoc, ← Nat.pow_add, ← hk]; congr 2; omega
  have hlt : m * 2 ^ (e - min e f).toNat < k * 2 ^ (f - min e f).toNat := by
    refine Nat.lt_of_mul_lt_mul_right (a := 2 ^ (min e f + 1074).toNat) ?_
    rw [e1, e2]; exact h
  rw [hfm, Nat.mod_eq_of_lt hlt]
  have R := ofBin_right (neg := s) (M := m * 2 ^ (e - min e f).toNat) (g := min e f) (by omega)
  rw [e1] at R
  obtain ⟨t, ht, _, hN⟩ := right_nr (by decide) (by rw [Nat.one_mul]; omega) R
  rw [ht, nr_exact hN (by decide) (Nat.one_mul _)]
theorem isZero_pack {s : Bool} {a : Nat} (ha : a < infMag) : isZero (pack s a) = (V a == 0) := by
  obtain ⟨m, e, hda, hm⟩ := decode_pack s ha
  have h1 : isZero (pack s a) = (m == 0) := by
    unfold isZero; rw [hda]
    cases m <;> rfl
  rw [h1]
  have p1 : 0 < 2 ^ (e + 1074).toNat := Nat.two_pow_pos _
  by_cases h : m = 0
  · rw [h, Nat.zero_mul] at hm; rw [h, ← hm]
  · have : V a ≠ 0 := by rw [← hm]; exact Nat.ne_of_gt (Nat.mul_pos (Nat.pos_of_ne_zero h) p1)
    rw [beq_eq_false_iff_ne.mpr h, beq_eq_false_iff_ne.mpr this]
theorem lt_zero_pack {s : Bool} {a : Nat} (ha : a < infMag) (hv : V a ≠ 0) : Float64.lt (pack s a) (Float64.zero false) = s := by
  obtain ⟨m, e, hda, _⟩ := decode_pack s ha
  obtain ⟨m', e', hdb, hm'⟩ := decode_pack false (t := 0) (by decide)
  unfold Float64.lt
  have hz : Float64.zero false = pack false 0 := rfl
  rw [hz, cmp_right hda hdb, val_pack s ha, val_pack false (by decide), V_zero]
  cases s with
  | false =>
    have : ¬ ((V a : Int) < 0) := by omega
    show (some (compare (V a : Int) 0) == some Ordering.lt) = false
    have hc : compare (V a : Int) 0 = .gt := Int.compare_eq_gt.mpr (by omega)
    rw [hc]; rfl
  | true =>
    show (some (compare (-(V a : Int)) 0) == some Ordering.lt) = true
    have hc : compare (-(V a : Int)) 0 = .lt := Int.compare_eq_lt.mpr (by omega)
    rw [hc]; rfl
/-- x % 1.0 for 0 ≤ x < 1 -/
theorem mod1_pos {d : Nat} (hd : d < infMag) (h : V d < U) : (Float64.divmod (pack false d) 4607182418800017408).2 = pack false d := by
  obtain ⟨c, hc1, hc2, hc3⟩ := Fv_one
  have hVc : V c = U := by rw [Nat.mul_one, Nat.one_mul] at hc3; exact hc3
  rw [hc1]
  have hf : fmod (pack false d) (pack false c) = pack false d := fmod_lt hd hc2 (by omega) (by rw [hVc]; exact Nat.le_mul_of_pos_left _ (by decide))
  unfold Float64.divmod
  rw [hf]
  by_cases hz : V d = 0
  · have : isZero (pack false d) = true := by rw [isZero_pack hd, hz]; rfl
    simp only [this, if_true]
    have hd0 : d = 0 := V_inj (by rw [hz, V_zero])
    rw [hd0, ← hc1]
    decide +kernel
  · have h1 : isZero (pack false d) = false := by rw [isZero_pack hd]; exact beq_eq_false_iff_ne.mpr hz
    have h2 : Float64.lt (pack false d) (Float64.zero false) = false := lt_zero_pack hd hz
    have h3 : Float64.lt (pack false c) (Float64.zero false) = false := lt_zero_pack hc2 (by rw [hVc]; exact Nat.ne_of_gt U_pos)
    simp only [h1, h2, h3, bne_self_eq_false, Bool.false_eq_true, if_false]
/-- x % 1.0 for -1 < x < 0 -/
theorem mod1_neg {d : Nat} (hd : d < infMag) (h : V d < U) (h0 : V d ≠ 0) : ∃ e, (Float64.divmod (pack true d) 4607182418800017408).2 = pack false e ∧ e < infMag ∧ Nr e (U - V d) 1 := by
  obtain ⟨c, hc1, hc2, hc3⟩ := Fv_one
  have hVc : V c = U := by rw [Nat.mul_one, Nat.one_mul] at hc3; exact hc3
  rw [hc1]
  have hf : fmod (pack true d) (pack false c) = pack true d := fmod_lt hd hc2 (by omega) (by rw [hVc]; exact Nat.le_mul_of_pos_left _ (by decide))
  have hm : (Float64.divmod (pack true d) (pack false c)).2 = Float64.add (pack true d) (pack false c) := by
    unfold Float64.divmod
    rw [hf]
    have h1 : isZero (pack true d) = false := by rw [isZero_pack hd]; exact beq_eq_false_iff_ne.mpr h0
    have h2 : Float64.lt (pack true d) (Float64.zero false) = true := lt_zero_pack hd h0
    have h3 : Float64.lt (pack false c) (Float64.zero false) = false := lt_zero_pack hc2 (by rw [hVc]; exact Nat.ne_of_gt U_pos)
    simp only [h1, h2, h3, Bool.false_bne, Bool.false_eq_true, if_false, if_true]
  rw [hm]
  obtain ⟨m, e, hda, _⟩ := decode_pack true hd
  obtain ⟨m', e', hdb, _⟩ := decode_pack false hc2
  have R := add_right hda hdb
  have v1 : val (pack true d) = -(V d : Int) := by rw [val_pack true hd]; rfl
  have v2 : val (pack false c) = (U : Int) := by rw [pack_val hc2, hVc]
  rw [v1, v2] at R
  have R2 := R.2 (by omega)
  have e1 : decide (-(V d : Int) + (U : Int) < 0) = false := decide_eq_false (by omega)
  have e2 : (-(V d : Int) + (U : Int)).natAbs = U - V d := by omega
  rw [e1, e2] at R2
  exact right_nr (by decide) (by rw [Nat.one_mul]; exact Nat.le_trans (Nat.sub_le _ _) (Nat.le_mul_of_pos_left _ (by decide))) R2
theorem cmp_self {t : Nat} (ht : t < infMag) : Float64.cmp (pack false t) (pack false t) = some .eq := by
  obtain ⟨m, f, hd, _⟩ := decode_pack false ht
  rw [cmp_right hd hd]; simp
theorem dist_le {a b c : Nat} : dist a b ≤ c ↔ a ≤ b + c ∧ b ≤ a + c := by unfold dist; omega
theorem dist_lt {a b c : Nat} : dist a b < c ↔ a < b + c ∧ b < a + c := by unfold dist; omega
end
/-! FP -/
section
open PySem PySem.Float64
/-- a hue that lies close to the place P of 6 n -/
def HueAt (H : UInt64) (n P : Nat) : Prop := ∃ e, H = pack false e ∧ e < infMag ∧ V e ≤ U ∧ dist (V e * (6 * n)) (P * U) ≤ 32 * (n * G)
theorem div6 {s : Bool} {z : Nat} (hz : z < infMag) (hV : V z ≤ 6 * U) : ∃ d, Float64.div (pack s z) 4618441417868443648 = pack s d ∧ d < infMag ∧ Nr d (V z) 6 ∧ dist (V z) (6 * V d) ≤ 6 * G := by
  obtain ⟨c, hc1, hc2, hc3⟩ := Fv_six
  rw [hc1, div_eq hz hc2 hc3 (by decide), Nat.mul_one]
  obtain ⟨d, h1, h2, h3⟩ := right_nr (W := V z) (D := 6) (by decide) (by
    refine Nat.le_trans hV (Nat.mul_le_mul_left _ (Nat.le_mul_of_pos_left _ (by decide)))) (ofFrac_right (neg := s) (n := V z) (d := 6 * U) (W := V z) (D := 6) (Nat.mul_pos (by decide) U_pos) (by unfold U; rw [Nat.mul_assoc, Nat.mul_comm (2 ^ 1074) 6]) (by decide))
  have he := nr_err' 0 h3 (by decide) (by rw [Nat.pow_zero, Nat.one_mul]; exact hV)
  rw [Nat.pow_zero, Nat.one_mul] at he
  exact ⟨d, h1, h2, h3, he⟩
theorem dist_tri (a b c : Nat) : dist a c ≤ dist a b + dist b c := by
  obtain ⟨a1, a2⟩ := dist_le.mp (Nat.le_refl (dist a b))
  obtain ⟨b1, b2⟩ := dist_le.mp (Nat.le_refl (dist b c))
  exact dist_le.mpr ⟨by omega, by omega⟩
theorem dist_mulr (a b m : Nat) : dist (a * m) (b * m) = dist a b * m := by rw [Nat.mul_comm a, Nat.mul_comm b, dist_mul, Nat.mul_comm]
theorem hue_pos {n P z : Nat} (hn : 0 < n) (hz : z < infMag) (hP : P ≤ 5 * n) (hd : dist (V z * n) (P * U) ≤ 17 * (n * G)) :
    HueAt (Float64.divmod (Float64.div (pack false z) 4618441417868443648) 4607182418800017408).2 n P := by
  have hVz : V z ≤ 5 * U + 17 * G := by
    refine Nat.le_of_mul_le_mul_right (c := n) ?_ hn
    have h1 : P * U ≤ 5 * n * U := Nat.mul_le_mul_right _ hP
    have h2 : (5 * U + 17 * G) * n = 5 * n * U + 17 * (n * G) := by
      rw [Nat.add_mul, Nat.mul_right_comm 5 U n, Nat.mul_assoc 17 G n, Nat.mul_comm G n]
    rw [h2]
    unfold dist at hd; omega
  have hG := G_pos
  have hU := U_eq
  obtain ⟨d, e1, hdi, hN, he⟩ := div6 (s := false) hz (by omega)
  rw [e1]
  have hVd : V d < U := by unfold dist at he; omega
  rw [mod1_pos hdi hVd]
  refine ⟨d, rfl, hdi, by omega, ?_⟩
  have h1 : dist (V d * (6 * n)) (V z * n) ≤ 6 * G * n := by
    have : dist (V d * 6 * n) (V z * n) = dist (V d * 6) (V z) * n := dist_mulr _ _ _
    rw [← Nat.mul_assoc, this]
    refine Nat.mul_le_mul_right _ ?_
    rw [dist_comm, Nat.mul_comm (V d)]; exact he
  have h2 := dist_tri (V d * (6 * n)) (V z * n) (P * U)
  have h3 : 6 * G * n = 6 * (n * G) := by rw [Nat.mul_assoc, Nat.mul_comm G]
  omega
theorem hue_neg {n x z P : Nat} (hn : 0 < n) (hn2 : n ≤ 1099511627776) (hz : z < infMag) (hx0 : 0 < x) (hx : x ≤ n) (hd : dist (V z * n) (x * U) ≤ 2 * (n * G)) (hP : P + x = 6 * n) :
    HueAt (Float64.divmod (Float64.div (pack true z) 4618441417868443648) 4607182418800017408).2 n P := by
  have hG := G_pos
  have hU := U_eq
  obtain ⟨d1, d2⟩ := dist_le.mp hd
  clear hd
  have hVz : V z ≤ U + 2 * G := by
    refine Nat.le_of_mul_le_mul_right (c := n) ?_ hn
    have h1 : x * U ≤ n * U := Nat.mul_le_mul_right _ hx
    have h2 : (U + 2 * G) * n = n * U + 2 * (n * G) := by
      rw [Nat.add_mul, Nat.mul_comm U, Nat.mul_assoc, Nat.mul_comm G]
    rw [h2]
    clear h2 d2 hP
    omega
  have hVz2 : 100 * G ≤ V z := by
    refine Nat.le_of_mul_le_mul_right (c := n) ?_ hn
    have h1 : U ≤ x * U := Nat.le_mul_of_pos_left _ hx0
    have h2 : 100 * G * n = 100 * (n * G) := by rw [Nat.mul_assoc, Nat.mul_comm G]
    have h3 : n * G ≤ 1099511627776 * G := Nat.mul_le_mul_right _ hn2
    rw [h2]
    clear h2 d1 hP
    omega
  obtain ⟨d, e1, hdi, hN, he⟩ := div6 (s := true) hz (by omega)
  rw [e1]
  obtain ⟨he1, he2⟩ := dist_le.mp he
  have hVd : V d < U := by clear d1 d2 hP he he1; omega
  have hVd0 : V d ≠ 0 := by clear d1 d2 hP he he2; omega
  obtain ⟨e, e2, hei, hNe⟩ := mod1_neg hdi hVd hVd0
  rw [e2]
  have hee := nr_err' 0 hNe (by decide) (by rw [Nat.pow_zero, Nat.one_mul, Nat.one_mul]; exact Nat.sub_le _ _)
  rw [Nat.pow_zero, Nat.one_mul, Nat.one_mul, Nat.one_mul] at hee
  obtain ⟨c, hc1, hc2, hc3⟩ := Fv_one
  have hVc : V c = U := by rw [Nat.mul_one, Nat.one_mul] at hc3; exact hc3
  refine ⟨e, rfl, hei, ?_, ?_⟩
  · have := nr_le (c := c) hNe (by decide) (by rw [hVc, Nat.one_mul]; exact Nat.sub_le _ _)
    rw [hVc] at this; exact this
  · -- 6 n e = 6 n (U - d) up to 6 n G; 6 n d = x U up to 8 n G
    have hX := Nat.sub_add_cancel (Nat.le_of_lt hVd)
    generalize U - V d = X at hX hee
    obtain ⟨a1, a2⟩ := dist_le.mp hee
    have b1 := Nat.mul_le_mul_right (6 * n) a1
    have b2 := Nat.mul_le_mul_right (6 * n) a2
    have c1 := Nat.mul_le_mul_right n he1
    have c2 := Nat.mul_le_mul_right n he2
    have h5 : G * (6 * n) = 6 * (n * G) := by rw [Nat.mul_left_comm, Nat.mul_comm G]
    have h6 : X * (6 * n) + V d * (6 * n) = U * (6 * n) := by rw [← Nat.add_mul, hX]
    have h7 : P * U + x * U = U * (6 * n) := by rw [← Nat.add_mul, hP, Nat.mul_comm]
    have h8 : 6 * V d * n = V d * (6 * n) := by rw [Nat.mul_comm 6, Nat.mul_assoc]
    have h9 : 6 * G * n = 6 * (n * G) := by rw [Nat.mul_assoc, Nat.mul_comm G]
    rw [Nat.add_mul, h5] at b1 b2
    rw [Nat.add_mul, h8, h9] at c1 c2
    clear h5 h8 h9 hX hP hVc hc3 hee a1 a2 he he1 he2 hVd hVd0 hVz hVz2 hU
    exact dist_le.mpr ⟨by omega, by omega⟩
theorem Nr.scale {t W D : Nat} (k : Nat) (hk : 0 < k) (h : Nr t (k * W) (k * D)) : Nr t W D := fun t' => by
  have := h t'
  rw [dist_scale, dist_scale] at this
  exact Nat.le_of_mul_le_mul_left this hk
theorem nearest_pack {p j : Nat} (hp : p < infMag) (h : 2 * dist (V p) (j * U) < U) : Flt.toInt Float64.nearestOf (pack false p) = (j : Int) := by
  obtain ⟨m, e, hd, hm⟩ := decode_pack false hp
  have hg := decode_ge hd
  unfold Flt.toInt
  rw [hd]
  show Float64.nearestOf false m e = j
  unfold Float64.nearestOf
  have hs := shift_one m e 1074 (by omega)
  have hpos := shift_pos m 1 e (by decide)
  have hs' : (shift m 1 e).1 * U = V p * (shift m 1 e).2 := by
    have : (e + ((1074 : Nat) : Int)).toNat = (e + 1074).toNat := rfl
    rw [this, hm] at hs
    exact hs
  show sgn false (halfEven (shift m 1 e).1 (shift m 1 e).2) = j
  generalize (shift m 1 e).1 = a at *
  generalize (shift m 1 e).2 = d at *
  have hh := halfEven_nearest a d hpos j
  have key : 2 * dist a (d * j) < d := by
    refine Nat.lt_of_mul_lt_mul_right (a := U) ?_
    have e1 : dist a (d * j) * U = d * dist (V p) (j * U) := by
      rw [← dist_mulr, hs', ← dist_mul, Nat.mul_comm (V p) d, Nat.mul_assoc d j U]
    rw [Nat.mul_assoc, e1, Nat.mul_left_comm]
    exact Nat.mul_lt_mul_of_pos_left h hpos
  have hj : halfEven a d = j := by
    generalize halfEven a d = q at hh
    rcases Nat.lt_trichotomy q j with c | c | c
    · have : d * (q + 1) ≤ d * j := Nat.mul_le_mul_left _ c
      rw [Nat.mul_add, Nat.mul_one] at this
      unfold dist at *; omega
    · exact c
    · have : d * (j + 1) ≤ d * q := Nat.mul_le_mul_left _ c
      rw [Nat.mul_add, Nat.mul_one] at this
      unfold dist at *; omega
  rw [hj]
  unfold sgn; simp
/-- the spot: the product is rounded to a whole number of parts -/
theorem spot_of {H : UInt64} {n P fine : Nat} (h : HueAt H n P) (hf : n * fine ≤ 1099511627776) :
    isFinite (Float64.mul (Float64.ofInt ((6 * n * fine : Nat) : Int)) H) = true ∧ Flt.toInt Float64.nearestOf (Float64.mul (Float64.ofInt ((6 * n * fine : Nat) : Int)) H) = ((P * fine : Nat) : Int) := by
  obtain ⟨e, rfl, hei, hVe, hd⟩ := h
  have hK : 6 * n * fine ≤ 6597069766656 := by rw [Nat.mul_assoc]; omega
  have hx : Fv (Float64.ofInt ((6 * n * fine : Nat) : Int)) (6 * n * fine) 1 := by
    have := Fv.mk (6 * n * fine) 0 (by decide) (by omega)
    have e1 : Float64.ofInt ((6 * n * fine : Nat) : Int) = Float64.ofFrac false (6 * n * fine) (2 ^ 0) := by
      unfold Float64.ofInt
      have : decide (((6 * n * fine : Nat) : Int) < 0) = false := decide_eq_false (by omega)
      rw [this, Int.natAbs_natCast]
    rw [e1]; exact this
  generalize hKe : 6 * n * fine = K at *
  obtain ⟨k, hk1, hk2, hk3⟩ := hx
  rw [hk1]
  obtain ⟨m, f, hda, _⟩ := decode_pack false hk2
  obtain ⟨m', f', hdb, _⟩ := decode_pack false hei
  have R := mul_right hda hdb
  rw [pack_val hk2, pack_val hei] at R
  have e2 : (false != false) = false := rfl
  rw [e2, Int.natAbs_natCast, Int.natAbs_natCast] at R
  have hVk : V k = K * U := by rw [Nat.mul_one] at hk3; exact hk3
  rw [hVk] at R
  have hle : K * U * V e ≤ U * (2 ^ 43 * U) := by
    have h1 : K * U ≤ U * 2 ^ 43 := by rw [Nat.mul_comm]; exact Nat.mul_le_mul_left _ (by omega)
    calc K * U * V e ≤ U * 2 ^ 43 * U := Nat.mul_le_mul h1 hVe
      _ = U * (2 ^ 43 * U) := Nat.mul_assoc ..
  obtain ⟨p, hp1, hp2, hp3⟩ := right_nr U_pos (Nat.le_trans hle (Nat.mul_le_mul_left _ (Nat.mul_le_mul_right _ (by decide)))) R
  have hp4 : Nr p (K * V e) 1 := Nr.scale U U_pos (by
    rw [Nat.mul_one, show U * (K * V e) = K * U * V e by rw [Nat.mul_left_comm, Nat.mul_assoc]]; exact hp3)
  have hle2 : K * V e ≤ 1 * (2 ^ 43 * U) := by rw [Nat.one_mul]; exact Nat.mul_le_mul (by omega) hVe
  have herr := nr_err' 43 hp4 (by decide) hle2
  rw [Nat.one_mul, Nat.one_mul] at herr
  have h3 : dist (K * V e) (P * fine * U) ≤ 32 * (n * fine * G) := by
    have a1 : K * V e = V e * (6 * n) * fine := by rw [← hKe, Nat.mul_comm, Nat.mul_assoc (V e)]
    have a2 : P * fine * U = P * U * fine := Nat.mul_right_comm ..
    rw [a1, a2, dist_mulr]
    calc dist (V e * (6 * n)) (P * U) * fine ≤ 32 * (n * G) * fine := Nat.mul_le_mul_right _ hd
      _ = 32 * (n * fine * G) := by rw [Nat.mul_assoc 32, Nat.mul_right_comm n G fine]
  have h4 : n * fine * G ≤ 1099511627776 * G := Nat.mul_le_mul_right _ hf
  have h5 := dist_tri (V p) (K * V e) (P * fine * U)
  rw [dist_comm] at herr
  have hG := G_pos
  have hU := U_eq
  have hfin : 2 * dist (V p) (P * fine * U) < U := by omega
  rw [hp1]
  refine ⟨?_, nearest_pack hp2 hfin⟩
  obtain ⟨m9, f9, hd9, _⟩ := decode_pack false hp2
  unfold isFinite; rw [hd9]
end
/-! FQ -/
section
open PySem PySem.Float64
theorem share_one {n : Nat} (hn : 0 < n) : Float64.ofFrac false n n = 4607182418800017408 := by
  rw [ofFrac_congr (n' := 1) (d' := 1) hn (by decide) (by rw [Nat.mul_one, Nat.one_mul])]
  decide +kernel
/-- one rounding more, told by its two sides -/
theorem near_sides {X n z : Nat} {k c : Nat} (h : dist X (V z) ≤ c * G) (hk : dist (X * n) k ≤ n * G) : dist (V z * n) k ≤ (c + 1) * (n * G) := by
  obtain ⟨a1, a2⟩ := dist_le.mp h
  obtain ⟨b1, b2⟩ := dist_le.mp hk
  have g1 := Nat.mul_le_mul_right n a1
  have g2 := Nat.mul_le_mul_right n a2
  have e : c * G * n = c * (n * G) := by rw [Nat.mul_assoc, Nat.mul_comm G]
  rw [Nat.add_mul, e] at g1 g2
  rw [Nat.add_mul, Nat.one_mul]
  clear e a1 a2 h hk
  exact dist_le.mpr ⟨by omega, by omega⟩
/-- C - u / n -/
theorem hue_sub {C : UInt64} {k u n Y : Nat} (hC : Fv C k 1) (hk1 : 1 ≤ k) (hk2 : k ≤ 8) (hn : 0 < n) (hu : u ≤ n) (hY : Y + u = k * n) :
    ∃ z, Float64.sub C (Float64.ofFrac false u n) = pack false z ∧ z < infMag ∧ dist (V z * n) (Y * U) ≤ 17 * (n * G) := by
  obtain ⟨c, rfl, hc, hv⟩ := hC
  rw [Nat.mul_one] at hv
  obtain ⟨t, ht, hti, hN, hVt, he⟩ := share_nr hn hu
  have hU1 : U ≤ k * U := Nat.le_mul_of_pos_left _ hk1
  have hU8 : k * U ≤ 8 * U := Nat.mul_le_mul_right _ hk2
  have hbig : 8 * U ≤ 2 ^ 64 * U := Nat.mul_le_mul_right _ (by decide)
  rw [ht]
  have hle : V t ≤ k * U := Nat.le_trans hVt hU1
  obtain ⟨z, hz, hzi, hNz⟩ := sub_nr hc hti (by rw [hv]; exact hle) (by rw [hv]; exact Nat.le_trans hU8 hbig)
  have hez := nr_err' 3 hNz (by decide) (by rw [Nat.one_mul, show (2 : Nat) ^ 3 = 8 by decide, hv]; exact Nat.le_trans (Nat.sub_le _ _) hU8)
  rw [Nat.one_mul, Nat.one_mul, show (2 : Nat) ^ 3 = 8 by decide, hv] at hez
  refine ⟨z, hz, hzi, Nat.le_trans (near_sides hez ?_) (Nat.mul_le_mul_right _ (by decide))⟩
  have hX := Nat.sub_add_cancel hle
  generalize k * U - V t = X at hX
  obtain ⟨f1, f2⟩ := dist_le.mp he
  have g3 : Y * U + u * U = X * n + n * V t := by rw [← Nat.add_mul, hY, Nat.mul_comm n (V t), ← Nat.add_mul, hX, Nat.mul_right_comm]
  clear he hez hX hY hle hbig hU8 hU1 hVt hv
  exact dist_le.mpr ⟨by omega, by omega⟩
/-- C + u / n - 1 -/
theorem hue_add {C : UInt64} {k u n Y : Nat} (hC : Fv C k 1) (hk1 : 1 ≤ k) (hk2 : k ≤ 4) (hn : 0 < n) (hu : u ≤ n) (hY : Y + n = k * n + u) :
    ∃ z, Float64.sub (Float64.add C (Float64.ofFrac false u n)) 4607182418800017408 = pack false z ∧ z < infMag ∧ dist (V z * n) (Y * U) ≤ 17 * (n * G) := by
  obtain ⟨c, rfl, hc, hv⟩ := hC
  rw [Nat.mul_one] at hv
  obtain ⟨o, ho1, ho2, ho3⟩ := Fv_one
  have hVo : V o = U := by rw [Nat.mul_one, Nat.one_mul] at ho3; exact ho3
  obtain ⟨t, ht, hti, hN, hVt, he⟩ := share_nr hn hu
  have hU1 : U ≤ k * U := Nat.le_mul_of_pos_left _ hk1
  have hU8 : k * U ≤ 4 * U := Nat.mul_le_mul_right _ hk2
  have hbig : 8 * U ≤ 2 ^ 64 * U := Nat.mul_le_mul_right _ (by decide)
  have hsum8 : k * U + V t ≤ 5 * U := by rw [Nat.succ_mul 4 U]; exact Nat.add_le_add hU8 hVt
  have h58 : 5 * U ≤ 8 * U := Nat.mul_le_mul_right _ (by decide)
  rw [ht]
  obtain ⟨s, hs, hsi, hNs⟩ := add_nr hc hti (by rw [hv]; exact Nat.le_trans hsum8 (Nat.le_trans h58 hbig))
  have hes := nr_err' 3 hNs (by decide) (by rw [Nat.one_mul, show (2 : Nat) ^ 3 = 8 by decide, hv]; exact Nat.le_trans hsum8 h58)
  rw [Nat.one_mul, Nat.one_mul, show (2 : Nat) ^ 3 = 8 by decide, hv] at hes
  have hsU : U ≤ V s := by
    have := nr_ge (c := o) hNs (by decide) (by rw [Nat.one_mul, hVo, hv]; exact Nat.le_trans hU1 (Nat.le_add_right (k * U) (V t)))
    rw [hVo] at this; exact this
  have hs8 : V s ≤ 8 * U := by
    have hG := G_pos
    have hUe := U_eq
    have := (dist_le.mp hes).2
    clear hes hsU hbig hU8 hU1 hv hVo hVt he
    omega
  rw [hs, ho1]
  obtain ⟨z, hz, hzi, hNz⟩ := sub_nr hsi ho2 (by rw [hVo]; exact hsU) (Nat.le_trans hs8 hbig)
  have hez := nr_err' 3 hNz (by decide) (by rw [Nat.one_mul, show (2 : Nat) ^ 3 = 8 by decide]; exact Nat.le_trans (Nat.sub_le _ _) hs8)
  rw [Nat.one_mul, Nat.one_mul, show (2 : Nat) ^ 3 = 8 by decide, hVo] at hez
  have hS := Nat.sub_add_cancel hsU
  generalize V s - U = S at hS hez
  have hle : U ≤ k * U + V t := Nat.le_trans hU1 (Nat.le_add_right (k * U) (V t))
  have hX := Nat.sub_add_cancel hle
  generalize k * U + V t - U = X at hX
  obtain ⟨f1, f2⟩ := dist_le.mp he
  obtain ⟨s1, s2⟩ := dist_le.mp hes
  obtain ⟨z1, z2⟩ := dist_le.mp hez
  have hzz : dist X (V z) ≤ 16 * G := by
    clear hsum8 h58 hbig hU8 hU1 hVt hv hVo he hes hez f1 f2 hle hs8 hsU hY hu hn hk1 hk2
    exact dist_le.mpr ⟨by omega, by omega⟩
  refine ⟨z, hz, hzi, near_sides hzz ?_⟩
  have g3 : Y * U + n * U = k * U * n + u * U := by rw [← Nat.add_mul, hY, Nat.add_mul, Nat.mul_right_comm]
  have g4 : X * n + n * U = k * U * n + n * V t := by rw [Nat.mul_comm n U, ← Nat.add_mul, hX, Nat.add_mul, Nat.mul_comm n (V t)]
  clear hsum8 h58 hbig hU8 hU1 hVt hv hVo he hes hez s1 s2 z1 z2 hX hS hzz hle hs8 hsU hY
  exact dist_le.mpr ⟨by omega, by omega⟩
/-- u / n - 1 -/
theorem hue_less {u n Y : Nat} (hn : 0 < n) (hn2 : n ≤ 1099511627776) (hu : u < n) (hY : Y + u = n) :
    ∃ z, Float64.sub (Float64.ofFrac false u n) 4607182418800017408 = pack true z ∧ z < infMag ∧ dist (V z * n) (Y * U) ≤ 2 * (n * G) := by
  obtain ⟨o, ho1, ho2, ho3⟩ := Fv_one
  have hVo : V o = U := by rw [Nat.mul_one, Nat.one_mul] at ho3; exact ho3
  obtain ⟨t, ht, hti, hN, hVt, he⟩ := share_nr hn (Nat.le_of_lt hu)
  obtain ⟨f1, f2⟩ := dist_le.mp he
  clear he
  have hlt : V t < U := by
    refine Nat.lt_of_mul_lt_mul_left (a := n) ?_
    have h1 : (u + 1) * U ≤ n * U := Nat.mul_le_mul_right _ hu
    rw [Nat.add_mul, Nat.one_mul] at h1
    have h2 : n * G ≤ 1099511627776 * G := Nat.mul_le_mul_right _ hn2
    have hG := G_pos
    have hUe := U_eq
    clear hVt hVo hY
    omega
  rw [ht, ho1]
  obtain ⟨z, hz, hzi, hNz⟩ := sub_neg hti ho2 (by rw [hVo]; exact hlt) (by rw [hVo]; exact Nat.le_mul_of_pos_left _ (by decide))
  have hez := nr_err' 0 hNz (by decide) (by rw [Nat.one_mul, Nat.pow_zero, Nat.one_mul, hVo]; exact Nat.sub_le _ _)
  rw [Nat.one_mul, Nat.one_mul, Nat.pow_zero, hVo] at hez
  refine ⟨z, hz, hzi, near_sides hez ?_⟩
  have hX := Nat.sub_add_cancel hVt
  generalize U - V t = X at hX
  have g3 : Y * U + u * U = X * n + n * V t := by rw [← Nat.add_mul, hY, Nat.mul_comm n (V t), ← Nat.add_mul, hX, Nat.mul_comm]
  clear hez hX hVt hVo hlt hY
  exact dist_le.mpr ⟨by omega, by omega⟩
end
/-! FT -/
section
open PySem PySem.Float64
def Qr : Nat := 2 ^ 1018
theorem G_Q : G = 4 * Qr := by
  unfold G Qr
  rw [show (1020 : Nat) = 2 + 1018 from rfl, Nat.pow_add, show (4 : Nat) = 2 ^ 2 from rfl]
theorem Q_pos : 0 < Qr := Nat.two_pow_pos _
/-- floats from a half on are whole numbers of 2 ^ -53 -/
theorem V_grid {t : Nat} (h : 9007199254740992 * G ≤ V t) : ∃ s, V t = s * (2 * G) := by
  obtain ⟨k, q, _, hq, hk, hv⟩ := V_form t
  have hG : 9007199254740992 * G = 2 ^ 1073 := by
    unfold G; rw [show (9007199254740992 : Nat) = 2 ^ 53 by decide, ← Nat.pow_add]
  rw [hG, hv] at h
  have hk2 : 1021 ≤ k := by
    rcases Nat.lt_or_ge k 1021 with c | c
    · exfalso
      have h1 : q * 2 ^ k < 2 ^ 53 * 2 ^ 1020 := Nat.lt_of_lt_of_le (Nat.mul_lt_mul_of_pos_right hq (Nat.two_pow_pos _)) (Nat.mul_le_mul_left _ (Nat.pow_le_pow_right (by decide) (by omega)))
      rw [← Nat.pow_add] at h1
      exact absurd (Nat.lt_of_le_of_lt h h1) (Nat.lt_irrefl _)
    · exact c
  refine ⟨q * 2 ^ (k - 1021), ?_⟩
  have hg : 2 * G = 2 ^ 1021 := by
    unfold G; rw [show (1021 : Nat) = 1 + 1020 from rfl, Nat.pow_add]
  rw [hv, hg, Nat.mul_assoc, ← Nat.pow_add, show k - 1021 + 1021 = k by omega]
theorem mod1_right {d : Nat} (hd : d < infMag) (h : V d < U) (h0 : V d ≠ 0) : Right (Float64.divmod (pack true d) 4607182418800017408).2 false (U - V d) 1 := by
  obtain ⟨c, hc1, hc2, hc3⟩ := Fv_one
  have hVc : V c = U := by rw [Nat.mul_one, Nat.one_mul] at hc3; exact hc3
  rw [hc1]
  have hf : fmod (pack true d) (pack false c) = pack true d := fmod_lt hd hc2 (by omega) (by rw [hVc]; exact Nat.le_mul_of_pos_left _ (by decide))
  have hm : (Float64.divmod (pack true d) (pack false c)).2 = Float64.add (pack true d) (pack false c) := by
    unfold Float64.divmod
    rw [hf]
    have h1 : isZero (pack true d) = false := by rw [isZero_pack hd]; exact beq_eq_false_iff_ne.mpr h0
    have h2 : Float64.lt (pack true d) (Float64.zero false) = true := lt_zero_pack hd h0
    have h3 : Float64.lt (pack false c) (Float64.zero false) = false := lt_zero_pack hc2 (by rw [hVc]; exact Nat.ne_of_gt U_pos)
    simp only [h1, h2, h3, Bool.false_bne, Bool.false_eq_true, if_false, if_true]
  rw [hm]
  obtain ⟨m, e, hda, _⟩ := decode_pack true hd
  obtain ⟨m', e', hdb, _⟩ := decode_pack false hc2
  have R := add_right hda hdb
  have v1 : val (pack true d) = -(V d : Int) := by rw [val_pack true hd]; rfl
  have v2 : val (pack false c) = (U : Int) := by rw [pack_val hc2, hVc]
  rw [v1, v2] at R
  have R2 := R.2 (by omega)
  have e1 : decide (-(V d : Int) + (U : Int) < 0) = false := decide_eq_false (by omega)
  have e2 : (-(V d : Int) + (U : Int)).natAbs = U - V d := by omega
  rw [e1, e2] at R2
  exact R2
theorem mul_ac1 (a b n s X : Nat) : a * n * (s * (b * X)) = b * n * (a * s * X) := by ac_rfl
theorem mul_ac2 (a b n q x X : Nat) : a * b * (n * q) * x * X = a * n * (b * (x * q) * X) := by ac_rfl
theorem exB (a : Nat) (h : a ≤ 1099511627776) : ∃ B, B + 8192 * a = 54043195528445952 :=
  ⟨54043195528445952 - 8192 * a, Nat.sub_add_cancel (Nat.le_trans (Nat.mul_le_mul_left 8192 h) (by decide))⟩
theorem modB {a B : Nat} (h : B + 8192 * a = 54043195528445952) (ha : a % 3 ≠ 0) : B % 3 ≠ 0 := by omega
/-- the heart: what lies away from every middle is rounded alike -/
theorem far_same {n W B y e u : Nat} (hn : 0 < n) (hB3 : B % 3 ≠ 0) (hW : W = 2 * n * (B * G)) (h1 : 3 * y ≤ B * G + 3 * Qr) (h2 : B * G ≤ 3 * y + 3 * Qr)
    (hNe : Nr e y 1) (hNu : Nr u W (6 * n)) (he : 9007199254740992 * G ≤ V e) (hu : 9007199254740992 * G ≤ V u) : e = u := by
  obtain ⟨s, hs⟩ := V_grid he
  obtain ⟨s', hs'⟩ := V_grid hu
  have a1 := hNe u
  have a2 := hNu e
  have hGQ := G_Q
  have hQp := Q_pos
  have hGp := G_pos
  rw [Nat.one_mul, Nat.one_mul, hs, hs'] at a1
  have e1 : 6 * n * V e = 2 * n * (6 * s * G) := by rw [hs]; exact mul_ac1 ..
  have e2 : 6 * n * V u = 2 * n * (6 * s' * G) := by rw [hs']; exact mul_ac1 ..
  rw [hW, e1, e2, dist_mul, dist_mul, dist_mulr, dist_mulr] at a2
  have a3 : dist B (6 * s') ≤ dist B (6 * s) := Nat.le_of_mul_le_mul_right (Nat.le_of_mul_le_mul_left a2 (by omega)) hGp
  have b1 : B * G = 4 * (B * Qr) := by rw [hGQ, Nat.mul_left_comm]
  have b2 : s * (2 * G) = 8 * (s * Qr) := by rw [hGQ, ← Nat.mul_assoc 2 4, Nat.mul_left_comm]
  have b3 : s' * (2 * G) = 8 * (s' * Qr) := by rw [hGQ, ← Nat.mul_assoc 2 4, Nat.mul_left_comm]
  rw [b2, b3] at a1
  rw [b1] at h1 h2
  have hVV : s = s' → e = u := fun q => V_inj (by rw [hs, hs', q])
  clear hs hs' hNe hNu he hu hW e1 e2 a2 b1 b2 b3
  have key1 : ∀ m, m + 1 ≤ B → m * Qr + Qr ≤ B * Qr := fun m hm => by
    have := Nat.mul_le_mul_right Qr hm
    rw [Nat.add_mul, Nat.one_mul] at this; exact this
  have key2 : ∀ m, B + 1 ≤ m → B * Qr + Qr ≤ m * Qr := fun m hm => by
    have := Nat.mul_le_mul_right Qr hm
    rw [Nat.add_mul, Nat.one_mul] at this; exact this
  have hmul : (3 * (s + s')) * Qr = 3 * (s * Qr) + 3 * (s' * Qr) := by rw [Nat.mul_assoc, Nat.add_mul, Nat.mul_add]
  rcases Nat.lt_trichotomy s s' with c | c | c
  · exfalso
    have hlt : s * Qr < s' * Qr := Nat.mul_lt_mul_of_pos_right c hQp
    have hB : B ≤ 3 * (s + s') := by
      rcases Nat.lt_or_ge (3 * (s + s')) B with q | q
      · exfalso
        have := key1 _ q
        rw [hmul] at this
        unfold dist at a1; omega
      · exact q
    unfold dist at a3; omega
  · exact hVV c
  · exfalso
    have hlt : s' * Qr < s * Qr := Nat.mul_lt_mul_of_pos_right c hQp
    have hB : 3 * (s + s') ≤ B := by
      rcases Nat.lt_or_ge B (3 * (s + s')) with q | q
      · exfalso
        have := key2 _ q
        rw [hmul] at this
        unfold dist at a1; omega
      · exact q
    unfold dist at a3; omega
set_option maxHeartbeats 1000000 in
/-- 1 - x / (6 n), rounded twice, where n is a power of two, is what one rounding gives -/
theorem twice {n q x d : Nat} (hnq : n * q = 1099511627776) (hx0 : 0 < x) (hx : x ≤ n) (hd : d < infMag) (hN : Nr d (x * U) (6 * n)) :
    (Float64.divmod (pack true d) 4607182418800017408).2 = Float64.ofFrac false (6 * n - x) (6 * n) := by
  have hn : 0 < n := by omega
  have hq : 0 < q := by rcases Nat.eq_zero_or_pos q with z | z; (rw [z] at hnq; omega); exact z
  have hn2 : n ≤ 1099511627776 := by rw [← hnq]; exact Nat.le_mul_of_pos_right _ hq
  have hGp := G_pos
  have hUe := U_eq
  have hGQ := G_Q
  have hQp := Q_pos
  -- d is close to x / (6 n)
  have hxU : x * U ≤ n * U := Nat.mul_le_mul_right _ hx
  have herr : dist (x * U) (6 * n * V d) ≤ 6 * n * Qr := by
    have := nr_err 1019 hN (by omega) (by
      have e : (2 : Nat) ^ 53 * 2 ^ 1019 = 4503599627370496 * G := by
        unfold G; rw [show (4503599627370496 : Nat) = 2 ^ 52 by decide, ← Nat.pow_add, ← Nat.pow_add]
      rw [e]
      calc x * U ≤ n * U := hxU
        _ ≤ 6 * n * (4503599627370496 * G) := by
          rw [hUe, Nat.mul_comm 6 n, Nat.mul_assoc]; exact Nat.mul_le_mul_left _ (by omega))
    have e2 : (2 : Nat) ^ 1019 = 2 * Qr := by unfold Qr; rw [show (1019 : Nat) = 1 + 1018 from rfl, Nat.pow_add]
    rw [e2, Nat.mul_left_comm] at this
    omega
  have hVd : V d < U := by
    refine Nat.lt_of_mul_lt_mul_left (a := 6 * n) ?_
    have h1 : 6 * n * Qr ≤ n * (6 * Qr) := by rw [Nat.mul_comm 6 n, Nat.mul_assoc]; exact Nat.le_refl _
    have h2 : n * (6 * Qr) < n * (5 * U) := Nat.mul_lt_mul_of_pos_left (by omega) hn
    have h3 : 6 * n * U = n * U + n * (5 * U) := by rw [Nat.mul_left_comm n 5 U, Nat.mul_assoc 6 n U]; omega
    unfold dist at herr; omega
  have hVd0 : V d ≠ 0 := by
    intro h0
    rw [h0, Nat.mul_zero] at herr
    have h1 : U ≤ x * U := Nat.le_mul_of_pos_left _ hx0
    have h2 : 6 * n * Qr ≤ 6 * 1099511627776 * Qr := Nat.mul_le_mul_right _ (Nat.mul_le_mul_left _ hn2)
    unfold dist at herr; omega
  have R := mod1_right hd hVd hVd0
  by_cases hA : x * q % 3 = 0
  · -- the quotient is a float
    obtain ⟨y, hy⟩ : ∃ y, x * q = 3 * y := ⟨x * q / 3, by omega⟩
    have hxq : x * q ≤ 1099511627776 := by rw [← hnq]; exact Nat.mul_le_mul_right _ hx
    obtain ⟨t, _, ht, hv⟩ := Fv.mk y 41 (by decide) (by omega)
    have hex : 6 * n * V t = x * U := by
      have e41 : (2 : Nat) ^ 41 = 2 * (n * q) := by rw [hnq]
      rw [e41] at hv
      refine Nat.eq_of_mul_eq_mul_right hq ?_
      calc 6 * n * V t * q = 3 * (V t * (2 * (n * q))) := by ac_rfl
        _ = 3 * (y * U) := by rw [hv]
        _ = 3 * y * U := (Nat.mul_assoc ..).symm
        _ = x * q * U := by rw [hy]
        _ = x * U * q := Nat.mul_right_comm ..
    have hdt := nr_exact hN (by omega) hex
    rw [hdt] at R hVd ⊢
    refine right_uniq (W' := (6 * n - x) * U) (D' := 6 * n) (by decide) (by omega) ?_ R (ofFrac_right (by omega) (by unfold U; rfl) (by omega))
    rw [Nat.mul_one, Nat.mul_comm, Nat.mul_sub, hex, Nat.sub_mul]
  · -- it lies away from every middle
    obtain ⟨e, he1, hei, hNe⟩ := right_nr (by decide) (by rw [Nat.one_mul]; exact Nat.le_trans (Nat.sub_le _ _) (Nat.le_mul_of_pos_left _ (by decide))) R
    rw [he1]
    obtain ⟨u, hu1, hui, hNu⟩ := right_nr (r := Float64.ofFrac false (6 * n - x) (6 * n)) (neg := false) (W := (6 * n - x) * U) (D := 6 * n) (by omega)
      (by calc (6 * n - x) * U ≤ 6 * n * U := Nat.mul_le_mul_right _ (Nat.sub_le _ _)
            _ ≤ 6 * n * (2 ^ 64 * U) := Nat.mul_le_mul_left _ (Nat.le_mul_of_pos_left _ (by decide))) (ofFrac_right (by omega) (by unfold U; rfl) (by omega))
    rw [hu1]
    refine congrArg (pack false) ?_
    -- B / 3 is the worth in units of G
    have hxq : x * q ≤ 1099511627776 := by rw [← hnq]; exact Nat.mul_le_mul_right _ hx
    obtain ⟨B, hB⟩ := exB _ hxq
    have hB3 := modB hB hA
    have hW : (6 * n - x) * U = 2 * n * (B * G) := by
      have h1 : (6 * n - x) * U + x * U = 6 * n * U := by rw [← Nat.add_mul, Nat.sub_add_cancel (by omega)]
      have h2 : 2 * n * (B * G) + x * U = 6 * n * U := by
        have a1 : x * U = 2 * n * (8192 * (x * q) * G) := by
          rw [hUe]
          calc x * (18014398509481984 * G) = 16384 * 1099511627776 * x * G := by
                rw [show 16384 * 1099511627776 = 18014398509481984 by decide, Nat.mul_left_comm, Nat.mul_assoc]
            _ = 16384 * (n * q) * x * G := by rw [hnq]
            _ = 2 * n * (8192 * (x * q) * G) := mul_ac2 2 8192 n q x G
        rw [a1, ← Nat.mul_add, ← Nat.add_mul, hB, hUe, Nat.mul_mul_mul_comm, Nat.mul_assoc 6 n, Nat.mul_left_comm n]
        omega
      omega
    have hWB : 3 * (U - V d) ≤ B * G + 3 * Qr ∧ B * G ≤ 3 * (U - V d) + 3 * Qr := by
      have k0 : n * (U - V d) + n * V d = n * U := by rw [← Nat.mul_add, Nat.sub_add_cancel (Nat.le_of_lt hVd)]
      have k1 : 2 * n * (3 * (U - V d)) + 6 * n * V d = 6 * n * U := by rw [Nat.mul_mul_mul_comm, Nat.mul_assoc 6 n, Nat.mul_assoc 6 n]; omega
      have k2 : 2 * n * (B * G) + x * U = 6 * n * U := by rw [← hW, ← Nat.add_mul, Nat.sub_add_cancel (by omega)]
      have k3 : 2 * n * (3 * Qr) = 6 * n * Qr := by rw [Nat.mul_mul_mul_comm, Nat.mul_assoc 6 n]
      constructor
      · refine Nat.le_of_mul_le_mul_left (c := 2 * n) ?_ (by omega)
        rw [Nat.mul_add, k3]; unfold dist at herr; omega
      · refine Nat.le_of_mul_le_mul_left (c := 2 * n) ?_ (by omega)
        rw [Nat.mul_add, k3]; unfold dist at herr; omega
    have hVd2 : 6 * V d ≤ U + 6 * Qr := by
      refine Nat.le_of_mul_le_mul_left (c := n) ?_ hn
      rw [Nat.mul_add, Nat.mul_left_comm n 6, Nat.mul_left_comm n 6, ← Nat.mul_assoc 6 n, ← Nat.mul_assoc 6 n]
      unfold dist at herr; omega
    obtain ⟨c, _, hci, hcv⟩ := Fv_half
    have hVc : V c = 9007199254740992 * G := by omega
    refine far_same hn hB3 hW hWB.1 hWB.2 hNe hNu ?_ ?_
    · rw [← hVc]; exact nr_ge hNe (by decide) (by rw [hVc, Nat.one_mul]; omega)
    · rw [← hVc]; refine nr_ge hNu (by omega) ?_
      rw [hVc, hUe, Nat.mul_comm 6 n, Nat.mul_assoc]
      calc n * (6 * (9007199254740992 * G)) ≤ n * (5 * (18014398509481984 * G)) := Nat.mul_le_mul_left _ (by omega)
        _ ≤ (n * 6 - x) * (18014398509481984 * G) := by
          rw [← Nat.mul_assoc]; exact Nat.mul_le_mul_right _ (by omega)
end
/-! FU -/
section
open PySem PySem.Float64
theorem Fv.up {x : UInt64} {N D : Nat} (h : Fv x N D) (m : Nat) : Fv x (N * m) (D * m) := by
  obtain ⟨t, h1, h2, h3⟩ := h
  refine ⟨t, h1, h2, ?_⟩
  rw [← Nat.mul_assoc, h3, Nat.mul_right_comm]
theorem p40 : (2 : Nat) ^ 40 = 1099511627776 := by decide
section
variable {n q : Nat} (hnq : n * q = 1099511627776)
include hnq
theorem pw_n : 0 < n := by rcases Nat.eq_zero_or_pos n with z | z; (rw [z] at hnq; omega); exact z
theorem pw_q : 0 < q := by rcases Nat.eq_zero_or_pos q with z | z; (rw [z] at hnq; omega); exact z
theorem share_ex {u : Nat} (hu : u ≤ n) : Fv (Float64.ofFrac false u n) (u * q) (2 ^ 40) := by
  rw [ofFrac_congr (n' := u * q) (d' := 2 ^ 40) (pw_n hnq) (by decide) (by rw [p40, ← hnq, Nat.mul_assoc, Nat.mul_comm q])]
  refine Fv.mk _ _ (by decide) ?_
  have : u * q ≤ n * q := Nat.mul_le_mul_right _ hu
  omega
theorem times_le {k w : Nat} (h : w ≤ k * n) : w * q ≤ k * 1099511627776 := by
  rw [← hnq, ← Nat.mul_assoc]; exact Nat.mul_le_mul_right _ h
theorem sub_ex {C : UInt64} {k u Y : Nat} (hC : Fv C k 1) (hk2 : k ≤ 8) (hu : u ≤ n) (hY : Y + u = k * n) : Fv (Float64.sub C (Float64.ofFrac false u n)) (Y * q) (2 ^ 40) := by
  have hC' : Fv C (k * n * q) (2 ^ 40) := by
    have := hC.up (2 ^ 40)
    rw [Nat.one_mul] at this
    rw [Nat.mul_assoc, hnq, ← p40]; exact this
  have hs : k * n * q = Y * q + u * q := by rw [← hY, Nat.add_mul]
  have hb : k * n * q ≤ 8 * 1099511627776 := by rw [Nat.mul_assoc, hnq]; exact Nat.mul_le_mul_right _ hk2
  have hz : Fv (Float64.ofFrac false (Y * q) (2 ^ 40)) (Y * q) (2 ^ 40) :=
    Fv.mk _ _ (by decide) (Nat.le_trans (Nat.le_trans (hs ▸ Nat.le_add_right _ _) hb) (by decide))
  have hd : k * n * q - u * q = Y * q := by rw [hs, Nat.add_sub_cancel]
  have := hC'.sub (share_ex hnq hu) (hs ▸ Nat.le_add_left _ _) (by rw [hd]; exact hz) (by decide) (Nat.le_trans hb (by decide))
  rw [this]; exact hz
theorem add_ex {C : UInt64} {k u Y : Nat} (hC : Fv C k 1) (hk2 : k ≤ 4) (hu : u ≤ n) (hY : Y + n = k * n + u) : Fv (Float64.sub (Float64.add C (Float64.ofFrac false u n)) 4607182418800017408) (Y * q) (2 ^ 40) := by
  have hC' : Fv C (k * n * q) (2 ^ 40) := by
    have := hC.up (2 ^ 40)
    rw [Nat.one_mul] at this
    rw [Nat.mul_assoc, hnq, ← p40]; exact this
  have hO : Fv 4607182418800017408 (n * q) (2 ^ 40) := by
    have := Fv_one.up (2 ^ 40)
    rw [Nat.one_mul] at this
    rw [hnq, ← p40]; exact this
  have huq : u * q ≤ 1099511627776 := by rw [← hnq]; exact Nat.mul_le_mul_right _ hu
  have hb : k * n * q ≤ 4 * 1099511627776 := by rw [Nat.mul_assoc, hnq]; exact Nat.mul_le_mul_right _ hk2
  have hsum5 : k * n * q + u * q ≤ 4 * 1099511627776 + 1099511627776 := Nat.add_le_add hb huq
  have hY2 : k * n * q + u * q = Y * q + n * q := by rw [← Nat.add_mul, ← hY, Nat.add_mul]
  have hs : Fv (Float64.ofFrac false (k * n * q + u * q) (2 ^ 40)) (k * n * q + u * q) (2 ^ 40) :=
    Fv.mk _ _ (by decide) (Nat.le_trans hsum5 (by decide))
  have hsum := hC'.add (share_ex hnq hu) hs (by decide) (Nat.le_trans hsum5 (by decide))
  rw [hY2] at hs hsum hsum5
  have hz : Fv (Float64.ofFrac false (Y * q) (2 ^ 40)) (Y * q) (2 ^ 40) :=
    Fv.mk _ _ (by decide) (Nat.le_trans (Nat.le_trans (Nat.le_add_right _ _) hsum5) (by decide))
  rw [hsum, hs.sub hO (Nat.le_add_left _ _) (by rw [Nat.add_sub_cancel]; exact hz) (by decide) (Nat.le_trans hsum5 (by decide))]
  exact hz
theorem div6_ex {w : UInt64} {P : Nat} (hw : Fv w (P * q) (2 ^ 40)) : Float64.div w 4618441417868443648 = Float64.ofFrac false P (6 * n) := by
  rw [hw.div Fv_six (by decide) (by decide) (by decide)]
  refine ofFrac_congr (by decide) (by have := pw_n hnq; omega) ?_
  rw [p40, ← hnq, Nat.mul_one]
  have : P * q * (6 * n) = P * (n * q * 6) := by ac_rfl
  exact this
omit hnq in
theorem mod_id {n P : Nat} (hn : 0 < n) (hP : P ≤ 5 * n) : ∃ t, Float64.ofFrac false P (6 * n) = pack false t ∧ t < infMag ∧ (Float64.divmod (pack false t) 4607182418800017408).2 = pack false t := by
  have hPU : P * U ≤ 5 * n * U := Nat.mul_le_mul_right _ hP
  have h56 : 5 * n * U ≤ 6 * n * (2 ^ 0 * U) := by rw [Nat.pow_zero, Nat.one_mul]; exact Nat.mul_le_mul_right _ (by omega)
  obtain ⟨t, h1, h2, h3⟩ := right_nr (r := Float64.ofFrac false P (6 * n)) (neg := false) (W := P * U) (D := 6 * n) (by omega)
    (Nat.le_trans (Nat.le_trans hPU h56) (Nat.mul_le_mul_left _ (Nat.mul_le_mul_right _ (by decide)))) (ofFrac_right (by omega) (by unfold U; rfl) (by omega))
  have he := nr_err' 0 h3 (by omega) (Nat.le_trans hPU h56)
  rw [Nat.pow_zero, Nat.one_mul] at he
  have hU := U_eq
  have hG := G_pos
  have hlt : V t < U := by
    refine Nat.lt_of_mul_lt_mul_left (a := 6 * n) ?_
    have a1 : 6 * n * G = 6 * (n * G) := Nat.mul_assoc ..
    have a2 : 6 * n * U = 6 * (n * U) := Nat.mul_assoc ..
    have a3 : 5 * n * U = 5 * (n * U) := Nat.mul_assoc ..
    have a4 : n * U = 18014398509481984 * (n * G) := by rw [hU, Nat.mul_left_comm]
    have a5 : 0 < n * G := Nat.mul_pos hn hG
    unfold dist at he; omega
  exact ⟨t, h1, h2, mod1_pos h2 hlt⟩
/-- a hue that is reckoned without rounding up to the sixth -/
theorem pos_ex {w : UInt64} {P : Nat} (hw : Fv w (P * q) (2 ^ 40)) (hP : P ≤ 5 * n) :
    Float64.cmp (Float64.divmod (Float64.div w 4618441417868443648) 4607182418800017408).2 (Float64.ofFrac false P (6 * n)) = some .eq := by
  obtain ⟨t, h1, h2, h3⟩ := mod_id (pw_n hnq) hP
  rw [div6_ex hnq hw, h1, h3]
  exact cmp_self h2
theorem neg_ex {u P : Nat} (hu : u < n) (hP : P = 5 * n + u) : Float64.cmp (Float64.divmod (Float64.div (Float64.sub (Float64.ofFrac false u n) 4607182418800017408) 4618441417868443648) 4607182418800017408).2 (Float64.ofFrac false P (6 * n)) = some .eq := by
  rw [show P = 6 * n - (n - u) by omega]
  clear hP
  have hn := pw_n hnq
  have hq := pw_q hnq
  obtain ⟨t, ht, hti, htv⟩ := share_ex hnq (Nat.le_of_lt hu)
  obtain ⟨o, ho1, ho2, ho3⟩ := Fv_one
  have hVo : V o = U := by rw [Nat.mul_one, Nat.one_mul] at ho3; exact ho3
  have hz : Fv (Float64.ofFrac false ((n - u) * q) (2 ^ 40)) ((n - u) * q) (2 ^ 40) := by
    refine Fv.mk _ _ (by decide) ?_
    have := times_le hnq (k := 1) (w := n - u) (by omega); omega
  obtain ⟨c, _, hci, hcv⟩ := hz
  have hsum : V t + V c = U := by
    refine Nat.eq_of_mul_eq_mul_right (m := 2 ^ 40) (by decide) ?_
    rw [Nat.add_mul, htv, hcv, ← Nat.add_mul, ← Nat.add_mul, show u + (n - u) = n by omega, hnq, p40, Nat.mul_comm]
  have hc0 : 0 < V c := by
    rcases Nat.eq_zero_or_pos (V c) with z | z
    · rw [z, Nat.zero_mul] at hcv
      have := Nat.mul_pos (Nat.mul_pos (show 0 < n - u by omega) hq) U_pos
      omega
    · exact z
  obtain ⟨z, hz1, hzi, hNz⟩ := sub_neg hti ho2 (by rw [hVo]; omega) (by rw [hVo]; exact Nat.le_mul_of_pos_left _ (by decide))
  have hzc := nr_exact hNz (by decide) (show 1 * V c = V o - V t by rw [hVo]; omega)
  have hzv : V z * n = (n - u) * U := by
    rw [hzc]
    refine Nat.eq_of_mul_eq_mul_right hq ?_
    rw [Nat.mul_assoc, hnq, ← p40, hcv, Nat.mul_right_comm]
  obtain ⟨s, hs1, hs2, hs3⟩ := Fv_six
  have hsix : 0 < 6 * U := Nat.mul_pos (by decide) U_pos
  have hle : (n - u) * U ≤ 6 * n * (2 ^ 64 * U) := by
    calc (n - u) * U ≤ 6 * n * U := Nat.mul_le_mul_right _ (by omega)
      _ ≤ 6 * n * (2 ^ 64 * U) := Nat.mul_le_mul_left _ (Nat.le_mul_of_pos_left _ (by decide))
  obtain ⟨d, hd1, hdi, hNd⟩ := right_nr (r := Float64.ofFrac true (V z) (6 * U)) (neg := true) (W := (n - u) * U) (D := 6 * n) (by omega) hle
    (ofFrac_right hsix (by
      show V z * U * (6 * n) = (n - u) * U * (6 * U)
      rw [← hzv]
      generalize U = X
      ac_rfl) (by omega))
  have htw := twice hnq (show 0 < n - u by omega) (by omega) hdi hNd
  rw [ht, ho1, hz1, hs1, div_eq hzi hs2 hs3 (by decide), Nat.mul_one, hd1, ← ho1, htw]
  obtain ⟨e, he1, hei, _⟩ := right_nr (r := Float64.ofFrac false (6 * n - (n - u)) (6 * n)) (neg := false) (W := (6 * n - (n - u)) * U) (D := 6 * n) (by omega)
    (by calc (6 * n - (n - u)) * U ≤ 6 * n * U := Nat.mul_le_mul_right _ (Nat.sub_le _ _)
          _ ≤ 6 * n * (2 ^ 64 * U) := Nat.mul_le_mul_left _ (Nat.le_mul_of_pos_left _ (by decide))) (ofFrac_right (by omega) (by unfold U; rfl) (by omega))
  rw [he1]
  exact cmp_self hei
end
end
/-! FR -/
section
open PySem PySem.Float64
theorem fmax2_of {x y : UInt64} {N M D : Nat} (hx : Fv x N D) (hy : Fv y M D) (hD : 0 < D) : Fv (fmax2 x y) (max N M) D := by
  obtain ⟨h1, h2, h3⟩ := hx.cmp_of hy hD
  unfold fmax2
  rcases Nat.lt_trichotomy N M with q | q | q
  · rw [h1 q, if_pos (by rfl), Nat.max_eq_right (Nat.le_of_lt q)]; exact hy
  · rw [h2 q, if_neg (by decide), Nat.max_eq_left (Nat.le_of_eq q.symm)]; exact hx
  · rw [h3 q, if_neg (by decide), Nat.max_eq_left (Nat.le_of_lt q)]; exact hx
theorem fmin2_of {x y : UInt64} {N M D : Nat} (hx : Fv x N D) (hy : Fv y M D) (hD : 0 < D) : Fv (fmin2 x y) (min N M) D := by
  obtain ⟨h1, h2, h3⟩ := hy.cmp_of hx hD
  unfold fmin2
  rcases Nat.lt_trichotomy M N with q | q | q
  · rw [h1 q, if_pos (by rfl), Nat.min_eq_right (Nat.le_of_lt q)]; exact hy
  · rw [h2 q, if_neg (by decide), Nat.min_eq_left (Nat.le_of_eq q.symm)]; exact hx
  · rw [h3 q, if_neg (by decide), Nat.min_eq_left (Nat.le_of_lt q)]; exact hx
/-- the place of the ring where a colour stands, by what its components lack of the greatest -/
def Place (x y z n P : Nat) : Prop :=
  (x = 0 ∧ z = n ∧ P + y = n) ∨ (x = 0 ∧ y = n ∧ z < n ∧ P = 5 * n + z) ∨ (y = 0 ∧ z = n ∧ P = n + x) ∨
  (y = 0 ∧ x = n ∧ P + z = 3 * n) ∨ (z = 0 ∧ x = n ∧ P = 3 * n + y) ∨ (z = 0 ∧ y = n ∧ P + x = 5 * n)
/-- the greatest and the least, as plain inequalities -/
structure Bd (x y z mx mn : Nat) : Prop where
  x1 : mn ≤ x
  x2 : x ≤ mx
  y1 : mn ≤ y
  y2 : y ≤ mx
  z1 : mn ≤ z
  z2 : z ≤ mx
  top : x = mx ∨ y = mx ∨ z = mx
  low : x = mn ∨ y = mn ∨ z = mn
theorem Bd.le {x y z mx mn : Nat} (h : Bd x y z mx mn) : mn ≤ mx := Nat.le_trans h.x1 h.x2
theorem Bd.mx {x y z mx mn : Nat} (h : Bd x y z mx mn) : mx = max (max x y) z := by
  refine Nat.le_antisymm ?_ (Nat.max_le.mpr ⟨Nat.max_le.mpr ⟨h.x2, h.y2⟩, h.z2⟩)
  rcases h.top with q | q | q
  · exact q ▸ Nat.le_trans (Nat.le_max_left x y) (Nat.le_max_left _ _)
  · exact q ▸ Nat.le_trans (Nat.le_max_right x y) (Nat.le_max_left _ _)
  · exact q ▸ Nat.le_max_right _ _
theorem Bd.mn {x y z mx mn : Nat} (h : Bd x y z mx mn) : mn = min (min x y) z := by
  refine Nat.le_antisymm (Nat.le_min.mpr ⟨Nat.le_min.mpr ⟨h.x1, h.y1⟩, h.z1⟩) ?_
  rcases h.low with q | q | q
  · exact q ▸ Nat.le_trans (Nat.min_le_left _ _) (Nat.min_le_left x y)
  · exact q ▸ Nat.le_trans (Nat.min_le_left _ _) (Nat.min_le_right x y)
  · exact q ▸ Nat.min_le_right _ _
/-- a colour whose components are told without rounding -/
structure Tri (r g b : UInt64) (x y z D mx mn : Nat) : Prop where
  hr : Fv r x D
  hg : Fv g y D
  hb : Fv b z D
  hD : 0 < D
  bd : Bd x y z mx mn
  hle : mx ≤ D
  rep : ∀ N, N ≤ mx - mn → ∃ w, Fv w N D
section
variable {r g b : UInt64} {x y z D mx mn : Nat} (T : Tri r g b x y z D mx mn)
include T
theorem Tri.maxc : Fv (fmax3 r g b) mx D := by rw [T.bd.mx]; exact fmax2_of (fmax2_of T.hr T.hg T.hD) T.hb T.hD
theorem Tri.minc : Fv (fmin3 r g b) mn D := by rw [T.bd.mn]; exact fmin2_of (fmin2_of T.hr T.hg T.hD) T.hb T.hD
theorem Tri.grey_iff : hlsGrey r g b = decide (mx = mn) := by
  obtain ⟨h1, h2, h3⟩ := T.minc.cmp_of T.maxc T.hD
  unfold hlsGrey
  by_cases h : mx = mn
  · rw [h2 h.symm, decide_eq_true h]; rfl
  · rw [h1 (Nat.lt_of_le_of_ne T.bd.le (Ne.symm h)), decide_eq_false h]; rfl
theorem Tri.diff {w : UInt64} {N : Nat} (hw : Fv w N D) (h1 : mn ≤ N) (h2 : N ≤ mx) : Fv (Float64.sub (fmax3 r g b) w) (mx - N) D := by
  obtain ⟨v, hv⟩ := T.rep (mx - N) (Nat.sub_le_sub_left h1 _)
  rw [T.maxc.sub hw h2 hv T.hD (Nat.le_trans T.hle (Nat.le_mul_of_pos_right _ (by decide)))]
  exact hv
theorem Tri.range : Fv (Float64.sub (fmax3 r g b) (fmin3 r g b)) (mx - mn) D := T.diff T.minc (Nat.le_refl _) T.bd.le
theorem Tri.share {w : UInt64} {N : Nat} (hw : Fv w N D) (h1 : mn ≤ N) (h2 : N ≤ mx) (hn : mn < mx) : hlsA r g b w = Float64.ofFrac false (mx - N) (mx - mn) := by
  unfold hlsA
  have h0 : 0 < mx - mn := Nat.sub_pos_of_lt hn
  rw [(T.diff hw h1 h2).div T.range T.hD T.hD h0]
  exact ofFrac_congr (Nat.mul_pos T.hD h0) h0 (by rw [Nat.mul_assoc])
theorem Tri.isMax {w : UInt64} {N : Nat} (hw : Fv w N D) (h2 : N ≤ mx) : (Float64.cmp w (fmax3 r g b) == some .eq) = decide (mx - N = 0) := by
  obtain ⟨q1, q2, q3⟩ := hw.cmp_of T.maxc T.hD
  by_cases h : N = mx
  · rw [q2 h, decide_eq_true (by rw [h]; exact Nat.sub_self _)]; rfl
  · have hlt := Nat.lt_of_le_of_ne h2 h
    rw [q1 hlt, decide_eq_false (Nat.ne_of_gt (Nat.sub_pos_of_lt hlt))]; rfl
/-- the hue by the three lacks -/
theorem Tri.lacks (hn : mn < mx) : hlsH r g b = (Float64.divmod (Float64.div (if decide (mx - x = 0) = true then Float64.sub (Float64.ofFrac false (mx - z) (mx - mn)) (Float64.ofFrac false (mx - y) (mx - mn))
    else if decide (mx - y = 0) = true then Float64.sub (Float64.add 4611686018427387904 (Float64.ofFrac false (mx - x) (mx - mn))) (Float64.ofFrac false (mx - z) (mx - mn))
    else Float64.sub (Float64.add 4616189618054758400 (Float64.ofFrac false (mx - y) (mx - mn))) (Float64.ofFrac false (mx - x) (mx - mn))) 4618441417868443648) 4607182418800017408).2 := by
  unfold hlsH
  rw [T.grey_iff, decide_eq_false (Nat.ne_of_gt hn), if_neg Bool.false_ne_true]
  unfold hlsP
  rw [T.isMax T.hr T.bd.x2, T.isMax T.hg T.bd.y2, T.share T.hr T.bd.x1 T.bd.x2 hn, T.share T.hg T.bd.y1 T.bd.y2 hn, T.share T.hb T.bd.z1 T.bd.z2 hn]
end
/-- the hue of three lacks x, y, z of n -/
theorem hue_lacks {x y z n : Nat} (hn : 0 < n) (hn2 : n ≤ 1099511627776) (hx : x ≤ n) (hy : y ≤ n) (hz : z ≤ n) (h0 : x = 0 ∨ y = 0 ∨ z = 0) (h1 : x = n ∨ y = n ∨ z = n) {H : UInt64}
    (hH : H = (Float64.divmod (Float64.div (if decide (x = 0) = true then Float64.sub (Float64.ofFrac false z n) (Float64.ofFrac false y n)
    else if decide (y = 0) = true then Float64.sub (Float64.add 4611686018427387904 (Float64.ofFrac false x n)) (Float64.ofFrac false z n)
    else Float64.sub (Float64.add 4616189618054758400 (Float64.ofFrac false y n)) (Float64.ofFrac false x n)) 4618441417868443648) 4607182418800017408).2) :
    ∃ P, P < 6 * n ∧ Place x y z n P ∧ HueAt H n P ∧ (1099511627776 % n = 0 → Float64.cmp H (Float64.ofFrac false P (6 * n)) = some .eq) := by
  rw [hH]
  clear hH
  have pw : 1099511627776 % n = 0 → n * (1099511627776 / n) = 1099511627776 := fun h40 => Nat.mul_div_cancel' (Nat.dvd_of_mod_eq_zero h40)
  by_cases ex : x = 0
  · rw [decide_eq_true ex, if_pos rfl]
    by_cases ez : z = n
    · have hY : n - y + y = 1 * n := by rw [Nat.one_mul]; exact Nat.sub_add_cancel hy
      rw [ez, share_one hn]
      obtain ⟨w, hw, hwi, hd⟩ := hue_sub Fv_one (by decide) (by decide) hn hy hY
      refine ⟨n - y, by omega, Or.inl ⟨ex, rfl, by omega⟩, ?_, fun h40 => pos_ex (pw h40) (sub_ex (pw h40) Fv_one (by decide) hy hY) (by omega)⟩
      rw [hw]
      exact hue_pos hn hwi (by omega) hd
    · have hzn : z < n := Nat.lt_of_le_of_ne hz ez
      have hy' : y = n := by omega
      rw [hy', share_one hn]
      obtain ⟨w, hw, hwi, hd⟩ := hue_less hn hn2 hzn (Nat.sub_add_cancel hz)
      refine ⟨5 * n + z, by omega, Or.inr (Or.inl ⟨ex, rfl, hzn, rfl⟩), ?_, fun h40 => neg_ex (pw h40) hzn rfl⟩
      rw [hw]
      exact hue_neg hn hn2 hwi (by omega) (Nat.sub_le _ _) hd (by omega)
  · rw [decide_eq_false ex, if_neg Bool.false_ne_true]
    by_cases ey : y = 0
    · rw [decide_eq_true ey, if_pos rfl]
      by_cases ez : z = n
      · have hY : n + x + n = 2 * n + x := by omega
        rw [ez, share_one hn]
        obtain ⟨w, hw, hwi, hd⟩ := hue_add Fv_two (by decide) (by decide) hn hx hY
        refine ⟨n + x, by omega, Or.inr (Or.inr (Or.inl ⟨ey, rfl, rfl⟩)), ?_, fun h40 => pos_ex (pw h40) (add_ex (pw h40) Fv_two (by decide) hx hY) (by omega)⟩
        rw [hw]
        exact hue_pos hn hwi (by omega) hd
      · have hx' : x = n := by omega
        have hY : 3 * n - z + z = 3 * n := by omega
        rw [hx', share_one hn, show Float64.add 4611686018427387904 4607182418800017408 = 4613937818241073152 by decide +kernel]
        obtain ⟨w, hw, hwi, hd⟩ := hue_sub Fv_three (by decide) (by decide) hn hz hY
        refine ⟨3 * n - z, by omega, Or.inr (Or.inr (Or.inr (Or.inl ⟨ey, rfl, hY⟩))), ?_, fun h40 => pos_ex (pw h40) (sub_ex (pw h40) Fv_three (by decide) hz hY) (by omega)⟩
        rw [hw]
        exact hue_pos hn hwi (by omega) hd
    · rw [decide_eq_false ey, if_neg Bool.false_ne_true]
      have hz' : z = 0 := by omega
      by_cases hx' : x = n
      · have hY : 3 * n + y + n = 4 * n + y := by omega
        rw [hx', share_one hn]
        obtain ⟨w, hw, hwi, hd⟩ := hue_add Fv_four (by decide) (by decide) hn hy hY
        refine ⟨3 * n + y, by omega, Or.inr (Or.inr (Or.inr (Or.inr (Or.inl ⟨hz', rfl, rfl⟩)))), ?_, fun h40 => pos_ex (pw h40) (add_ex (pw h40) Fv_four (by decide) hy hY) (by omega)⟩
        rw [hw]
        exact hue_pos hn hwi (by omega) hd
      · have hy' : y = n := by omega
        have hY : 5 * n - x + x = 5 * n := by omega
        rw [hy', share_one hn, show Float64.add 4616189618054758400 4607182418800017408 = 4617315517961601024 by decide +kernel]
        obtain ⟨w, hw, hwi, hd⟩ := hue_sub Fv_five (by decide) (by decide) hn hx hY
        refine ⟨5 * n - x, by omega, Or.inr (Or.inr (Or.inr (Or.inr (Or.inr ⟨hz', rfl, hY⟩)))), ?_, fun h40 => pos_ex (pw h40) (sub_ex (pw h40) Fv_five (by decide) hx hY) (by omega)⟩
        rw [hw]
        exact hue_pos hn hwi (by omega) hd
theorem Tri.hue {r g b : UInt64} {x y z D mx mn : Nat} (T : Tri r g b x y z D mx mn) (hn : mn < mx) (hn2 : mx - mn ≤ 1099511627776) :
    ∃ P, P < 6 * (mx - mn) ∧ Place (mx - x) (mx - y) (mx - z) (mx - mn) P ∧ HueAt (hlsH r g b) (mx - mn) P ∧ (1099511627776 % (mx - mn) = 0 → Float64.cmp (hlsH r g b) (Float64.ofFrac false P (6 * (mx - mn))) = some .eq) := by
  refine hue_lacks (Nat.sub_pos_of_lt hn) hn2 (Nat.sub_le_sub_left T.bd.x1 _) (Nat.sub_le_sub_left T.bd.y1 _) (Nat.sub_le_sub_left T.bd.z1 _) ?_ ?_ (T.lacks hn)
  · rcases T.bd.top with q | q | q
    · exact Or.inl (by rw [q]; exact Nat.sub_self _)
    · exact Or.inr (Or.inl (by rw [q]; exact Nat.sub_self _))
    · exact Or.inr (Or.inr (by rw [q]; exact Nat.sub_self _))
  · rcases T.bd.low with q | q | q
    · exact Or.inl (by rw [q])
    · exact Or.inr (Or.inl (by rw [q]))
    · exact Or.inr (Or.inr (by rw [q]))
end
/-! FS -/
section
open PySem PySem.Float64
theorem fmod_lo {x m : Int} (h0 : 0 ≤ x) (h1 : x < m) : x.fmod m = x := by
  rw [Int.fmod_eq_emod_of_nonneg _ (Int.le_trans h0 (Int.le_of_lt h1))]; exact Int.emod_eq_of_lt h0 h1
theorem fmod_hi {x m : Int} (h0 : -m ≤ x) (h1 : x < 0) : x.fmod m = x + m := by
  rw [Int.fmod_eq_emod_of_nonneg _ (by omega), ← Int.add_emod_right]
  exact Int.emod_eq_of_lt (by omega) (by omega)
theorem way_pos {P n c : Int} (h0 : 0 < P - c) (h1 : P - c < 6 * n) : ringWay P n c = if 6 * n - (P - c) < P - c then 6 * n - (P - c) else P - c := by
  unfold ringWay
  rw [fmod_lo (x := P - c) (Int.le_of_lt h0) h1, fmod_hi (x := c - P) (by omega) (by omega), show c - P + 6 * n = 6 * n - (P - c) by omega]
theorem way_zero {P n c : Int} (h0 : P - c = 0) (hn : 0 < n) : ringWay P n c = 0 := by
  unfold ringWay
  rw [h0, show c - P = 0 by omega, fmod_lo (x := 0) (Int.le_refl _) (by omega)]; simp
theorem way_neg {P n c : Int} (h0 : P - c < 0) (h1 : -(6 * n) < P - c) : ringWay P n c = if c - P < 6 * n - (c - P) then c - P else 6 * n - (c - P) := by
  unfold ringWay
  rw [fmod_hi (x := P - c) (Int.le_of_lt h1) h0, fmod_lo (x := c - P) (by omega) (by omega), show P - c + 6 * n = 6 * n - (c - P) by omega]
/-- the way to a corner, four ways round -/
theorem way_at {P n c w : Int} (hn : 0 < n) (h : (P = c + w ∧ 0 ≤ w ∧ w ≤ 3 * n) ∨ (P + w = c + 6 * n ∧ 0 < w ∧ w ≤ 3 * n) ∨ (P + w = c ∧ 0 ≤ w ∧ w ≤ 3 * n) ∨ (P + 6 * n = c + w ∧ 0 < w ∧ w ≤ 3 * n)) : ringWay P n c = w := by
  rcases h with ⟨e, h1, h2⟩ | ⟨e, h1, h2⟩ | ⟨e, h1, h2⟩ | ⟨e, h1, h2⟩
  · rcases Int.lt_or_eq_of_le h1 with q | q
    · rw [way_pos (by omega) (by omega), if_neg (by omega)]; omega
    · rw [way_zero (by omega) hn, q]
  · rw [way_pos (by omega) (by omega)]; split <;> omega
  · rcases Int.lt_or_eq_of_le h1 with q | q
    · rw [way_neg (by omega) (by omega)]; split <;> omega
    · rw [way_zero (by omega) hn, q]
  · rw [way_neg (by omega) (by omega), if_neg (by omega)]; omega
theorem ring_top {P n c w : Int} (hw : ringWay P n c = w) (hn : 0 < n) (h : w ≤ n) : ringAt P n c = n := by
  unfold ringAt ringTop
  rw [hw, if_neg (show ¬ (2 * n - w < n) by omega), if_pos hn]
theorem ring_mid {P n c w : Int} (hw : ringWay P n c = w) (hn : 0 < n) (h : n ≤ w) (h2 : w ≤ 2 * n) : ringAt P n c = 2 * n - w := by
  unfold ringAt ringTop
  rw [hw]
  rcases Int.lt_or_eq_of_le h with q | q
  · rw [if_pos (show 2 * n - w < n by omega)]
    split <;> omega
  · rw [if_neg (show ¬ (2 * n - w < n) by omega), if_pos hn]; omega
theorem ring_low {P n c w : Int} (hw : ringWay P n c = w) (hn : 0 < n) (h : 2 * n ≤ w) : ringAt P n c = 0 := by
  unfold ringAt ringTop
  rw [hw, if_pos (show 2 * n - w < n by omega), if_neg (show ¬ (2 * n - w > 0) by omega)]
theorem ring1 {n y P : Int} (hn : 0 < n) (h0 : 0 ≤ y) (h1 : y ≤ n) (hP : P + y = n) : ringAt P n 0 = n ∧ ringAt P n (2 * n) = n - y ∧ ringAt P n (4 * n) = 0 :=
  ⟨ring_top (way_at (w := P) hn (.inl ⟨by omega, by omega, by omega⟩)) hn (by omega),
   by rw [ring_mid (way_at (w := n + y) hn (.inr (.inr (.inl ⟨by omega, by omega, by omega⟩)))) hn (by omega) (by omega)]; omega,
   ring_low (way_at (w := 2 * n + P) hn (.inr (.inr (.inr ⟨by omega, by omega, by omega⟩)))) hn (by omega)⟩
theorem ring2 {n z P : Int} (hn : 0 < n) (h0 : 0 ≤ z) (h1 : z < n) (hP : P = 5 * n + z) : ringAt P n 0 = n ∧ ringAt P n (2 * n) = 0 ∧ ringAt P n (4 * n) = n - z :=
  ⟨ring_top (way_at (w := n - z) hn (.inr (.inl ⟨by omega, by omega, by omega⟩))) hn (by omega),
   ring_low (way_at (w := 3 * n - z) hn (.inr (.inl ⟨by omega, by omega, by omega⟩))) hn (by omega),
   by rw [ring_mid (way_at (w := n + z) hn (.inl ⟨by omega, by omega, by omega⟩)) hn (by omega) (by omega)]; omega⟩
theorem ring3 {n x P : Int} (hn : 0 < n) (h0 : 0 ≤ x) (h1 : x ≤ n) (hP : P = n + x) : ringAt P n 0 = n - x ∧ ringAt P n (2 * n) = n ∧ ringAt P n (4 * n) = 0 :=
  ⟨by rw [ring_mid (way_at (w := P) hn (.inl ⟨by omega, by omega, by omega⟩)) hn (by omega) (by omega)]; omega,
   ring_top (way_at (w := n - x) hn (.inr (.inr (.inl ⟨by omega, by omega, by omega⟩)))) hn (by omega),
   ring_low (way_at (w := 3 * n - x) hn (.inr (.inr (.inl ⟨by omega, by omega, by omega⟩)))) hn (by omega)⟩
theorem ring4 {n z P : Int} (hn : 0 < n) (h0 : 0 ≤ z) (h1 : z ≤ n) (hP : P + z = 3 * n) : ringAt P n 0 = 0 ∧ ringAt P n (2 * n) = n ∧ ringAt P n (4 * n) = n - z :=
  ⟨ring_low (way_at (w := P) hn (.inl ⟨by omega, by omega, by omega⟩)) hn (by omega),
   ring_top (way_at (w := n - z) hn (.inl ⟨by omega, by omega, by omega⟩)) hn (by omega),
   by rw [ring_mid (way_at (w := n + z) hn (.inr (.inr (.inl ⟨by omega, by omega, by omega⟩)))) hn (by omega) (by omega)]; omega⟩
theorem ring5 {n y P : Int} (hn : 0 < n) (h0 : 0 ≤ y) (h1 : y ≤ n) (hP : P = 3 * n + y) : ringAt P n 0 = 0 ∧ ringAt P n (2 * n) = n - y ∧ ringAt P n (4 * n) = n :=
  ⟨ring_low (way_at (w := 3 * n - y) hn (.inr (.inl ⟨by omega, by omega, by omega⟩))) hn (by omega),
   by rw [ring_mid (way_at (w := n + y) hn (.inl ⟨by omega, by omega, by omega⟩)) hn (by omega) (by omega)]; omega,
   ring_top (way_at (w := n - y) hn (.inr (.inr (.inl ⟨by omega, by omega, by omega⟩)))) hn (by omega)⟩
theorem ring6 {n x P : Int} (hn : 0 < n) (h0 : 0 ≤ x) (h1 : x ≤ n) (hP : P + x = 5 * n) : ringAt P n 0 = n - x ∧ ringAt P n (2 * n) = 0 ∧ ringAt P n (4 * n) = n :=
  ⟨by rw [ring_mid (way_at (w := n + x) hn (.inr (.inl ⟨by omega, by omega, by omega⟩))) hn (by omega) (by omega)]; omega,
   ring_low (way_at (w := 3 * n - x) hn (.inl ⟨by omega, by omega, by omega⟩)) hn (by omega),
   ring_top (way_at (w := n - x) hn (.inl ⟨by omega, by omega, by omega⟩)) hn (by omega)⟩
theorem place_ring {x y z n P : Nat} (hn : 0 < n) (hx : x ≤ n) (hy : y ≤ n) (hz : z ≤ n) (hP : Place x y z n P) :
    ringAt (P : Int) (n : Int) 0 = (n : Int) - x ∧ ringAt (P : Int) (n : Int) (2 * (n : Int)) = (n : Int) - y ∧ ringAt (P : Int) (n : Int) (4 * (n : Int)) = (n : Int) - z := by
  have hn' : (0 : Int) < (n : Int) := Int.ofNat_lt.mpr hn
  have hx' : (x : Int) ≤ n := Int.ofNat_le.mpr hx
  have hy' : (y : Int) ≤ n := Int.ofNat_le.mpr hy
  have hz' : (z : Int) ≤ n := Int.ofNat_le.mpr hz
  have e0 : ((n : Int) - (0 : Nat)) = n := Int.sub_zero _
  have en : (n : Int) - (n : Int) = 0 := Int.sub_self _
  rcases hP with ⟨h1, h2, h3⟩ | ⟨h1, h2, h4, h3⟩ | ⟨h1, h2, h3⟩ | ⟨h1, h2, h3⟩ | ⟨h1, h2, h3⟩ | ⟨h1, h2, h3⟩
  · rw [h1, h2, e0, en]; exact ring1 hn' (Int.natCast_nonneg _) hy' (by omega)
  · rw [h1, h2, e0, en]; exact ring2 hn' (Int.natCast_nonneg _) (Int.ofNat_lt.mpr h4) (by omega)
  · rw [h1, h2, e0, en]; exact ring3 hn' (Int.natCast_nonneg _) hx' (by omega)
  · rw [h1, h2, e0, en]; exact ring4 hn' (Int.natCast_nonneg _) hz' (by omega)
  · rw [h1, h2, e0, en]; exact ring5 hn' (Int.natCast_nonneg _) hy' (by omega)
  · rw [h1, h2, e0, en]; exact ring6 hn' (Int.natCast_nonneg _) hx' (by omega)
theorem HueAt.notneg {H : UInt64} {n P : Nat} (h : HueAt H n P) : (Float64.cmp H 0 == some .lt) = false := by
  obtain ⟨e, rfl, he, _⟩ := h
  obtain ⟨m, f, hd, _⟩ := decode_pack false he
  obtain ⟨m', f', hd', _⟩ := decode_pack false (t := 0) (by decide)
  have h0 : (0 : UInt64) = pack false 0 := by decide +kernel
  rw [h0, cmp_right hd hd', pack_val he, pack_val (by decide), V_zero]
  rcases Nat.eq_zero_or_pos (V e) with q | q
  · rw [q]; rfl
  · rw [Int.compare_eq_gt.mpr (show ((0 : Nat) : Int) < (V e : Int) from Int.ofNat_lt.mpr q)]; rfl
theorem fdivI_nat (a b : Nat) : fdivI (a : Int) (b : Int) = Float64.ofFrac false a b := by
  unfold fdivI
  rw [decide_eq_false (show ¬ ((a : Int) < 0) from Int.not_lt.mpr (Int.natCast_nonneg _)), decide_eq_false (show ¬ ((b : Int) < 0) from Int.not_lt.mpr (Int.natCast_nonneg _)), Int.natAbs_natCast, Int.natAbs_natCast]; rfl
theorem less_less {x mx mn : Nat} (h1 : mn ≤ x) (h2 : x ≤ mx) : ((mx - mn : Nat) : Int) - ((mx - x : Nat) : Int) = (x : Int) - mn := by omega
/-- what a hue of an exact colour meets -/
theorem hue_struct {r g b : UInt64} {x y z D mx mn : Nat} (T : Tri r g b x y z D mx mn) (hn : mn < mx) (hn2 : mx - mn ≤ 1099511627776) :
    ∃ fine spot P r40, Hue ((x : Int) - mn) ((y : Int) - mn) ((z : Int) - mn) ((mx : Int) - mn) (hlsH r g b) fine spot P r40 := by
  obtain ⟨P, hP, hPl, hH, hpow⟩ := T.hue hn hn2
  have hn1 : 0 < mx - mn := Nat.sub_pos_of_lt hn
  obtain ⟨q1, q2, q3⟩ := place_ring hn1 (Nat.sub_le_sub_left T.bd.x1 _) (Nat.sub_le_sub_left T.bd.y1 _) (Nat.sub_le_sub_left T.bd.z1 _) hPl
  rw [less_less T.bd.x1 T.bd.x2] at q1
  rw [less_less T.bd.y1 T.bd.y2] at q2
  rw [less_less T.bd.z1 T.bd.z2] at q3
  have hN : (mx : Int) - mn = ((mx - mn : Nat) : Int) := (Int.ofNat_sub (Nat.le_of_lt hn)).symm
  have hp40 : (2 : Int) ^ Int.toNat 40 = ((1099511627776 : Nat) : Int) := by decide
  rw [hN]
  clear hN hPl hn T
  generalize mx - mn = n at *
  have hfine : n * (1099511627776 / n) ≤ 1099511627776 := Nat.mul_div_le _ _
  have hf0 : 0 < 1099511627776 / n := Nat.div_pos hn2 hn1
  have hf1 : 1099511627776 / n ≤ 1099511627776 := Nat.div_le_self _ _
  obtain ⟨s1, s2⟩ := spot_of hH hfine
  have e6 : (6 : Int) * (n : Int) * ((1099511627776 / n : Nat) : Int) = ((6 * n * (1099511627776 / n) : Nat) : Int) := by rw [Int.natCast_mul, Int.natCast_mul]; rfl
  have nn := Int.natCast_nonneg n
  have fn := Int.natCast_nonneg (1099511627776 / n)
  refine ⟨((1099511627776 / n : Nat) : Int), ((P * (1099511627776 / n) : Nat) : Int), (P : Int), ((1099511627776 % n : Nat) : Int), ?_⟩
  constructor
  · rw [hp40, Int.fdiv_eq_ediv_of_nonneg _ nn]; exact (Int.natCast_ediv _ _).symm
  · exact Int.ofNat_lt.mpr hf0
  · exact Int.ofNat_le.mpr hf1
  · rw [e6, Int.natAbs_natCast, Nat.mul_assoc]; exact Nat.lt_of_le_of_lt (Nat.mul_le_mul_left 6 hfine) (by decide)
  · rw [e6]; exact s1
  · rw [e6]; exact s2
  · exact hH.notneg
  · rw [Int.fmod_eq_emod_of_nonneg _ fn, ← Int.natCast_emod, Nat.mul_mod_left]; rfl
  · rw [Int.fdiv_eq_ediv_of_nonneg _ fn, ← Int.natCast_ediv, Nat.mul_div_cancel _ hf0]
  · exact Int.natCast_nonneg _
  · exact Int.ofNat_lt.mpr hP
  · exact q1
  · exact q2
  · exact q3
  · rw [hp40, Int.fmod_eq_emod_of_nonneg _ nn]; exact (Int.natCast_emod _ _).symm
  · intro h0
    have h6 : (6 : Int) * (n : Int) = ((6 * n : Nat) : Int) := by rw [Int.natCast_mul]; rfl
    rw [h6, fdivI_nat]
    exact hpow (Int.ofNat_eq_zero.mp h0)
end
/-! FV -/
section
open PySem PySem.Float64
theorem ofFrac_self {n d : Nat} (hd : 0 < d) (h : n ≤ d * 2 ^ 64) : Float64.cmp (Float64.ofFrac false n d) (Float64.ofFrac false n d) = some .eq := by
  obtain ⟨t, h1, h2, _⟩ := right_nr (r := Float64.ofFrac false n d) (neg := false) (W := n * U) (D := d) hd (by rw [← Nat.mul_assoc]; exact Nat.mul_le_mul_right _ h) (ofFrac_right hd (by unfold U; rfl) hd)
  rw [h1]; exact cmp_self h2
theorem le_big {n d : Nat} (h : n ≤ 8 * d) : n ≤ d * 2 ^ 64 := Nat.le_trans h (by rw [Nat.mul_comm]; exact Nat.mul_le_mul_left _ (by decide))
section
variable {r g b : UInt64} {x y z D mx mn : Nat} (T : Tri r g b x y z D mx mn)
include T
theorem Tri.mnD : mn ≤ D := Nat.le_trans T.bd.le T.hle
theorem Tri.sumle : mx + mn ≤ 2 * D := by rw [Nat.two_mul]; exact Nat.add_le_add T.hle T.mnD
theorem Tri.sum {s : UInt64} (hs : Fv s (mx + mn) D) : Float64.add (fmax3 r g b) (fmin3 r g b) = s :=
  T.maxc.add T.minc hs T.hD (le_big (Nat.le_trans T.sumle (Nat.mul_le_mul_right _ (by decide))))
theorem Tri.lightness {s : UInt64} (hs : Fv s (mx + mn) D) : hlsL r g b = Float64.ofFrac false (mx + mn) (2 * D) := by
  unfold hlsL
  rw [T.sum hs, hs.div Fv_two T.hD (by decide) (by decide), Nat.mul_one, Nat.mul_comm]
theorem Tri.notgrey (hn : mn < mx) : hlsGrey r g b = false := by rw [T.grey_iff]; exact decide_eq_false (Nat.ne_of_gt hn)
theorem Tri.sat_dark {s : UInt64} (hs : Fv s (mx + mn) D) (hn : mn < mx) (hdark : hlsDark r g b = true) : hlsS r g b = Float64.ofFrac false (mx - mn) (mx + mn) := by
  unfold hlsS
  have h0 : 0 < mx + mn := Nat.lt_of_lt_of_le (Nat.lt_of_le_of_lt (Nat.zero_le _) hn) (Nat.le_add_right _ _)
  rw [T.notgrey hn, if_neg Bool.false_ne_true, hdark, if_pos rfl, T.sum hs, T.range.div hs T.hD T.hD h0]
  exact ofFrac_congr (Nat.mul_pos T.hD h0) h0 (by rw [Nat.mul_assoc])
theorem Tri.lack {v w : UInt64} (hv : Fv v (2 * D - mx) D) (hw : Fv w (2 * D - mx - mn) D) : Float64.sub (Float64.sub 4611686018427387904 (fmax3 r g b)) (fmin3 r g b) = w := by
  have hD := T.hD
  have h28 : 2 * D ≤ 8 * D := Nat.mul_le_mul_right _ (by decide)
  have h2 : Fv 4611686018427387904 (2 * D) D := by have := Fv_two.up D; rwa [Nat.one_mul] at this
  rw [h2.sub T.maxc (Nat.le_trans (Nat.le_add_right _ _) T.sumle) hv hD (le_big h28)]
  exact hv.sub T.minc (Nat.le_sub_of_add_le (by rw [Nat.add_comm]; exact T.sumle)) hw hD (le_big (Nat.le_trans (Nat.sub_le _ _) h28))
theorem Tri.lackpos (hn : mn < mx) : 0 < 2 * D - (mx + mn) := Nat.sub_pos_of_lt (by rw [Nat.two_mul]; exact Nat.add_lt_add_of_le_of_lt T.hle (Nat.lt_of_lt_of_le hn T.hle))
theorem Tri.sat_light {v w : UInt64} (hv : Fv v (2 * D - mx) D) (hw : Fv w (2 * D - mx - mn) D) (hn : mn < mx) (hdark : hlsDark r g b = false) : hlsS r g b = Float64.ofFrac false (mx - mn) (2 * D - (mx + mn)) := by
  unfold hlsS
  have h0 := T.lackpos hn
  have h0' : 0 < 2 * D - mx - mn := by rw [← Nat.sub_add_eq]; exact h0
  rw [T.notgrey hn, if_neg Bool.false_ne_true, hdark, if_neg Bool.false_ne_true, T.lack hv hw, T.range.div hw T.hD T.hD h0']
  exact ofFrac_congr (Nat.mul_pos T.hD h0') h0 (by rw [Nat.sub_add_eq, Nat.mul_assoc])
theorem Tri.ok (hsum : hlsDark r g b = true → mn < mx → ∃ s, Fv s (mx + mn) D) (hlack : hlsDark r g b = false → mn < mx → ∃ v w, Fv v (2 * D - mx) D ∧ Fv w (2 * D - mx - mn) D) : HlsOk r g b := by
  intro hg
  rw [T.grey_iff] at hg
  have hn : mn < mx := Nat.lt_of_le_of_ne T.bd.le (Ne.symm (of_decide_eq_false hg))
  refine ⟨?_, fun hd => ?_, fun hd => ?_⟩
  · rw [T.range.zero_iff T.hD]; exact beq_eq_false_iff_ne.mpr (Nat.ne_of_gt (Nat.sub_pos_of_lt hn))
  · obtain ⟨s, hs⟩ := hsum hd hn
    rw [T.sum hs, hs.zero_iff T.hD]; exact beq_eq_false_iff_ne.mpr (Nat.ne_of_gt (Nat.lt_of_lt_of_le (Nat.lt_of_le_of_lt (Nat.zero_le _) hn) (Nat.le_add_right _ _)))
  · obtain ⟨v, w, hv, hw⟩ := hlack hd hn
    rw [T.lack hv hw, hw.zero_iff T.hD]; exact beq_eq_false_iff_ne.mpr (Nat.ne_of_gt (by rw [← Nat.sub_add_eq]; exact T.lackpos hn))
theorem Tri.grey_vals (h : mx = mn) : hlsH r g b = 0 ∧ hlsS r g b = 0 := by
  have hg : hlsGrey r g b = true := by rw [T.grey_iff]; exact decide_eq_true h
  unfold hlsH hlsS
  rw [hg, if_pos rfl, if_pos rfl]; exact ⟨rfl, rfl⟩
end
theorem zero_self : Float64.cmp 0 0 = some .eq := by decide +kernel
/-- the greatest and the least of three ints that are no less than nought -/
theorem bd_of {a b c mx mn : Int} (hmx : Mx a b c mx) (hmn : Mn a b c mn) (a0 : 0 ≤ a) (b0 : 0 ≤ b) (c0 : 0 ≤ c) : ∃ A B C X N : Nat, a = A ∧ b = B ∧ c = C ∧ mx = X ∧ mn = N ∧ Bd A B C X N := by
  obtain ⟨x1, x2, x3, x4⟩ := hmx
  obtain ⟨n1, n2, n3, n4⟩ := hmn
  obtain ⟨A, rfl⟩ := Int.eq_ofNat_of_zero_le a0
  obtain ⟨B, rfl⟩ := Int.eq_ofNat_of_zero_le b0
  obtain ⟨C, rfl⟩ := Int.eq_ofNat_of_zero_le c0
  obtain ⟨X, rfl⟩ := Int.eq_ofNat_of_zero_le (Int.le_trans a0 x1)
  obtain ⟨N, rfl⟩ := Int.eq_ofNat_of_zero_le (show 0 ≤ mn by rcases n4 with q | q | q <;> rw [q] <;> assumption)
  refine ⟨A, B, C, X, N, rfl, rfl, rfl, rfl, rfl, Int.ofNat_le.mp n1, Int.ofNat_le.mp x1, Int.ofNat_le.mp n2, Int.ofNat_le.mp x2, Int.ofNat_le.mp n3, Int.ofNat_le.mp x3, ?_, ?_⟩
  · rcases x4 with q | q | q
    · exact .inl (Int.ofNat.inj q).symm
    · exact .inr (.inl (Int.ofNat.inj q).symm)
    · exact .inr (.inr (Int.ofNat.inj q).symm)
  · rcases n4 with q | q | q
    · exact .inl (Int.ofNat.inj q).symm
    · exact .inr (.inl (Int.ofNat.inj q).symm)
    · exact .inr (.inr (Int.ofNat.inj q).symm)
/-- claim 1, in plain numbers -/
theorem math1_tri {a b c k mx mn : Nat} {r g bl : UInt64} (hk : k ≤ 40) (T : Tri r g bl a b c (2 ^ k) mx mn) (mk : ∀ N, N ≤ 2 * 2 ^ k → Fv (Float64.ofFrac false N (2 ^ k)) N (2 ^ k)) :
    HlsOk r g bl ∧ Float64.cmp (hlsL r g bl) (Float64.ofFrac false (mx + mn) (2 * 2 ^ k)) = some .eq ∧
    (mx = mn → Float64.cmp (hlsH r g bl) 0 = some .eq ∧ Float64.cmp (hlsS r g bl) 0 = some .eq) ∧
    (mn < mx → Float64.cmp (hlsS r g bl) (Float64.ofFrac false (mx - mn) (min (mx + mn) (2 * 2 ^ k - (mx + mn)))) = some .eq ∧
      ∃ fine spot P r40, Hue ((a : Int) - mn) ((b : Int) - mn) ((c : Int) - mn) ((mx : Int) - mn) (hlsH r g bl) fine spot P r40) := by
  have hk2 : (2 : Nat) ^ k ≤ 1099511627776 := by rw [← p40]; exact Nat.pow_le_pow_right (by decide) hk
  have hkp : 0 < (2 : Nat) ^ k := T.hD
  have hs2 := T.sumle
  have hmn := T.mnD
  have hmx := T.hle
  have hs := mk (mx + mn) hs2
  have hv := mk (2 * 2 ^ k - mx) (Nat.sub_le _ _)
  have hw := mk (2 * 2 ^ k - mx - mn) (Nat.le_trans (Nat.sub_le _ _) (Nat.sub_le _ _))
  have hL := T.lightness hs
  have hLv : Fv (hlsL r g bl) (mx + mn) (2 * 2 ^ k) := by
    rw [hL, Nat.mul_comm 2, ← Nat.pow_succ]
    refine Fv.mk _ _ (Nat.le_trans (Nat.succ_le_succ hk) (by decide)) (Nat.le_trans hs2 (Nat.le_trans (Nat.mul_le_mul_left 2 hk2) (by decide)))
  have hhalf : Fv 4602678819172646912 (2 ^ k) (2 * 2 ^ k) := by have := Fv_half.up (2 ^ k); rwa [Nat.one_mul] at this
  have hdark : hlsDark r g bl = decide (mx + mn ≤ 2 ^ k) := by
    obtain ⟨q1, q2, q3⟩ := hLv.cmp_of hhalf (Nat.mul_pos (by decide) hkp)
    unfold hlsDark
    rcases Nat.lt_trichotomy (mx + mn) (2 ^ k) with q | q | q
    · rw [q1 q, decide_eq_true (Nat.le_of_lt q)]; rfl
    · rw [q2 q, decide_eq_true (Nat.le_of_eq q)]; rfl
    · rw [q3 q, decide_eq_false (Nat.not_le.mpr q)]; rfl
  refine ⟨T.ok (fun _ _ => ⟨_, hs⟩) (fun _ _ => ⟨_, _, hv, hw⟩), ?_, fun h => ?_, fun h => ⟨?_, hue_struct T h (Nat.le_trans (Nat.sub_le _ _) (Nat.le_trans hmx hk2))⟩⟩
  · rw [hL]; exact ofFrac_self (Nat.mul_pos (by decide) hkp) (le_big (Nat.le_trans hs2 (Nat.le_mul_of_pos_left _ (by decide))))
  · obtain ⟨e1, e2⟩ := T.grey_vals h
    rw [e1, e2]; exact ⟨zero_self, zero_self⟩
  · have h0 := T.lackpos h
    have hself : ∀ d, 0 < d → mx - mn ≤ d → Float64.cmp (Float64.ofFrac false (mx - mn) d) (Float64.ofFrac false (mx - mn) d) = some .eq :=
      fun d h1 h2 => ofFrac_self h1 (Nat.le_trans h2 (Nat.le_mul_of_pos_right _ (by decide)))
    generalize hE : (2 : Nat) ^ k = E at *
    by_cases hd : mx + mn ≤ E
    · rw [T.sat_dark hs h (by rw [hdark]; exact decide_eq_true hd), Nat.min_eq_left (by clear hself; omega)]
      exact hself _ (by clear hself; omega) (by clear hself; omega)
    · rw [T.sat_light hv hw h (by rw [hdark]; exact decide_eq_false hd), Nat.min_eq_right (by clear hself; omega)]
      exact hself _ h0 (by clear hself; omega)
theorem math1_nat {a b c k mx mn : Nat} (hk : k ≤ 40) (hb : Bd a b c mx mn) (hm : mx ≤ 2 ^ k) :
    HlsOk (Float64.ofFrac false a (2 ^ k)) (Float64.ofFrac false b (2 ^ k)) (Float64.ofFrac false c (2 ^ k)) ∧
    Float64.cmp (hlsL (Float64.ofFrac false a (2 ^ k)) (Float64.ofFrac false b (2 ^ k)) (Float64.ofFrac false c (2 ^ k))) (Float64.ofFrac false (mx + mn) (2 * 2 ^ k)) = some .eq ∧
    (mx = mn → Float64.cmp (hlsH (Float64.ofFrac false a (2 ^ k)) (Float64.ofFrac false b (2 ^ k)) (Float64.ofFrac false c (2 ^ k))) 0 = some .eq ∧ Float64.cmp (hlsS (Float64.ofFrac false a (2 ^ k)) (Float64.ofFrac false b (2 ^ k)) (Float64.ofFrac false c (2 ^ k))) 0 = some .eq) ∧
    (mn < mx → Float64.cmp (hlsS (Float64.ofFrac false a (2 ^ k)) (Float64.ofFrac false b (2 ^ k)) (Float64.ofFrac false c (2 ^ k))) (Float64.ofFrac false (mx - mn) (min (mx + mn) (2 * 2 ^ k - (mx + mn)))) = some .eq ∧
      ∃ fine spot P r40, Hue ((a : Int) - mn) ((b : Int) - mn) ((c : Int) - mn) ((mx : Int) - mn) (hlsH (Float64.ofFrac false a (2 ^ k)) (Float64.ofFrac false b (2 ^ k)) (Float64.ofFrac false c (2 ^ k))) fine spot P r40) := by
  have hk2 : (2 : Nat) ^ k ≤ 1099511627776 := by rw [← p40]; exact Nat.pow_le_pow_right (by decide) hk
  have mk : ∀ N, N ≤ 2 * 2 ^ k → Fv (Float64.ofFrac false N (2 ^ k)) N (2 ^ k) := fun N h => Fv.mk N k (Nat.le_trans hk (by decide)) (Nat.le_trans h (Nat.le_trans (Nat.mul_le_mul_left 2 hk2) (by decide)))
  have up : ∀ N, N ≤ mx → N ≤ 2 * 2 ^ k := fun N h => Nat.le_trans (Nat.le_trans h hm) (Nat.le_mul_of_pos_left _ (by decide))
  exact math1_tri hk ⟨mk a (up _ hb.x2), mk b (up _ hb.y2), mk c (up _ hb.z2), Nat.two_pow_pos _, hb, hm, fun N h => ⟨_, mk N (up _ (Nat.le_trans h (Nat.sub_le _ _)))⟩⟩ mk
/-- claim 1, as the walk asks it -/
theorem math1 {a b c k top mx mn : Int} (hk1 : 1 ≤ k) (hk2 : k ≤ 40) (htop : top = 2 ^ k.toNat) (a0 : 0 ≤ a) (a1 : a ≤ top) (b0 : 0 ≤ b) (b1 : b ≤ top) (c0 : 0 ≤ c) (c1 : c ≤ top) (hmx : Mx a b c mx) (hmn : Mn a b c mn) :
    HlsOk (fdivI a top) (fdivI b top) (fdivI c top) ∧
    Float64.cmp (hlsL (fdivI a top) (fdivI b top) (fdivI c top)) (fdivI (mx + mn) (2 * top)) = some .eq ∧
    (mx - mn = 0 → Float64.cmp (hlsH (fdivI a top) (fdivI b top) (fdivI c top)) 0 = some .eq ∧ Float64.cmp (hlsS (fdivI a top) (fdivI b top) (fdivI c top)) 0 = some .eq) ∧
    (mx - mn ≠ 0 → Float64.cmp (hlsS (fdivI a top) (fdivI b top) (fdivI c top)) (fdivI (mx - mn) (if 2 * top - (mx + mn) < mx + mn then 2 * top - (mx + mn) else mx + mn)) = some .eq ∧
      ∃ fine spot P r40, Hue (a - mn) (b - mn) (c - mn) (mx - mn) (hlsH (fdivI a top) (fdivI b top) (fdivI c top)) fine spot P r40) := by
  have hm0 : mx ≤ top := by rcases hmx.h4 with q | q | q <;> rw [q] <;> assumption
  obtain ⟨a, b, c, mx, mn, rfl, rfl, rfl, rfl, rfl, hb⟩ := bd_of hmx hmn a0 b0 c0
  clear hmx hmn a0 b0 c0 a1 b1 c1
  have ht : top = ((2 ^ k.toNat : Nat) : Int) := by rw [htop, Int.natCast_pow]; rfl
  clear htop
  generalize hK : k.toNat = K at *
  have hK40 : K ≤ 40 := by omega
  subst ht
  have hm : mx ≤ 2 ^ K := Int.ofNat_le.mp hm0
  clear hm0 hK hk1 hk2
  obtain ⟨m1, m2, m3, m4⟩ := math1_nat hK40 hb hm
  have hnm := hb.le
  clear hb hK40
  have e2 : (2 : Int) * ((2 ^ K : Nat) : Int) = ((2 * 2 ^ K : Nat) : Int) := by rw [Int.natCast_mul]; rfl
  have es : (mx : Int) + (mn : Int) = ((mx + mn : Nat) : Int) := rfl
  rw [fdivI_nat, fdivI_nat, fdivI_nat, e2, es, fdivI_nat]
  refine ⟨m1, m2, fun h => m3 (by clear m1 m2 m3 m4; omega), fun h => ?_⟩
  obtain ⟨s1, s2⟩ := m4 (by clear m1 m2 m3 m4; omega)
  refine ⟨?_, s2⟩
  have em : (mx : Int) - (mn : Int) = ((mx - mn : Nat) : Int) := (Int.ofNat_sub hnm).symm
  have ei : (if ((2 * 2 ^ K : Nat) : Int) - ((mx + mn : Nat) : Int) < ((mx + mn : Nat) : Int) then ((2 * 2 ^ K : Nat) : Int) - ((mx + mn : Nat) : Int) else ((mx + mn : Nat) : Int)) = ((min (mx + mn) (2 * 2 ^ K - (mx + mn)) : Nat) : Int) := by
    have h2 : mx + mn ≤ 2 * 2 ^ K := by rw [Nat.two_mul]; exact Nat.add_le_add hm (Nat.le_trans hnm hm)
    clear m1 m2 m3 m4 s1 s2 e2 es em
    generalize 2 * 2 ^ K = E at *
    generalize mx + mn = S at *
    rw [← Int.ofNat_sub h2]
    by_cases q : E - S < S
    · rw [if_pos (Int.ofNat_lt.mpr q), Nat.min_eq_right (Nat.le_of_lt q)]
    · rw [if_neg (fun h => q (Int.ofNat_lt.mp h)), Nat.min_eq_left (Nat.not_lt.mp q)]
  rw [em, ei, fdivI_nat]
  exact s1
end
/-! FW -/
section
open PySem PySem.Float64
theorem near_half {N E : Nat} (hE : 0 < E) (h : N ≤ E) :
    (Float64.cmp (Float64.ofFrac false N (2 * E)) 4602678819172646912 == some .lt || Float64.cmp (Float64.ofFrac false N (2 * E)) 4602678819172646912 == some .eq) = true := by
  have h2E : 0 < 2 * E := Nat.mul_pos (by decide) hE
  have hb : N ≤ 2 * E * 2 ^ 64 := Nat.le_trans h (Nat.le_trans (Nat.le_mul_of_pos_left _ (by decide)) (Nat.le_mul_of_pos_right _ (by decide)))
  obtain ⟨t, h1, h2, h3⟩ := right_nr (r := Float64.ofFrac false N (2 * E)) (neg := false) (W := N * U) (D := 2 * E) h2E (by rw [← Nat.mul_assoc]; exact Nat.mul_le_mul_right _ hb) (ofFrac_right h2E (by unfold U; rfl) h2E)
  obtain ⟨c, hc, hci, hcv⟩ := Fv_half
  have hle : V t ≤ V c := nr_le h3 h2E (by
    have e1 : 2 * E * V c = E * U := by rw [Nat.mul_comm 2 E, Nat.mul_assoc, Nat.mul_comm 2, hcv, Nat.one_mul]
    rw [e1]; exact Nat.mul_le_mul_right _ h)
  rw [h1, hc]
  have f1 : Fv (pack false t) (V t) U := ⟨t, rfl, h2, rfl⟩
  have f2 : Fv (pack false c) (V c) U := ⟨c, rfl, hci, rfl⟩
  obtain ⟨q1, q2, _⟩ := f1.cmp_of f2 U_pos
  rcases Nat.lt_or_eq_of_le hle with q | q
  · rw [q1 q]; rfl
  · rw [q2 q]; rfl
theorem Tri.same_hue {r g b r' g' b' : UInt64} {x y z D D' mx mn : Nat} (T : Tri r g b x y z D mx mn) (T' : Tri r' g' b' x y z D' mx mn) : hlsH r g b = hlsH r' g' b' := by
  by_cases h : mx = mn
  · rw [(T.grey_vals h).1, (T'.grey_vals h).1]
  · have hn : mn < mx := Nat.lt_of_le_of_ne T.bd.le (Ne.symm h)
    rw [T.lacks hn, T'.lacks hn]
theorem pow41 {e : Nat} (h : 41 ≤ e) : 2199023255552 ≤ 2 ^ e := by
  have : (2 : Nat) ^ 41 ≤ 2 ^ e := Nat.pow_le_pow_right (by decide) h
  rwa [show (2 : Nat) ^ 41 = 2199023255552 by decide] at this
theorem tri3 {a b c e mx mn : Nat} (h1 : 41 ≤ e) (h2 : e ≤ 1074) (hb : Bd a b c mx mn) (hm : mx ≤ 1099511627776) :
    Tri (Float64.ofFrac false a (2 ^ e)) (Float64.ofFrac false b (2 ^ e)) (Float64.ofFrac false c (2 ^ e)) a b c (2 ^ e) mx mn := by
  have hp := pow41 h1
  have mk : ∀ N, N ≤ mx → Fv (Float64.ofFrac false N (2 ^ e)) N (2 ^ e) := fun N h => Fv.mk N e h2 (Nat.le_trans (Nat.le_trans h hm) (by decide))
  exact ⟨mk a hb.x2, mk b hb.y2, mk c hb.z2, Nat.two_pow_pos _, hb, Nat.le_trans hm (Nat.le_trans (by decide) hp), fun N h => ⟨_, mk N (Nat.le_trans h (Nat.sub_le _ _))⟩⟩
theorem math3_nat {a b c e mx mn : Nat} {r g bl : UInt64} (h1 : 41 ≤ e) (h2 : e ≤ 1074) (hm : mx ≤ 1099511627776) (T : Tri r g bl a b c (2 ^ e) mx mn) :
    HlsOk r g bl ∧ hlsL r g bl = Float64.ofFrac false (mx + mn) (2 * 2 ^ e) ∧ (mn < mx → hlsS r g bl = Float64.ofFrac false (mx - mn) (mx + mn)) := by
  have hp := pow41 h1
  have hmn := T.bd.le
  have hsum : mx + mn ≤ 2199023255552 := Nat.add_le_add hm (Nat.le_trans hmn hm)
  have hs : Fv (Float64.ofFrac false (mx + mn) (2 ^ e)) (mx + mn) (2 ^ e) := Fv.mk _ e h2 (Nat.le_trans hsum (by decide))
  have hL := T.lightness hs
  have hdark : hlsDark r g bl = true := by
    unfold hlsDark
    rw [hL]
    exact near_half (Nat.two_pow_pos _) (Nat.le_trans hsum hp)
  refine ⟨T.ok (fun _ _ => ⟨_, hs⟩) (fun h _ => ?_), hL, fun h => T.sat_dark hs h hdark⟩
  rw [hdark] at h; cases h
/-- what one depth tells, of the hue H and the saturation S that all depths share -/
structure Deep (a b c both q q2 : Int) (H S : UInt64) : Prop where
  ok : HlsOk (fdivI a q) (fdivI b q) (fdivI c q)
  hue : hlsH (fdivI a q) (fdivI b q) (fdivI c q) = H
  sat : hlsS (fdivI a q) (fdivI b q) (fdivI c q) = S
  light : Float64.cmp (hlsL (fdivI a q) (fdivI b q) (fdivI c q)) (fdivI both q2) = some .eq
theorem pow_nat (k : Nat) : (2 : Int) ^ k = ((2 ^ k : Nat) : Int) := by rw [Int.natCast_pow]; rfl
/-- claim 3, as the walk asks it: one hue and one saturation for all depths -/
theorem math3 {a b c mx mn : Int} (a0 : 0 ≤ a) (a1 : a ≤ 1099511627776) (b0 : 0 ≤ b) (b1 : b ≤ 1099511627776) (c0 : 0 ≤ c) (c1 : c ≤ 1099511627776) (hmx : Mx a b c mx) (hmn : Mn a b c mn) :
    ∃ H S, (∀ e : Int, 41 ≤ e → e ≤ 1074 → Deep a b c (mx + mn) (2 ^ e.toNat) (2 ^ (e + 1).toNat) H S) ∧ Float64.cmp H H = some .eq ∧ Float64.cmp S S = some .eq ∧
      (mx - mn = 0 → Float64.cmp H 0 = some .eq ∧ Float64.cmp S 0 = some .eq) ∧
      (mx - mn ≠ 0 → Float64.cmp S (fdivI (mx - mn) (mx + mn)) = some .eq ∧ ∃ fine spot P r40, Hue (a - mn) (b - mn) (c - mn) (mx - mn) H fine spot P r40) := by
  have hm0 : mx ≤ 1099511627776 := by rcases hmx.h4 with q | q | q <;> rw [q] <;> assumption
  obtain ⟨a, b, c, mx, mn, rfl, rfl, rfl, rfl, rfl, hb⟩ := bd_of hmx hmn a0 b0 c0
  clear hmx hmn a0 b0 c0 a1 b1 c1
  have hm : mx ≤ 1099511627776 := Int.ofNat_le.mp hm0
  clear hm0
  have hle := hb.le
  have hsum : mx + mn ≤ 2199023255552 := Nat.add_le_add hm (Nat.le_trans hle hm)
  have T0 := tri3 (e := 41) (by decide) (by decide) hb hm
  obtain ⟨k1, k2, k3⟩ := math3_nat (by decide) (by decide) hm T0
  obtain ⟨H, hH⟩ : ∃ H, hlsH (Float64.ofFrac false a (2 ^ 41)) (Float64.ofFrac false b (2 ^ 41)) (Float64.ofFrac false c (2 ^ 41)) = H := ⟨_, rfl⟩
  obtain ⟨S, hS⟩ : ∃ S, hlsS (Float64.ofFrac false a (2 ^ 41)) (Float64.ofFrac false b (2 ^ 41)) (Float64.ofFrac false c (2 ^ 41)) = S := ⟨_, rfl⟩
  have grey := fun h => T0.grey_vals (mx := mx) (mn := mn) h
  have sself : mn < mx → Float64.cmp (Float64.ofFrac false (mx - mn) (mx + mn)) (Float64.ofFrac false (mx - mn) (mx + mn)) = some .eq := fun h =>
    ofFrac_self (Nat.lt_of_lt_of_le (Nat.lt_of_le_of_lt (Nat.zero_le _) h) (Nat.le_add_right _ _)) (le_big (Nat.le_trans (Nat.sub_le _ _) (Nat.le_trans (Nat.le_add_right _ _) (Nat.le_mul_of_pos_left _ (by decide)))))
  refine ⟨H, S, fun e he1 he2 => ?_, ?_, ?_, fun h => ?_, fun h => ?_⟩
  · have h41 : 41 ≤ e.toNat := by clear hb k3 grey sself; omega
    have h1074 : e.toNat ≤ 1074 := by clear hb k3 grey sself; omega
    have hs1 : (e + 1).toNat = e.toNat + 1 := by clear hb k3 grey sself; omega
    rw [hs1]
    clear hs1
    generalize e.toNat = k at *
    have T := tri3 h41 h1074 hb hm
    obtain ⟨m1, m2, m3⟩ := math3_nat h41 h1074 hm T
    have hpk := pow41 h41
    have e2 : (2 : Nat) * 2 ^ k = 2 ^ (k + 1) := by rw [Nat.pow_succ, Nat.mul_comm]
    constructor
    · rw [pow_nat, fdivI_nat, fdivI_nat, fdivI_nat]; exact m1
    · rw [pow_nat, fdivI_nat, fdivI_nat, fdivI_nat, ← hH]; exact T.same_hue T0
    · rw [pow_nat, fdivI_nat, fdivI_nat, fdivI_nat, ← hS]
      by_cases h : mx = mn
      · rw [(T.grey_vals h).2, (T0.grey_vals h).2]
      · have hn := Nat.lt_of_le_of_ne hle (Ne.symm h)
        rw [m3 hn, k3 hn]
    · have es : (mx : Int) + (mn : Int) = ((mx + mn : Nat) : Int) := rfl
      rw [pow_nat, pow_nat, fdivI_nat, fdivI_nat, fdivI_nat, es, fdivI_nat, m2, e2]
      refine ofFrac_self (Nat.two_pow_pos _) (Nat.le_trans (Nat.le_trans hsum hpk) ?_)
      rw [← e2]
      exact Nat.le_trans (Nat.le_mul_of_pos_left _ (by decide)) (Nat.le_mul_of_pos_right _ (by decide))
  · by_cases h : mx = mn
    · rw [← hH, (grey h).1]; exact zero_self
    · obtain ⟨P, _, _, hue, _⟩ := T0.hue (Nat.lt_of_le_of_ne hle (Ne.symm h)) (Nat.le_trans (Nat.sub_le _ _) hm)
      rw [hH] at hue
      obtain ⟨t, rfl, ht, _⟩ := hue
      exact cmp_self ht
  · by_cases h : mx = mn
    · rw [← hS, (grey h).2]; exact zero_self
    · have hn := Nat.lt_of_le_of_ne hle (Ne.symm h)
      rw [← hS, k3 hn]; exact sself hn
  · have h' : mx = mn := by clear hb k3 grey sself; omega
    obtain ⟨g1, g2⟩ := grey h'
    rw [← hH, ← hS, g1, g2]; exact ⟨zero_self, zero_self⟩
  · have hn : mn < mx := by clear hb k3 grey sself; omega
    have em : (mx : Int) - (mn : Int) = ((mx - mn : Nat) : Int) := (Int.ofNat_sub hle).symm
    have es : (mx : Int) + (mn : Int) = ((mx + mn : Nat) : Int) := rfl
    refine ⟨?_, ?_⟩
    · rw [em, es, fdivI_nat, ← hS, k3 hn]; exact sself hn
    · rw [← hH]; exact hue_struct T0 hn (Nat.le_trans (Nat.sub_le _ _) hm)
end
section
open PySem PySem.W PyProof.Rows
set_option maxRecDepth 100000 in
set_option maxHeartbeats 8000000 in
open_top hd for PySem.Challenge.rw_dm0027_03
theorem lights_off : True := by
  w_top off
  trivial
end
/-! W3a -/
section
open PySem PySem.W PyProof.Rows PySem.Calls PySem.Flt
section
local macro_rules | `(tactic| walk_at "execs cons") => `(tactic| ((with_reducible show wpAny _ _ _ _ _ (Shared.mk _ _ _ (_ + 1) _)); refine gen_toks (Nat.succ_ne_zero _) ?_; intro tk' htk'))
local macro_rules | `(tactic| walk_at "execs nil") => `(tactic| ((with_reducible show wpAny _ _ _ _ _ (Shared.mk _ _ _ (_ + 1) _)); refine gen_toks (Nat.succ_ne_zero _) ?_; intro tk' htk'))
local macro_rules | `(tactic| walk_at "call builtin:max") => `(tactic| ((with_reducible show wpAny _ _ (call _ [Value.float _ _, Value.float _ _, Value.float _ _]) _ _ _); (rename News _ _ _ _ => N'); (rename Fr _ _ _ _ => F'); refine max_three_ff rfl F' N' (fun _ _ _ _ _ => ?_)))
local macro_rules | `(tactic| walk_at "call builtin:min") => `(tactic| ((with_reducible show wpAny _ _ (call _ [Value.float _ _, Value.float _ _, Value.float _ _]) _ _ _); (rename News _ _ _ _ => N'); (rename Fr _ _ _ _ => F'); refine min_three_ff rfl F' N' (fun _ _ _ _ _ => ?_)))
set_option maxRecDepth 100000 in
set_option maxHeartbeats 8000000 in
theorem hls_call {prog : Program} {w : World} {A₀ : Around} {E : Value → Shared → Prop} {s : Shared} {L : Addr} {h₀ base : Heap} {m mg mb : Str → Option Value} {p : Program} {loose : List Str} {mean : ExcName → Option Value} {Q : Value → Shared → Prop}
   {env : Env} {outer : List Env} {fr fg fb : UInt64} {tr tg tb : Tok} {d u : Nat} {gs : Option (List Code)}
   (B : Below A₀ base outer h₀) (F : Fr h₀ L s.heap m) (X₀ : (Mine.hd.heap_39 w.params).In h₀) (T : Top p loose mean mg mb h₀) (hf : env.frame = some L) (hke : env.scope.kind = .function)
   (hroom : d < recursionLimit) (hz : HlsOk fr fg fb)
   (h : ∀ x h' tk fH fL fS t1 t2 t3, t1 ≠ 0 → t2 ≠ 0 → t3 ≠ 0 → fH = hlsH fr fg fb → fL = hlsL fr fg fb → fS = hlsS fr fg fb → (∀ b o, s.heap.get? b = some o → h'.get? b = some o) → s.heap.get? x = none →
     h'.get? x = some { cls := .type "tuple", data := .seq #[.float fH t1, .float fL t2, .float fS t3] } → Q (.ref x) { s with heap := h', toks := tk }) :
   wpAny (model prog w) ⟨none, d, some (env :: outer), gs, u⟩ (call (.ref 21) [.float fr tr, .float fg tg, .float fb tb] []) Q E s := by
  refine wpAny_call ?_
  refine' call_own B F X₀ T rfl hf hke ?k6 ?k7 hroom ?k9 ?kB ?_ ?c2 ?c3 ?c4 ?c5; (case k6 => k_is); (case k7 => k_is); (case k9 => exact BindsTo.of_eq rfl); (case c5 => decide); (case kB => exact locs rfl); (case c2 => exact rfl); (case c3 => exact rfl); (case c4 => exact rfl); k_whole; intro g' L' h' hg' F' N' B' X' T'; (try dsimp only); (try k_fold)
  clear B F X₀ T
  k_steps
  all_goals first
    | (exfalso
       obtain ⟨z1, z2, z3⟩ := hz (by assumption)
       first
         | exact Bool.noConfusion ((by assumption : Float64.isZero (Float64.sub (fmax3 fr fg fb) (fmin3 fr fg fb)) = true).symm.trans z1)
         | exact Bool.noConfusion ((by assumption : Float64.isZero (Float64.add (fmax3 fr fg fb) (fmin3 fr fg fb)) = true).symm.trans (z2 (by assumption)))
         | exact Bool.noConfusion ((by assumption : Float64.isZero (Float64.sub (Float64.sub 4611686018427387904 (fmax3 fr fg fb)) (fmin3 fr fg fb)) = true).symm.trans (z3 (by assumption))))
    | ((rename News _ _ _ _ => N9); (rename Fr _ _ _ _ => F9); (have q := N9 _ (List.Mem.head _)); subst hg'
       have g0 : hlsGrey fr fg fb = true := by assumption
       refine h _ _ _ _ _ _ _ _ _ (by first | exact Nat.succ_ne_zero _ | assumption) (by first | exact Nat.succ_ne_zero _ | assumption) (by first | exact Nat.succ_ne_zero _ | assumption) ?_ ?_ ?_ F9.keep q.2.2 q.1
       · simp only [hlsH, g0, if_true]
       · rfl
       · simp only [hlsS, g0, if_true])
    | ((rename News _ _ _ _ => N9); (rename Fr _ _ _ _ => F9); (have q := N9 _ (List.Mem.head _)); subst hg'
       have g0 : hlsGrey fr fg fb = false := by assumption
       have d0 : hlsDark fr fg fb = true := by assumption
       refine h _ _ _ _ _ _ _ _ _ (by first | exact Nat.succ_ne_zero _ | assumption) (by first | exact Nat.succ_ne_zero _ | assumption) (by first | exact Nat.succ_ne_zero _ | assumption) ?_ ?_ ?_ F9.keep q.2.2 q.1
       · first
           | (have r0 : (Float64.cmp fr (fmax3 fr fg fb) == some .eq) = true := by assumption
              simp only [hlsH, hlsP, g0, r0, if_true, if_false, Bool.false_eq_true, hlsA])
           | (have r0 : (Float64.cmp fr (fmax3 fr fg fb) == some .eq) = false := by assumption
              have r1 : (Float64.cmp fg (fmax3 fr fg fb) == some .eq) = true := by assumption
              simp only [hlsH, hlsP, g0, r0, r1, if_true, if_false, Bool.false_eq_true, hlsA])
           | (have r0 : (Float64.cmp fr (fmax3 fr fg fb) == some .eq) = false := by assumption
              have r1 : (Float64.cmp fg (fmax3 fr fg fb) == some .eq) = false := by assumption
              simp only [hlsH, hlsP, g0, r0, r1, if_true, if_false, Bool.false_eq_true, hlsA])
       · rfl
       · simp only [hlsS, g0, d0, if_true, if_false, Bool.false_eq_true])
    | ((rename News _ _ _ _ => N9); (rename Fr _ _ _ _ => F9); (have q := N9 _ (List.Mem.head _)); subst hg'
       have g0 : hlsGrey fr fg fb = false := by assumption
       have d0 : hlsDark fr fg fb = false := by assumption
       refine h _ _ _ _ _ _ _ _ _ (by first | exact Nat.succ_ne_zero _ | assumption) (by first | exact Nat.succ_ne_zero _ | assumption) (by first | exact Nat.succ_ne_zero _ | assumption) ?_ ?_ ?_ F9.keep q.2.2 q.1
       · first
           | (have r0 : (Float64.cmp fr (fmax3 fr fg fb) == some .eq) = true := by assumption
              simp only [hlsH, hlsP, g0, r0, if_true, if_false, Bool.false_eq_true, hlsA])
           | (have r0 : (Float64.cmp fr (fmax3 fr fg fb) == some .eq) = false := by assumption
              have r1 : (Float64.cmp fg (fmax3 fr fg fb) == some .eq) = true := by assumption
              simp only [hlsH, hlsP, g0, r0, r1, if_true, if_false, Bool.false_eq_true, hlsA])
           | (have r0 : (Float64.cmp fr (fmax3 fr fg fb) == some .eq) = false := by assumption
              have r1 : (Float64.cmp fg (fmax3 fr fg fb) == some .eq) = false := by assumption
              simp only [hlsH, hlsP, g0, r0, r1, if_true, if_false, Bool.false_eq_true, hlsA])
       · rfl
       · simp only [hlsS, g0, d0, if_true, if_false, Bool.false_eq_true])
end
end
/-! W3b -/
section
open PySem PySem.W PyProof.Rows PySem.Calls PySem.Flt
set_option maxRecDepth 100000 in
set_option maxHeartbeats 8000000 in
theorem ring_call {prog : Program} {w : World} {A₀ : Around} {E : Value → Shared → Prop} {s : Shared} {L : Addr} {h₀ base : Heap} {m mg mb : Str → Option Value} {p : Program} {loose : List Str} {mean : ExcName → Option Value} {Q : Value → Shared → Prop}
   {env : Env} {outer : List Env} {d u : Nat} {gs : Option (List Code)} {place n : Int} {t1 t2 : Tok}
   (B : Below A₀ base outer h₀) (F : Fr h₀ L s.heap m) (X₀ : (Mine.hd.heap_39 w.params).In h₀) (T : Top p loose mean mg mb h₀) (hf : env.frame = some L) (hke : env.scope.kind = .function)
   (hroom : d < recursionLimit) (hp0 : 0 ≤ place) (hp1 : place < 6 * n) (hn : 0 < n) (hn1 : n ≤ 2 ^ 40)
   (h : ∀ x h' tk k t1 t2 t3, (∀ b o, s.heap.get? b = some o → h'.get? b = some o) → s.heap.get? x = none →
     h'.get? x = some (W.listOf #[.int (ringAt place n 0) t1, .int (ringAt place n (2 * n)) t2, .int (ringAt place n (4 * n)) t3] k) → Q (.ref x) { s with heap := h', toks := tk }) :
   wpAny (model prog w) ⟨none, d, some (env :: outer), gs, u⟩ (call (.ref 33) [.int place t1, .int n t2] []) Q E s := by
  refine wpAny_call ?_
  refine' call_own B F X₀ T rfl hf hke ?k6 ?k7 hroom ?k9 ?kB ?_ ?c2 ?c3 ?c4 ?c5; (case k6 => k_is); (case k7 => k_is); (case k9 => exact BindsTo.of_eq rfl); (case c5 => decide); (case kB => exact locs rfl); (case c2 => exact rfl); (case c3 => exact rfl); (case c4 => exact rfl); k_whole; intro g' L' h' hg' F' N' B' X' T'; (try dsimp only); (try k_fold)
  clear B F X₀ T
  k_steps
  (rename News _ _ _ _ => N9); (rename Fr _ _ _ _ => F9); (have q := N9 _ (List.Mem.tail _ (List.Mem.head _))); subst hg'
  exact h _ _ _ _ _ _ _ F9.keep q.2.2 q.1
end
/-! W3c -/
section
open PySem PySem.W PyProof.Rows PySem.Calls PySem.Flt
section
local macro_rules | `(tactic| walk_at "CompSrc") => `(tactic| refine hold ?_)
local macro_rules | `(tactic| walk_at "ElEnd") => `(tactic| refine hold ?_)
local macro_rules | `(tactic| walk_at "FinE") => `(tactic| refine hold ?_)
local macro_rules | `(tactic| walk_at "InvEndG") => `(tactic| refine hold ?_)
local macro_rules | `(tactic| walk_at "binaryOp Mod int int") => `(tactic| (with_plain (refine' fmod_to ?b ?q ?_; (case q => assumption); (case b => first | assumption | omega)); (try dsimp only)))
local macro_rules | `(tactic| walk_at "CompEnd") => `(tactic| refine hold ?_)
local macro_rules | `(tactic| walk_at "eval ListComp") => `(tactic| ((with_reducible show wpAny _ _ (eval (Expr.ListComp (Expr.BinOp _ _ _ _) _ _ _) _) _ _ _); k_here; k_dflt (refine LCg.ListComp_U (F₀ := by k_asm) (by with_unfolding_all rfl) (by decide) (by rfl) (by decide) (by rfl) ?_)))
local macro_rules | `(tactic| walk_at "exec For") => `(tactic| refine hold ?_)
local macro_rules | `(tactic| walk_at "exec For Name Call cons nil") => `(tactic| refine hold ?_)
local macro_rules | `(tactic| walk_at "pyIter ref") => `(tactic| ((with_reducible show wpAny _ _ (pyIter _) (fun it s₂ => LoopAtV _ _ _ _ _ _ _ _ _ it s₂) _ _); refine hold ?_))
local macro_rules | `(tactic| k_all) => `(tactic| assumption)
set_option maxRecDepth 100000 in
set_option maxHeartbeats 2000000 in
theorem triples_call {prog : Program} {w : World} {A₀ : Around} {E : Value → Shared → Prop} {s : Shared} {L : Addr} {h₀ base : Heap} {m mg mb : Str → Option Value} {p : Program} {loose : List Str} {mean : ExcName → Option Value} {Q : Value → Shared → Prop}
   {env : Env} {outer : List Env} {d u : Nat} {gs : Option (List Code)} {c : Addr} {vs : List Value} {ns : List Int}
   (B : Below A₀ base outer h₀) (F : Fr h₀ L s.heap m) (X₀ : (Mine.hd.heap_39 w.params).In h₀) (T : Top p loose mean mg mb h₀) (hf : env.frame = some L) (hke : env.scope.kind = .function)
   (hroom : d < recursionLimit) (hc : s.heap.IsList c vs.toArray) (hi : IntsAre vs ns) (hlen : ns.length ≤ 63)
   (h0 : ∀ x h' tk kk refs led, (∀ b o, s.heap.get? b = some o → h'.get? b = some o) → s.heap.get? x = none →
     h'.get? x = some (W.listOf (List.toArray refs) kk) → (∀ p ∈ led, s.heap.get? p.1 = none ∧ h'.get? p.1 = some p.2) → (∀ v ∈ refs, Row40 led v) → Q (.ref x) { s with heap := h', toks := tk }) :
   wpAny (model prog w) ⟨none, d, some (env :: outer), gs, u⟩ (call (.ref 26) [.ref c] []) Q E s := by
  refine wpAny_call ?_
  refine' call_own B F X₀ T rfl hf hke ?k6 ?k7 hroom ?k9 ?kB ?_ ?c2 ?c3 ?c4 ?c5; (case k6 => k_is); (case k7 => k_is); (case k9 => exact BindsTo.of_eq rfl); (case c5 => decide); (case kB => exact locs rfl); (case c2 => exact rfl); (case c3 => exact rfl); (case c4 => exact rfl); k_whole; intro g' L' h' hg' F' N' B' X' T'; (try dsimp only); (try k_fold)
  clear B F X₀ T
  have hcg : g'.IsList c vs.toArray := hg' ▸ hc
  k_steps
  refine ⟨?_⟩
  (with_reducible rename Fr _ _ _ _ => kF); (with_reducible rename News _ _ _ _ => kN); (with_reducible rename IsRange _ _ _ _ _ _ _ _ => kR)
  refine LCg.CompSrc.range (n := 27) rfl kF kN kR (by decide) rfl (Nat.le_of_ble_eq_true rfl) ?_
  intro gg
  refine comp_inv (fun i ys nw => Made [] i ys nw) ⟨rfl, fun _ hv => (nomatch hv), fun _ hp => (nomatch hp)⟩ trivial ?turn ?fin
  case turn =>
    rintro i v ys nw I oI C oC D m₂ h tk E' hi' ⟨tv, rfl⟩ hJ _ hoC hx F N off ne
    clear kF kN kR
    obtain ⟨xv, hxv⟩ : ∃ xv : Int, 0 + (i : Int) = xv := ⟨_, rfl⟩
    rw [hxv] at hx
    k_steps
    refine ⟨?_⟩
    (with_reducible rename Fr _ _ _ _ => kF9); (with_reducible rename News _ _ _ _ => kN9); (with_reducible rename _ ∧ _ ∧ _ ∧ AllLt _ _ => kL)
    have b0 : 0 ≤ xv.fdiv 9 ∧ xv.fdiv 9 ≤ 2 := by rw [Int.fdiv_eq_ediv_of_nonneg _ (by decide)]; omega
    have b1 : 0 ≤ (xv.fdiv 3).fmod 3 ∧ (xv.fdiv 3).fmod 3 ≤ 2 := by rw [Int.fmod_eq_emod_of_nonneg _ (by decide)]; omega
    have b2 : 0 ≤ xv.fmod 3 ∧ xv.fmod 3 ≤ 2 := by rw [Int.fmod_eq_emod_of_nonneg _ (by decide)]; omega
    exact LCg.CompEnd.intro kF9 kN9 (_ :: nw) (rot3 _ _ _ _ nw) (off3_cons off (Nat.ne_of_gt kL.1) (Nat.ne_of_gt kL.2.1) (Nat.ne_of_gt kL.2.2.1)) trivial (hJ.snoc b0 b1 b2)
  case fin =>
    rintro ys nw ⟨hl, hrows, _⟩
    clear kF kN kR
    k_steps
    refine ⟨?_⟩
    (with_reducible rename Fr _ _ _ _ => kF); (with_reducible rename News _ _ _ _ => kN); (with_reducible rename LCg.Off1 _ _ => kO)
    have htl := off1_mem kO
    clear kO
    refine name_head kN ?_
    intro C hC
    rw [← hC] at kN kF htl
    clear hC
    with_plain (refine For_invVF kF rfl rfl ?_)
    k_steps
    refine ⟨?_⟩
    (with_reducible rename Fr _ _ _ _ => kF); (with_reducible rename News _ _ _ _ => kN); (with_reducible rename IsRange _ _ _ _ _ _ _ _ => kR)
    with_plain (refine range_iter (n := (ns.length + 2) / 3) (fun i m nx => BuiltT C c [] "cells" (27 + i) m nx) rfl kR ?small ?size kF kN ⟨ys.toArray, ys.length, nw, rfl, Nat.le_of_eq (by rw [List.size_toArray, hl]), htl, fun _ hp => (nomatch hp), fun v hv => hrows v (by simpa using hv), rfl, rfl⟩ ?turn2 ?done2)
    case small => exact small_three (by omega) (by omega) (by omega) (by omega)
    case size => simp only [Builtin.Range.rangeSize]; split <;> (try split) <;> omega
    case turn2 =>
      clear htl hrows kN kF kR
      rintro i t m₁ nx h tk own hi2 hoff ⟨arr, nn, tl, rfl, hsz, htl, hcell, hrows, q1, q4⟩ F N
      rw [keep_map2 q1 q4] at F
      obtain ⟨R, hR⟩ : ∃ R, R = tl ++ own := ⟨_, rfl⟩
      have hRC : ∀ p ∈ R, p.1 ≠ C := by
        intro p hp
        rw [hR] at hp
        rcases List.mem_append.mp hp with hp | hp
        · exact htl p hp
        · exact hoff p hp C (List.mem_cons_self ..)
      have N3 : News g' L' h ((C, W.listOf arr nn) :: R) := by rw [hR]; exact N
      clear N
      obtain ⟨xv, hxv⟩ : ∃ xv : Int, xv = 0 + (i : Int) * 3 := ⟨_, rfl⟩
      rw [← hxv] at F
      have hx0 : 0 ≤ xv := by omega
      have hx1 : xv < (ns.length : Int) := by omega
      k_steps
      refine ⟨?_⟩
      (with_reducible rename Fr _ _ _ _ => kF); (with_reducible rename News _ _ _ _ => kN); (rename IntsAre _ (List.take 3 _) => kI)
      obtain ⟨a, b, cc, ta, tb, tc, hws⟩ := ints3_of kI (by simp only [List.length_take, List.length_append, List.length_drop, List.length_cons, List.length_nil]; omega)
      subst hws
      clear kI
      have hp0 : (2 : Int) ^ Int.toNat 40 + 1 ≠ 0 := by decide
      have hp1 : (0 : Int) < 2 ^ Int.toNat 40 + 1 := by decide
      have hp2 : (2 : Int) ^ Int.toNat 40 + 1 = 1099511627777 := by decide
      refine LCg.CompSrc.ledger rfl kF kN (by k_mem) (Nat.le_of_ble_eq_true rfl) ?_
      intro gg
      refine comp_map3 (fun k y => ∃ t, y = .int (k.fmod (2 ^ Int.toNat 40 + 1)) t) (Or.inr ⟨_, by k_mem, rfl, _, rfl⟩) ?_ ?_
      · clear kF kN
        intro k' t' I' oI' C' oC' D' m' ys' h' tk' E' _ hC' hx' F' N'
        obtain ⟨q, hq⟩ : ∃ q, k'.fmod (2 ^ Int.toNat 40 + 1) = q := ⟨_, rfl⟩
        k_steps
        refine ⟨?_⟩
        (with_reducible rename Fr _ _ _ _ => kF); (with_reducible rename News _ _ _ _ => kN)
        exact ⟨_, _, rfl, kF, kN, _, by rw [hq]⟩
      · rintro y0 y1 y2 ⟨t0, rfl⟩ ⟨t1, rfl⟩ ⟨t2, rfl⟩
        clear kF kN
        k_steps
        refine ⟨?_⟩
        intro D h5 tk5 F5 N5 o5
        have off := off1_mem o5
        clear o5
        have dC : @Ne Nat C D := off (C, W.listOf arr nn) (by k_mem)
        have dR : ∀ p ∈ R, p.1 ≠ D := fun p hp => off p (by repeat (first | exact hp | apply List.Mem.tail))
        clear off
        have N6 : News g' L' h5 ((D, LCg.lst [Value.int (a.fmod (2 ^ Int.toNat 40 + 1)) t0, Value.int (b.fmod (2 ^ Int.toNat 40 + 1)) t1, Value.int (cc.fmod (2 ^ Int.toNat 40 + 1)) t2]) :: (C, W.listOf arr nn) :: R) := fun p hp => by
          rcases List.mem_cons.mp hp with rfl | hp
          · exact N5 _ (.head _)
          rcases List.mem_cons.mp hp with rfl | hp
          · exact N5 _ (by k_mem)
          · exact N5 _ (by repeat (first | exact hp | apply List.Mem.tail))
        have F6 : Fr g' L' h5 _ := F5
        clear N5 F5
        have ha := fmod_range a hp1
        have hb := fmod_range b hp1
        have hcc := fmod_range cc hp1
        obtain ⟨am, ham⟩ : ∃ q, a.fmod (2 ^ Int.toNat 40 + 1) = q := ⟨_, rfl⟩
        obtain ⟨bm, hbm⟩ : ∃ q, b.fmod (2 ^ Int.toNat 40 + 1) = q := ⟨_, rfl⟩
        obtain ⟨cm, hcm⟩ : ∃ q, cc.fmod (2 ^ Int.toNat 40 + 1) = q := ⟨_, rfl⟩
        rw [ham, hp2] at ha; rw [hbm, hp2] at hb; rw [hcm, hp2] at hcc
        rw [ham, hbm, hcm] at N6
        clear ham hbm hcm
        k_steps
        refine ⟨?_⟩
        (with_reducible rename Fr _ _ _ _ => kF9); (with_reducible rename News _ _ _ _ => kN9)
        refine name_pair kN9 ?_
        intro ad had
        refine builtT_intro (adds := [ad]) kF9 kN9 hR hoff (List.Mem.tail _ (List.Mem.head _)) (fun p hp => ?_) (fun p hp => List.Mem.tail _ (List.Mem.tail _ hp)) (fun p hp => ?_) htl (fun q hq p hp => ?_) ?_ hcell ?_ rfl rfl
        · rw [List.mem_singleton.mp hp, had]; exact List.Mem.head _
        · rw [List.mem_singleton.mp hp, had]; exact Ne.symm dC
        · rw [List.mem_singleton.mp hq, had]; exact dR p hp
        · rw [Array.size_push]; omega
        · intro v hv
          rcases Array.mem_push.mp hv with hv | rfl
          · exact (hrows v hv).mono fun p hp => List.mem_append_right _ hp
          · rw [had]; exact ⟨_, _, _, _, _, _, _, _, rfl, List.Mem.head _, ha.1, by omega, hb.1, by omega, hcc.1, by omega⟩
    case done2 =>
      clear htl hrows kN kF kR
      rintro m₁ nx h tk ⟨arr, nn, tl, rfl, hsz, htl, hcell, hrows, q1, q4⟩ F N
      rw [keep_map2 q1 q4] at F
      k_steps
      subst hg'
      have q := N _ (List.Mem.head _)
      exact h0 C _ _ nn arr.toList tl F.keep q.2.2 (by simpa using q.1) (fun p hp => ⟨(N p (List.Mem.tail _ hp)).2.2, (N p (List.Mem.tail _ hp)).1⟩) (fun v hv => hrows v (by simpa using hv))
end
end
end Mine
open PySem PySem.W PyProof.Rows PySem.Calls PySem.Flt
open Mine
local macro_rules | `(tactic| walk_at "call builtin:max") => `(tactic| ((with_reducible show wpAny _ _ (call _ [Value.ref _]) _ _ _); (with_reducible rename Mx _ _ _ _ => kM); (with_reducible rename Fr _ _ _ _ => kF); (with_reducible rename News _ _ _ _ => kN); with_plain (refine' max_list3 kM kF kN ?m rfl ?_; (case m => k_mem)); intro h' t' tk' F' N'; (try k_sweep)))
local macro_rules | `(tactic| walk_at "call builtin:min") => `(tactic| ((with_reducible show wpAny _ _ (call _ [Value.ref _]) _ _ _); (with_reducible rename Mn _ _ _ _ => kM); (with_reducible rename Fr _ _ _ _ => kF); (with_reducible rename News _ _ _ _ => kN); with_plain (refine' min_list3 kM kF kN ?m rfl ?_; (case m => k_mem)); intro h' t' tk' F' N'; (try k_sweep)))
local macro_rules | `(tactic| walk_at "execs cons") => `(tactic| ((with_reducible show wpAny _ _ _ _ _ (Shared.mk _ _ _ (Shared.toks _) _)); refine gen_toks (by dsimp only; first | assumption | exact Nat.succ_ne_zero _) ?_; intro tk' htk'))
local macro_rules | `(tactic| walk_at "execs nil") => `(tactic| ((with_reducible show wpAny _ _ _ _ _ (Shared.mk _ _ _ (Shared.toks _) _)); refine gen_toks (by dsimp only; first | assumption | exact Nat.succ_ne_zero _) ?_; intro tk' htk'))
local macro_rules | `(tactic| walk_at "execs cons") => `(tactic| ((with_reducible show wpAny _ _ _ _ _ (Shared.mk _ _ _ (_ + 1) _)); refine gen_toks (Nat.succ_ne_zero _) ?_; intro tk' htk'))
local macro_rules | `(tactic| walk_at "execs nil") => `(tactic| ((with_reducible show wpAny _ _ _ _ _ (Shared.mk _ _ _ (_ + 1) _)); refine gen_toks (Nat.succ_ne_zero _) ?_; intro tk' htk'))
local macro_rules | `(tactic| walk_at "binaryOp Div int int") => `(tactic| (with_plain (refine div_small rfl (by omega) (by first | assumption | omega) ?_); (try dsimp only)))
local macro_rules | `(tactic| walk_at "eval ListComp") => `(tactic| ((with_reducible rename Fr _ _ _ _ => kF); (with_reducible rename Frag.In _ _ => kX); (with_reducible rename Top _ _ _ _ _ _ => kT); with_plain (refine wpAny_pos (by first | exact Nat.succ_ne_zero _ | assumption) ?_; refine' comp_floats kF kX kT ?eI ?eF rfl rfl rfl ?_; (case eI => k_is); (case eF => k_is))))
local macro_rules | `(tactic| walk_at "Exists") => `(tactic| ((with_reducible rename Fr _ _ _ _ => kF); (with_reducible rename News _ _ _ _ => kN); with_plain (refine ⟨_, _, _, _, rfl, kF, kN, by k_mem, three_floats, three_size, ?_⟩); intro D' h' tk' F' N' l1 htk'; (try k_sweep)))
local macro_rules | `(tactic| walk_at "call builtin:max") => `(tactic| ((with_reducible show wpAny _ _ (call _ [Value.ref _]) _ _ _); (with_reducible rename Mx _ _ _ _ => kM); (with_reducible rename Fr _ _ _ _ => kF); (with_reducible rename News _ _ _ _ => kN); with_plain (refine wpAny_pos (by first | exact Nat.succ_ne_zero _ | assumption) ?_; refine' max_list3 kM kF kN ?m rfl ?_; (case m => k_mem)); intro h' t' tk' F' N' htk'; (try k_sweep)))
local macro_rules | `(tactic| walk_at "call builtin:min") => `(tactic| ((with_reducible show wpAny _ _ (call _ [Value.ref _]) _ _ _); (with_reducible rename Mn _ _ _ _ => kM); (with_reducible rename Fr _ _ _ _ => kF); (with_reducible rename News _ _ _ _ => kN); with_plain (refine wpAny_pos (by first | exact Nat.succ_ne_zero _ | assumption) ?_; refine' min_list3 kM kF kN ?m rfl ?_; (case m => k_mem)); intro h' t' tk' F' N' htk'; (try k_sweep)))
local macro_rules | `(tactic| walk_at "call ref") => `(tactic| ((with_reducible show wpAny _ _ (call (Value.ref 21) _ _) _ _ _); (with_reducible rename Fr _ _ _ _ => kF); (with_reducible rename News _ _ _ _ => kN); (with_reducible rename Below _ _ _ _ => kB); (with_reducible rename Frag.In _ _ => kX); (with_reducible rename Top _ _ _ _ _ _ => kT); with_plain (refine wpAny_pos (by first | exact Nat.succ_ne_zero _ | assumption) ?_; refine' hls_call kB kF kX kT rfl rfl (by decide) ?hz ?_; (case hz => assumption)); intro x' h' tk' fH' fL' fS' t1' t2' t3' z1' z2' z3' e1' e2' e3' hk' hx' ho' htk'; (have F' := Fr.grownK kF hk'); (have N' := News.add kF kN hk' hx' ho'); (have l1 := News.off kN hx'); clear hk' hx' ho'; subst e1' e2' e3'; (try k_sweep)))
local macro_rules | `(tactic| walk_at "compareOp NotEq ref ref") => `(tactic| first | ((with_reducible rename News _ _ _ _ => kN); with_plain (refine' ne_nil kN ?m1 ?m2 ?u ?_; (case m1 => k_mem); (case m2 => k_mem); (case u => exact Nat.le_of_ble_eq_true rfl))) | ((with_reducible rename News _ _ _ _ => kN); with_plain (refine' ne_ints3 kN ?m1 ?m2 ?u ?c1 ?c2 ?c3 ?_; (case m1 => k_mem); (case m2 => k_mem); (case u => exact Nat.le_of_ble_eq_true rfl); (case c1 => assumption); (case c2 => assumption); (case c3 => assumption))) | ((with_reducible rename News _ _ _ _ => kN); (with_reducible rename Fr _ _ _ _ => kF); (with_reducible rename Frag.In _ _ => kX); with_plain (refine' ne_floats3 kN ?m1 ?m2 ?u ?nb ?k1 ?k2 ?k3 ?k4 ?k5 ?k6 ?c1 ?c2 ?c3 ?_; (case m1 => k_mem); (case m2 => k_mem); (case u => exact Nat.le_of_ble_eq_true rfl); (case nb => exact noneBooked_of (Frag.In.keeps kX (Fr.keep kF)) rfl); (case k1 => first | assumption | exact Nat.succ_ne_zero _); (case k2 => first | assumption | exact Nat.succ_ne_zero _); (case k3 => first | assumption | exact Nat.succ_ne_zero _); (case k4 => first | assumption | exact Nat.succ_ne_zero _); (case k5 => first | assumption | exact Nat.succ_ne_zero _); (case k6 => first | assumption | exact Nat.succ_ne_zero _); (case c1 => assumption); (case c2 => assumption); (case c3 => assumption))) | ((with_reducible rename News _ _ _ _ => kN); (with_reducible rename Fr _ _ _ _ => kF); (with_reducible rename Frag.In _ _ => kX); with_plain (refine' ne_floats2 kN ?m1 ?m2 ?u ?nb ?k1 ?k2 ?k4 ?k5 ?c1 ?c2 ?_; (case m1 => k_mem); (case m2 => k_mem); (case u => exact Nat.le_of_ble_eq_true rfl); (case nb => exact noneBooked_of (Frag.In.keeps kX (Fr.keep kF)) rfl); (case k1 => first | assumption | exact Nat.succ_ne_zero _); (case k2 => first | assumption | exact Nat.succ_ne_zero _); (case k4 => first | assumption | exact Nat.succ_ne_zero _); (case k5 => first | assumption | exact Nat.succ_ne_zero _); (case c1 => assumption); (case c2 => assumption))) | refine hold ?_)
local macro_rules | `(tactic| walk_at "ite") => `(tactic| first | (refine ite_pos (by (try simp only [beq_iff_eq, bne_iff_ne, decide_eq_true_eq, Bool.not_eq_true', decide_eq_false_iff_not, ne_eq]); omega) ?_) | (refine ite_neg (by (try simp only [beq_iff_eq, bne_iff_ne, decide_eq_true_eq, Bool.not_eq_true', decide_eq_false_iff_not, ne_eq]); omega) ?_))
local macro_rules | `(tactic| walk_at "subscriptTail Name Slice ref ref") => `(tactic| ((with_reducible rename Fr _ _ _ _ => kF); (with_reducible rename News _ _ _ _ => kN); (with_unfolding_all refine' slice_told kF kN ?m ?_ ?s ?g; (case m => k_mem); (case s => with_unfolding_all rfl); (case g => intro _; with_unfolding_all rfl)); intro D' h' F' N' l1; (try k_sweep)))
local macro_rules | `(tactic| walk_at "call builtin:min") => `(tactic| ((with_reducible show wpAny _ _ (call _ [Value.int _ _, Value.int _ _]) _ _ _); (with_reducible rename Fr _ _ _ _ => kF); (with_reducible rename News _ _ _ _ => kN); with_plain (refine' min_two_pos ?k rfl kF kN ?_; (case k => first | exact Nat.succ_ne_zero _ | assumption)); intro h' tk' t' htk' F' N'; (try k_sweep)))
local macro_rules | `(tactic| walk_at "binaryOp FloorDiv int int") => `(tactic| (with_plain (refine' fdiv_to ?b ?a ?q ?_; (case q => assumption); (case b => first | assumption | omega); (case a => first | assumption | omega)); (try dsimp only)))
local macro_rules | `(tactic| walk_at "binaryOp Mod int int") => `(tactic| (with_plain (refine' fmod_to ?b ?q ?_; (case q => assumption); (case b => first | assumption | omega)); (try dsimp only)))
local macro_rules | `(tactic| walk_at "binaryOp Mult int float") => `(tactic| (with_plain (refine' mulf_to ?b ?_; (case b => assumption)); (try dsimp only)))
local macro_rules | `(tactic| walk_at "call builtin:round") => `(tactic| (with_plain (refine' round_to rfl ?b ?q ?_; (case b => assumption); (case q => assumption)); (try dsimp only)))
local macro_rules | `(tactic| walk_at "subscriptTail Name Constant ref int") => `(tactic| ((with_reducible rename News _ _ _ _ => kN); with_plain (refine' item_first kN ?m ?c ?_; (case m => k_mem); (case c => assumption))))
local macro_rules | `(tactic| walk_at "subscriptTail Name UnaryOp ref int") => `(tactic| ((with_reducible rename News _ _ _ _ => kN); with_plain (refine' item_last kN ?m ?j ?c ?_; (case m => k_mem); (case j => assumption); (case c => assumption))))
local macro_rules | `(tactic| walk_at "subscriptTail Subscript Constant ref int") => `(tactic| ((with_reducible rename News _ _ _ _ => kN); with_plain (refine' told_at (vs := [Value.float _ _, Value.float _ _, Value.float _ _]) kN ?m ?a ?b ?j ?c ?_; (case m => k_mem); (case a => decide); (case b => decide); (case j => rfl); (case c => rfl))))
local macro_rules | `(tactic| walk_at "call ref") => `(tactic| ((with_reducible show wpAny _ _ (call (Value.ref 33) _ _) _ _ _); (with_reducible rename Fr _ _ _ _ => kF); (with_reducible rename News _ _ _ _ => kN); (with_reducible rename Below _ _ _ _ => kB); (with_reducible rename Frag.In _ _ => kX); (with_reducible rename Top _ _ _ _ _ _ => kT); with_plain (refine wpAny_pos (by first | exact Nat.succ_ne_zero _ | assumption) ?_; refine' ring_call kB kF kX kT rfl rfl (by decide) ?p0 ?p1 ?n0 ?n1 ?_; (case p0 => assumption); (case p1 => assumption); (case n0 => omega); (case n1 => omega);); intro x' h' tk' k' t1' t2' t3' hk' hx' ho' htk'; (have F' := Fr.grownK kF hk'); (have N' := News.add kF kN hk' hx' ho'); (have l1 := News.off kN hx'); clear hk' hx' ho'; (try k_sweep)))
local macro_rules | `(tactic| walk_at "compareOp NotEq float float") => `(tactic| (with_plain (refine' ne_ff_to ?c ?_; (case c => assumption))))
local macro_rules | `(tactic| walk_at "call ref") => `(tactic| ((with_reducible show wpAny _ _ (call (Value.ref 26) _ _) _ _ _); refine hold ?_))
local macro_rules | `(tactic| walk_at "eval ListComp") => `(tactic| ((with_reducible show wpAny _ _ (eval (Expr.ListComp (Expr.BinOp _ _ _ _) _ _ _) _) _ _ _); k_here; k_dflt (refine LCg.ListComp_U (F₀ := by k_asm) (by with_unfolding_all rfl) (by decide) (by rfl) (by decide) (by rfl) ?_)))
local macro_rules | `(tactic| walk_at "CompSrc") => `(tactic| refine hold ?_)
local macro_rules | `(tactic| walk_at "ElEnd") => `(tactic| refine hold ?_)
local macro_rules | `(tactic| walk_at "FinE") => `(tactic| refine hold ?_)
local macro_rules | `(tactic| walk_at "InvEndG") => `(tactic| refine hold ?_)
local macro_rules | `(tactic| walk_at "binaryOp Pow int int") => `(tactic| ((with_reducible show wpAny _ _ (binaryOp _ (Value.int 2 _) (Value.int _ _)) _ _ _); with_plain (refine' pow_to ?a ?b ?r ?_; (case a => omega); (case b => omega); (case r => assumption)); (try dsimp only)))
local macro_rules | `(tactic| walk_at "exec For Name Call cons nil") => `(tactic| (k_here; (rename Fr _ _ _ _ => lF'); (with_unfolding_all refine' For_turns lF' ?_; k_whole)))
local macro_rules | `(tactic| walk_at "exec For Name Tuple cons nil") => `(tactic| (k_here; (rename Fr _ _ _ _ => lF'); (with_unfolding_all refine' For_turns lF' ?_; k_whole)))
local macro_rules | `(tactic| walk_at "pyIter ref") => `(tactic| ((with_reducible show wpAny _ _ (pyIter (Value.ref _)) (fun it s₂ => TurnsAt _ _ _ _ _ _ _ _ _ it s₂) _ _); refine hold ?_))
local macro_rules | `(tactic| walk_at "call builtin:list.append") => `(tactic| refine hold ?_)
set_option maxRecDepth 100000 in
set_option maxHeartbeats 8000000 in
theorem PySem.Challenge.cw_dm0027_03_holds : PySem.Challenge.rw_dm0027_03.Holds := by
  refine Mine.hd ?_
  k_go0
  (all_goals try k_fold)
  k_steps
  refine ⟨?_⟩
  (with_reducible rename Fr _ _ _ _ => kF); (with_reducible rename News _ _ _ _ => kN)
  (with_reducible rename Below _ _ _ _ => kB); (with_reducible rename Frag.In _ _ => kX); (with_reducible rename Top _ _ _ _ _ _ => kT)
  rename IntsAre _ (List.drop 1 _) => kI
  (with_reducible rename List Int => ns)
  refine' triples_call kB kF kX kT rfl rfl (by decide) ⟨_, (kN _ (.head _)).1, rfl, 0, rfl⟩ kI ?hlen ?_
  case hlen => simp only [List.length_drop, List.length_take]; omega
  intro x h₂ tk kk refs led hkeep hx hxo hled hrows
  have F2 := kF.grownK hkeep
  have hdm := fmod_range ((List.take 63 ns ++ [0]).getD (Int.toNat 0) 0) (show (0:Int) < 1034 by decide)
  obtain ⟨depth, hdep⟩ : ∃ depth : Int, depth = 41 + ((List.take 63 ns ++ [0]).getD (Int.toNat 0) 0).fmod 1034 := ⟨_, rfl⟩
  rw [← hdep] at F2
  have hd1 : 41 ≤ depth := by omega
  have hd2 : depth ≤ 1074 := by omega
  clear hdep hdm
  refine led_two' kF (news_drop3 kN) hkeep hx hxo hled ?_
  intro a1 a2 e1 e2 N2 hne1 hne2
  clear hled kN kF hkeep hx hxo kI
  refine list_turns (fun i m nx => ∃ o1 v1 o2 v2, nx = (a1, o1) :: (a2, o2) :: (x, W.listOf refs.toArray kk) :: led ∧ o1.data = .cell v1 ∧ o2.data = .cell v2 ∧ ∃ t, m "depth" = some (.int depth t)) rfl (List.Mem.tail _ (List.Mem.tail _ (List.Mem.head _))) F2 N2 ⟨_, _, _, _, rfl, by assumption, by assumption, _, rfl⟩ ?turn ?done
  case done => (rintro m₁ news₁ h tk ⟨o1, v1, o2, v2, rfl, ho1, ho2, _, _⟩ F N; clear F2 N2 hrows; k_steps)
  case turn =>
    rintro i v m₁ news₁ h tk own hv hoff hmem ⟨o1, v1, o2, v2, rfl, ho1, ho2, td, hmd⟩ F N
    obtain ⟨y, a, b, c, t1, t2, t3, k3, rfl, hy, a0, a1', b0, b1, c0, c1⟩ := hrows v (List.mem_of_getElem? hv)
    obtain ⟨rest, hrest⟩ : ∃ rest, rest = (((x, W.listOf refs.toArray kk) :: led) ++ own) := ⟨_, rfl⟩
    have hre1 : ∀ p ∈ rest, p.1 ≠ a1 := fun p hp => by
      rw [hrest] at hp
      rcases List.mem_append.mp hp with hp | hp
      · exact hne1 p hp
      · exact hoff p hp a1 (.head _)
    have hre2 : ∀ p ∈ rest, p.1 ≠ a2 := fun p hp => by
      rw [hrest] at hp
      rcases List.mem_append.mp hp with hp | hp
      · exact hne2 p hp
      · exact hoff p hp a2 (.tail _ (.head _))
    have hya1 : @Ne Nat y a1 := hne1 _ (.tail _ hy)
    have hya2 : @Ne Nat y a2 := hne2 _ (.tail _ hy)
    have N3 : News _ _ h ((y, W.listOf #[.int a t1, .int b t2, .int c t3] k3) :: (a1, o1) :: (a2, o2) :: rest) := fun p hp => by
      rw [hrest] at hp
      rcases List.mem_cons.mp hp with rfl | hp
      · exact N _ (List.mem_append_left _ (.tail _ (.tail _ (.tail _ hy))))
      · exact N _ hp
    clear N N2 F2 hrows hv hmem
    (with_reducible rename Ground _ _ _ _ _ _ _ _ _ => z1); (with_reducible rename Tables _ _ _ _ => z2); (with_reducible rename TopE _ _ _ _ => z3); (with_reducible rename TopW _ _ _ => z4); (with_reducible rename BMod _ _ _ _ _ => z5)
    (with_reducible rename MathXP _ _ _ => z6); (with_reducible rename LooseAre _ _ _ => z7); (with_reducible rename Glob _ _ _ _ _ _ _ _ => z8)
    clear z1 z2 z3 z4 z5 z6 z7 z8
    subst e1 e2
    rw [keep_map hmd] at F
    obtain ⟨mx, hmx⟩ := exists_mx a b c
    obtain ⟨mn, hmn⟩ := exists_mn a b c
    obtain ⟨ax1, ax2, ax3, ax4⟩ := id hmx
    obtain ⟨an1, an2, an3, an4⟩ := id hmn
    obtain ⟨H, S, gD, gH, gS, gG, gC⟩ := math3 a0 a1' b0 b1 c0 c1 hmx hmn
    have hmn0 : 0 ≤ mn := by omega
    have hmx40 : mx ≤ 1099511627776 := by omega
    clear a0 a1' b0 b1 c0 c1
    with_plain (refine wpAny_assign_Name (storeX_C F N3 rfl (UpdF.tail hya1 (UpdF.head (List.forall_mem_cons.mpr ⟨(Nat.ne_of_gt (Nat.lt_succ_self _)), hre1⟩))) ho1 ?_))
    intro h4 o4 F4 N4 d4
    clear N3 F
    k_steps
    refine ⟨?_⟩
    (with_reducible rename Fr _ _ _ _ => kF); (with_reducible rename News _ _ _ _ => kN)
    refine name_head kN ?_
    intro tp htp
    subst htp
    refine name_two kN ?_
    intro T hT
    subst hT
    refine gen_tup kN ?_
    clear kN
    intro ta tc kN
    refine name_45 kN ?_
    intro a1 a2 e1 e2 N5
    have gT := (by assumption : _ ∧ _ ∧ _ ∧ AllLt T rest)
    have gP := (by assumption : _ ∧ _ ∧ _ ∧ _ ∧ AllLt tp rest)
    have y1 : @Ne Nat y a1 := e1 ▸ hya1
    have y2 : @Ne Nat y a2 := e2 ▸ hya2
    have n12 : @Ne Nat a1 a2 := by rw [e1, e2]; exact Nat.ne_of_lt (Nat.lt_succ_self _)
    have fix2 : ∀ p ∈ (tp, ({ cls := .type "tuple", data := .seq #[.int 41 ta, .int depth td, .int 1074 tc] } : Obj)) :: (y, W.listOf #[.int a t1, .int b t2, .int c t3] k3) :: (a1, o4) :: rest, p.1 ≠ a2 :=
      List.forall_mem_cons.mpr ⟨e2 ▸ Nat.ne_of_gt gP.2.2.2.1, List.forall_mem_cons.mpr ⟨y2, List.forall_mem_cons.mpr ⟨n12, e2 ▸ hre2⟩⟩⟩
    have fixT : ∀ p ∈ (tp, ({ cls := .type "tuple", data := .seq #[.int 41 ta, .int depth td, .int 1074 tc] } : Obj)) :: (y, W.listOf #[.int a t1, .int b t2, .int c t3] k3) :: (a1, o4) :: rest, p.1 ≠ T :=
      List.forall_mem_cons.mpr ⟨Nat.ne_of_gt gP.1, List.forall_mem_cons.mpr ⟨Nat.ne_of_lt gT.1, List.forall_mem_cons.mpr ⟨e1 ▸ Nat.ne_of_lt gT.2.1, fun p hp => Nat.ne_of_lt (allLt_mem gT.2.2.2 p hp)⟩⟩⟩
    have n2T : @Ne Nat a2 T := e2 ▸ Nat.ne_of_lt gT.2.2.1
    obtain ⟨fixed, hfixed⟩ : ∃ fixed, fixed = (tp, ({ cls := .type "tuple", data := .seq #[.int 41 ta, .int depth td, .int 1074 tc] } : Obj)) :: (y, W.listOf #[.int a t1, .int b t2, .int c t3] k3) :: (a1, o4) :: rest := ⟨_, rfl⟩
    rw [← hfixed] at N5 fix2 fixT
    clear kN
    refine tuple_turns (vs := [.int 41 ta, .int depth td, .int 1074 tc]) (fun i m nx => Inner a2 T H S fixed i nx ∧ m "told" = some (.ref T) ∧ (∃ t, m "n" = some (.int (mx - mn) t)) ∧ (∃ t, m "both" = some (.int (mx + mn) t)) ∧ (∃ t, m "depth" = some (.int depth t)))
      rfl (by rw [hfixed]; exact .tail _ (.tail _ (.head _))) kF N5 ⟨⟨o2, v2, #[], 0, [], rfl, ho2, rfl, fun _ hp => (nomatch hp), fun _ hp => (nomatch hp), fun h => absurd h (Nat.lt_irrefl _)⟩, rfl, ⟨_, rfl⟩, ⟨_, rfl⟩, ⟨_, rfl⟩⟩ ?turn2 ?done2
    case turn2 =>
      clear kF N5 ho2 ho1
      rintro i v m₂ nx h tk own' hv hoff' hmem ⟨⟨oE, vE, arr, nn, more, rfl, hoE, hsz, hmore2, hmoreT, hfirst⟩, q1, ⟨tn, q2⟩, ⟨tb, q3⟩, ⟨td', q4⟩⟩ F N
      rw [keep_four q1 q2 q3 q4] at F
      obtain ⟨ev, tv, rfl, he1, he2⟩ := three_ints hv (lo := 41) (hi := 1074) ⟨by decide, by decide⟩ ⟨hd1, hd2⟩ ⟨by decide, by decide⟩
      obtain ⟨R, hR⟩ : ∃ R, R = (more ++ fixed) ++ own' := ⟨_, rfl⟩
      have hR2 : ∀ p ∈ R, p.1 ≠ a2 := fun p hp => by
        rw [hR] at hp
        rcases List.mem_append.mp hp with hp | hp
        · rcases List.mem_append.mp hp with hp | hp
          · exact hmore2 p hp
          · exact fix2 p hp
        · exact hoff' p hp a2 (.head _)
      have hRT : ∀ p ∈ R, p.1 ≠ T := fun p hp => by
        rw [hR] at hp
        rcases List.mem_append.mp hp with hp | hp
        · rcases List.mem_append.mp hp with hp | hp
          · exact hmoreT p hp
          · exact fixT p hp
        · exact hoff' p hp T (.tail _ (.head _))
      have N6 : News _ _ h ((y, W.listOf #[.int a t1, .int b t2, .int c t3] k3) :: (a1, o4) :: (a2, oE) :: (T, W.listOf arr nn) :: R) := fun p hp => by
        rw [hR] at hp
        rcases List.mem_cons.mp hp with rfl | hp
        · exact N _ (List.mem_append_left _ (.tail _ (.tail _ (List.mem_append_right _ (by rw [hfixed]; exact .tail _ (.head _))))))
        rcases List.mem_cons.mp hp with rfl | hp
        · exact N _ (List.mem_append_left _ (.tail _ (.tail _ (List.mem_append_right _ (by rw [hfixed]; exact .tail _ (.tail _ (.head _)))))))
        · exact N _ hp
      clear N hmem
      have Dp := gD ev he1 he2
      obtain ⟨q, hq⟩ : ∃ q, (2 : Int) ^ ev.toNat = q := ⟨_, rfl⟩
      obtain ⟨q', hq'⟩ : ∃ q, (2 : Int) ^ (ev + 1).toNat = q := ⟨_, rfl⟩
      have hq0 : q ≠ 0 := hq ▸ pow2_ne _
      have hq0' : q' ≠ 0 := hq' ▸ pow2_ne _
      rw [hq, hq'] at Dp
      obtain ⟨hz, dH, dS, dL⟩ := Dp
      subst e1 e2
      with_plain (refine wpAny_assign_Name (storeX_C F N6 rfl (UpdF.tail y2 (UpdF.tail n12 (UpdF.head (List.forall_mem_cons.mpr ⟨Ne.symm n2T, hR2⟩)))) hoE ?_))
      intro h7 o7 F7 N7 d7
      clear N6 F
      k_steps
      refine ⟨?_⟩
      (with_reducible rename Fr _ _ _ _ => kF); (with_reducible rename News _ _ _ _ => kN)
      refine LCg.CompSrc.ledger (its := List.toArray [.int a t1, .int b t2, .int c t3]) rfl kF kN (by k_mem) (Nat.le_of_ble_eq_true rfl) ?_
      intro gg
      refine comp_map3 (fun k y => ∃ t, t ≠ 0 ∧ y = .float (fdivI k q) t) (Or.inr ⟨_, by k_mem, rfl, _, rfl⟩) ?_ ?_
      · clear kF kN
        intro k' t' I' oI' C9 oC9 D' m' ys' h' tk' E' hk' hC' hx' F' N'
        have hkb : 0 ≤ k' ∧ k' ≤ 1099511627776 := by rcases hk' with q | q | q <;> rw [q] <;> constructor <;> omega
        k_steps
        refine ⟨?_⟩
        (with_reducible rename Fr _ _ _ _ => kF); (with_reducible rename News _ _ _ _ => kN)
        exact ⟨_, _, rfl, kF, kN, _, Nat.succ_ne_zero _, rfl⟩
      · rintro y0 y1' y2' ⟨u0, n0, rfl⟩ ⟨u1, n1, rfl⟩ ⟨u2, n2, rfl⟩
        intro D5 h5 tk5 F5 N5 o5
        clear kF kN o5
        k_steps
        refine ⟨?_⟩
        (with_reducible rename Fr _ _ _ _ => kF); (with_reducible rename News _ _ _ _ => kN)
        refine name_head kN ?_
        intro zr hzr
        subst hzr
        have kO := (by assumption : ∀ p ∈ ((D5, LCg.lst [Value.float (fdivI a q) u0, Value.float (fdivI b q) u1, Value.float (fdivI c q) u2]) :: _ :: _ :: _ :: _ :: R), p.1 ≠ zr)
        rw [dH, dS] at kN
        have N8 := push_led kN
        have zT : @Ne Nat zr T := Ne.symm (kO _ (.tail _ (.tail _ (.tail _ (.tail _ (.head _))))))
        have kR : ∀ p ∈ R, p.1 ≠ zr := fun p hp => kO p (.tail _ (.tail _ (.tail _ (.tail _ (.tail _ hp)))))
        have k2' : @Ne Nat (_ + 1 + 1) zr := kO _ (.tail _ (.tail _ (.tail _ (.head _))))
        clear kN kO
        with_plain (refine append_K kF N8 (Upd.head (List.forall_mem_cons.mpr ⟨zT, List.forall_mem_cons.mpr ⟨Nat.ne_of_lt gT.1, List.forall_mem_cons.mpr ⟨Nat.ne_of_lt gT.2.1, List.forall_mem_cons.mpr ⟨n2T, hRT⟩⟩⟩⟩)) ?_ ?sz)
        case sz => rw [PySem.sizeLine_eq, hsz]; have := (List.getElem?_eq_some_iff.mp hv).1; simp only [List.length_cons, List.length_nil] at this; omega
        intro h8 F8 N9
        clear N8 kF
        refine told_pushed N9 (by assumption) (by assumption) (by assumption) hsz hfirst ?_
        intro ad had hfst
        obtain ⟨arr', harr'⟩ : ∃ arr', arr' = arr.push (.ref zr) := ⟨_, rfl⟩
        have hsz' : arr'.size = i + 1 := by rw [harr', Array.size_push, hsz]
        have hlast : arr'[i]? = some (.ref zr) := by rw [harr']; exact last_push hsz
        rw [← harr'] at N9 hfst
        clear harr'
        obtain ⟨z, Lz, w1, w2, w3, g1, g2, g3, g4, g5⟩ := id hfst
        have N10 := first_led N9 (fun p hp => by rw [hR]; exact List.mem_append_left _ (List.mem_append_left _ hp)) (had ▸ g5)
        clear N9 g5
        k_steps
        refine ⟨?_⟩
        (with_reducible rename Fr _ _ _ _ => kF9); (with_reducible rename News _ _ _ _ => kN9)
        refine InvEndG.intro (nx := (_, o7) :: (T, W.listOf arr' (nn + 1)) :: ((ad :: more) ++ fixed)) kF9 kN9 ⟨?_, ⟨o7, _, arr', nn + 1, ad :: more, rfl, d7, hsz', ?_, ?_, fun _ => hfst⟩, rfl, ⟨_, rfl⟩, ⟨_, rfl⟩, ⟨_, rfl⟩⟩ ?_ ?_ ?_
        · exact .tail _ (.tail _ (List.mem_append_right _ (by rw [hfixed]; exact .head _)))
        · exact List.forall_mem_cons.mpr ⟨by rw [had]; exact Ne.symm k2', hmore2⟩
        · exact List.forall_mem_cons.mpr ⟨by rw [had]; exact zT, hmoreT⟩
        · intro p hp b hb
          rcases List.mem_cons.mp hb with rfl | hb
          · exact hoff' p hp _ (.head _)
          rcases List.mem_cons.mp hb with rfl | hb
          · exact hoff' p hp _ (.tail _ (.head _))
          rcases List.mem_cons.mp hb with rfl | hb
          · rw [had]; exact kR p (by rw [hR]; exact List.mem_append_right _ hp)
          · exact hoff' p hp b (.tail _ (.tail _ hb))
        · intro p hp
          rcases List.mem_cons.mp hp with rfl | hp
          · k_mem
          rcases List.mem_cons.mp hp with rfl | hp
          · k_mem
          rcases List.mem_cons.mp hp with rfl | hp
          · rw [had]; k_mem
          have hq : p ∈ R := hR ▸ List.mem_append_left _ hp
          repeat (first | exact hq | apply List.Mem.tail)
        · intro p hp
          have hq : p ∈ R := hR ▸ List.mem_append_right _ hp
          repeat (first | exact hq | apply List.Mem.tail)
    case done2 =>
      clear kF N5 ho2 ho1
      rintro m₂ nx h tk ⟨⟨oE, vE, arr, nn, more, rfl, hoE, hsz, hmore2, hmoreT, hfirst⟩, q1, ⟨tn, q2⟩, ⟨tb, q3⟩, ⟨td', q4⟩⟩ F N
      rw [keep_four q1 q2 q3 q4] at F
      obtain ⟨z, Lz, w1, w2, w3, g1, g2, g3, g4, g5⟩ := hfirst (Nat.succ_pos _)
      clear hfirst
      obtain ⟨R, hR⟩ : ∃ R, R = more ++ fixed := ⟨_, rfl⟩
      have hfR : ∀ p ∈ rest, p ∈ R := fun p hp => by rw [hR, hfixed]; exact List.mem_append_right _ (.tail _ (.tail _ (.tail _ hp)))
      have N6 : News _ _ h ((z, tup3 H Lz S w1 w2 w3) :: (y, W.listOf #[.int a t1, .int b t2, .int c t3] k3) :: (a1, o4) :: (a2, oE) :: (T, W.listOf arr nn) :: R) := fun p hp => by
        rcases List.mem_cons.mp hp with rfl | hp
        · exact N _ (.tail _ (.tail _ (List.mem_append_left _ g5)))
        rcases List.mem_cons.mp hp with rfl | hp
        · exact N _ (.tail _ (.tail _ (List.mem_append_right _ (by rw [hfixed]; exact .tail _ (.head _)))))
        rcases List.mem_cons.mp hp with rfl | hp
        · exact N _ (.tail _ (.tail _ (List.mem_append_right _ (by rw [hfixed]; exact .tail _ (.tail _ (.head _))))))
        · rw [hR] at hp; exact N _ hp
      clear N g5
      subst e1 e2
      by_cases hn : mx - mn = 0
      · obtain ⟨gH0, gS0⟩ := gG hn
        clear gG gC gD
        k_steps
        refine ⟨?_⟩
        (with_reducible rename Fr _ _ _ _ => kF9); (with_reducible rename News _ _ _ _ => kN9)
        refine InvEndG.intro (nx := (_, o4) :: (_, oE) :: (x, W.listOf refs.toArray kk) :: led) kF9 kN9 ⟨.tail _ (.tail _ (.head _)), o4, _, oE, _, rfl, d4, hoE, _, rfl⟩ hoff (fun p hp => ?_) (fun p hp => ?_)
        · rcases List.mem_cons.mp hp with rfl | hp
          · k_mem
          rcases List.mem_cons.mp hp with rfl | hp
          · k_mem
          have hq : p ∈ R := hfR p (hrest ▸ List.mem_append_left _ hp)
          repeat (first | exact hq | apply List.Mem.tail)
        · have hq : p ∈ R := hfR p (hrest ▸ List.mem_append_right _ hp)
          repeat (first | exact hq | apply List.Mem.tail)
      · obtain ⟨gSn, fine, spot, P, r40, hH⟩ := gC hn
        clear gG gC gD
        obtain ⟨j1, j2, j3, j4, j5, j6, j7, j8, j9, j10, j11, j12, j13, j14, j15, j16⟩ := id hH
        clear j16
        have f0' : fine ≠ 0 := by omega
        have p40 : (2 : Int) ^ Int.toNat 40 = 2 ^ Int.toNat 40 := rfl
        k_steps
        refine ⟨?_⟩
        (with_reducible rename Fr _ _ _ _ => kF); (with_reducible rename News _ _ _ _ => kN)
        refine LCg.CompSrc.ledger (its := List.toArray [.int a t1, .int b t2, .int c t3]) rfl kF kN (by k_mem) (Nat.le_of_ble_eq_true rfl) ?_
        intro gg
        refine comp_map3 (fun k y => ∃ t, y = .int (k - mn) t) (Or.inr ⟨_, by k_mem, rfl, _, rfl⟩) ?_ ?_
        · clear kF kN
          intro k' t' I' oI' C9 oC9 D' m' ys' h' tk' E' _ hC' hx' F' N'
          k_steps
          refine ⟨?_⟩
          (with_reducible rename Fr _ _ _ _ => kF); (with_reducible rename News _ _ _ _ => kN)
          exact ⟨_, _, rfl, kF, kN, _, rfl⟩
        · rintro y0 y1' y2' ⟨v0, rfl⟩ ⟨v1', rfl⟩ ⟨v2', rfl⟩
          intro D7 h7 tk7 F7 N7 o7
          clear kF kN o7
          have F8 := F7
          have N8 : News _ _ _ ((D7, W.listOf #[.int (a - mn) v0, .int (b - mn) v1', .int (c - mn) v2'] 3) :: _) := N7
          clear F7 N7
          k_steps
          refine ⟨?_⟩
          (with_reducible rename Fr _ _ _ _ => kF9); (with_reducible rename News _ _ _ _ => kN9)
          refine InvEndG.intro (nx := (_, o4) :: (_, oE) :: (x, W.listOf refs.toArray kk) :: led) kF9 kN9 ⟨.tail _ (.tail _ (.head _)), o4, _, oE, _, rfl, d4, hoE, _, rfl⟩ hoff (fun p hp => ?_) (fun p hp => ?_)
          · rcases List.mem_cons.mp hp with rfl | hp
            · k_mem
            rcases List.mem_cons.mp hp with rfl | hp
            · k_mem
            have hq : p ∈ R := hfR p (hrest ▸ List.mem_append_left _ hp)
            repeat (first | exact hq | apply List.Mem.tail)
          · have hq : p ∈ R := hfR p (hrest ▸ List.mem_append_right _ hp)
            repeat (first | exact hq | apply List.Mem.tail)
