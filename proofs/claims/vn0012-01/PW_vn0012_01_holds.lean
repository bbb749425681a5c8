import PyProof.Rows.All
import Wide.All
import OpenK.AllK
import Wide.FinOn
import PySem.Challenge.RW_vn0012_01
open PySem PySem.W PyProof.Rows PySem.Calls
set_option Elab.async false
set_option linter.unusedVariables false
set_option linter.unusedSimpArgs false
set_option maxRecDepth 100000 in
set_option maxHeartbeats 8000000 in
open_top Mine.hd for PySem.Challenge.rw_vn0012_01
namespace Mine

abbrev prog : Program := PySem.Challenge.pw_vn0012_01
/-- what a callee knows of the frames around it: no more than a bound -/
abbrev lvl (d u : Nat) : Around := { handled := none, depth := d, frames := none, guards := none, units := u }

theorem weaken {α : Type} {M : Model} {A A' : Around} {t : Sem α} {Q : α → Shared → Prop} {E : Value → Shared → Prop} {s : Shared} (h : wpAny M A t Q E s)
    (h1 : A'.handled = A.handled) (h2 : A'.depth ≤ A.depth) (h3 : A.frames = none) (h4 : A.guards = none) (h5 : A'.units ≤ A.units) : wpAny M A' t Q E s := by
  intro Γ p hΓ
  refine h Γ p ⟨hΓ.1.trans h1, Nat.le_trans hΓ.2.1 h2, ?_, ?_, Nat.le_trans hΓ.2.2.2.2 h5⟩
  · intro l hl; rw [h3] at hl; cases hl
  · intro l hl; rw [h4] at hl; cases hl

/-- a def's first names, written as the walk writes names -/
def bmap : List (Str × Value) → Str → Option Value
  | [], _ => none
  | (a, v) :: r, y => if y = a then some v else bmap r y
theorem bmap_lookup : ∀ (l : List (Str × Value)), (fun y => l.lookup y) = bmap l := by
  intro l
  funext y
  induction l with
  | nil => rfl
  | cons p r ih =>
    obtain ⟨a, v⟩ := p
    rw [List.lookup_cons]
    by_cases h : y = a
    · subst h; simp [bmap]
    · have hb : (y == a) = false := by simpa using h
      rw [hb]
      simp only [bmap, if_neg h]
      exact ih
abbrev lowQ (Q : Value → Shared → Prop) (E : Value → Shared → Prop) : Result → Shared → Prop := fun r s' => match r with | .ok (.ret v) => Q v s' | .ok _ => False | .error e => E e s'

section
variable {w : World} {K : Frag} {s : Shared} {A : Around} {Q : Value → Shared → Prop} {E : Value → Shared → Prop} {name qual : Str} {params : Arguments} {body : List Stmt} {scope : Scope} {dV kV doc pm cdv ct oc : Value} {an od : Option Addr} {osl : Array (Option Value)} {f : Addr} {args : List Value} {binds : List (Str × Value)}

theorem enter (X : K.In s.heap) (hlim : s.heap.NoLimit) (ho : K.lookup f = some ⟨oc, od, .func (fnOf name qual params body scope dV kV doc pm an cdv ct), osl⟩) (hcd : codeIn K cdv qual = true) (hroom : A.depth < recursionLimit)
    (hbind : BindsTo s (fnOf name qual params body scope dV kV doc pm an cdv ct) ⟨args, []⟩ binds) (hloc : ∀ y ∈ binds, scope.names.lookup y.1 = some .local)
    (h : ∀ h₁ L tk, Fr s.heap L h₁ (fun y => bmap binds.reverse y) → News s.heap L h₁ [] →
      wpAny (model prog w) (A.deeper (envOf qual scope L f cdv)) (execs body (envOf qual scope L f cdv))
        (fun fl s' => Q (match fl with | .ret v => v | _ => .none) s') (fun _ _ => False) { s with heap := h₁, toks := tk })
    (hco : scope.isCoroutine = false) (hgen : scope.isGenerator = false) (hk : scope.kind = .function) (hcell : ∀ x ∈ scope.names, x.2 ≠ .cell) :
    wpAny (model prog w) A (call (.ref f) args) Q E s := by
  refine wpAny_call ?_
  refine codeAny_call_def (fd := fnOf name qual params body scope dV kV doc pm an cdv ct) (body := body) (binds := binds) hroom (X _ _ ho) rfl hlim (codeRec_of X hcd) rfl hbind hcell hloc (fun h₁ hns hk₁ => ?_) hco hgen hk
  exact wpAny_mono (h h₁ s.heap.objs.size _ ⟨bmap_lookup binds.reverse ▸ hns, hk₁, Nat.le_refl _⟩ News.nil) (fun _ _ y => y) fun _ _ y => y.elim

theorem enterC (X : K.In s.heap) (hlim : s.heap.NoLimit) (ho : K.lookup f = some ⟨oc, od, .func (fnOf name qual params body scope dV kV doc pm an cdv ct), osl⟩) (hcd : codeIn K cdv qual = true) (hroom : A.depth < recursionLimit)
    (hbind : BindsTo s (fnOf name qual params body scope dV kV doc pm an cdv ct) ⟨args, []⟩ binds) (hkind : (binds.all fun y => scope.names.lookup y.1 == some .local || scope.names.lookup y.1 == some .cell) = true)
    (hnd : ((cellsFrom 0 scope.names []).map (·.1)).Nodup)
    (h : ∀ h₁ L tk cells, Fr s.heap L h₁ (bindL (envOfC qual scope L f cdv).kindOf binds fun _ => none) → News s.heap L h₁ cells →
      CellsAre (bindC (envOfC qual scope L f cdv).kindOf binds fun _ => none) (cellsFrom (L + 1) scope.names []) cells →
      wpAny (model prog w) (A.deeper (envOfC qual scope L f cdv)) (execs body (envOfC qual scope L f cdv))
        (fun fl s' => Q (match fl with | .ret v => v | _ => .none) s') (fun _ _ => False) { s with heap := h₁, toks := tk })
    (hco : scope.isCoroutine = false) (hgen : scope.isGenerator = false) (hk : scope.kind = .function) :
    wpAny (model prog w) A (call (.ref f) args) Q E s := by
  refine wpAny_call ?_
  refine codeAny_call_function hroom (X _ _ ho) rfl hco hgen rfl (codeRec_of X hcd) (hbind _ _ _ _ ?_)
  refine wpAny_newFunctionEnv_cells hk (kindsX hkind _) fun env' he s' x => ?_
  subst he
  refine ⟨hlim.keeps x.toInCall.keep, codeAny_func ?_⟩
  obtain ⟨h₁, tk, rfl, _⟩ := x.done
  have hk₁ := x.toInCall.keep
  obtain ⟨cells, NC, Y⟩ := Cl.news (h₀ := s.heap) (Nat.le_refl _) fun n c hm => ⟨x.cell n c (lookup_of_mem_nodup (cellsFrom_names scope.names 0 (s.heap.objs.size + 1) [] [] rfl ▸ hnd) hm), x.above n c hm⟩
  exact wpAny_mono (h h₁ s.heap.objs.size tk cells ⟨x.toInCall.ns, hk₁, Nat.le_refl _⟩ NC Y) (fun _ _ y => y) fun _ _ y => y.elim
end

/-- the caller's facts behind a call that only adds -/
theorem fr_on {h₀ h h' : Heap} {L : Addr} {m : Str → Option Value} (F : Fr h₀ L h m) (st : h.StaysIn h') : Fr h₀ L h' m :=
  ⟨F.ns.keeps st, fun b o e => st b o (F.keep b o e), F.above⟩
theorem news_on {h₀ h h' : Heap} {L : Addr} {news : List (Addr × Obj)} (N : News h₀ L h news) (st : h.StaysIn h') : News h₀ L h' news :=
  fun p hp => ⟨st _ _ (N p hp).1, (N p hp).2⟩
theorem news_add {h₀ h h' : Heap} {L l : Addr} {o : Obj} {m : Str → Option Value} {news : List (Addr × Obj)} (F : Fr h₀ L h m) (N : News h₀ L h news) (st : h.StaysIn h') (hn : h.get? l = none) (hl : h'.get? l = some o) : News h₀ L h' ((l, o) :: news) := by
  intro p hp
  rcases List.mem_cons.mp hp with rfl | hp
  · refine ⟨hl, ?_, ?_⟩
    · rintro rfl
      obtain ⟨oL, _, _, hL, _⟩ := F.ns
      rw [hL] at hn; cases hn
    · cases q : h₀.get? l with
      | none => rfl
      | some o' => rw [F.keep _ _ q] at hn; cases hn
  · exact news_on N st p hp

theorem nat_add_xor (a b : Nat) : a + b = (a ^^^ b) + 2 * (a &&& b) := by
  induction a using Nat.strongRecOn generalizing b with
  | ind a ih =>
    by_cases ha : a = 0
    · subst ha; simp
    · have h := ih (a / 2) (by omega) (b / 2)
      have e1 : (a ^^^ b) / 2 = (a / 2) ^^^ (b / 2) := Nat.xor_div_two
      have e2 : (a &&& b) / 2 = (a / 2) &&& (b / 2) := Nat.and_div_two
      have e3 : (a ^^^ b) % 2 = (a % 2) ^^^ (b % 2) := Nat.xor_mod_two_pow (n := 1)
      have e4 : (a &&& b) % 2 = (a % 2) &&& (b % 2) := Nat.and_mod_two_pow (n := 1)
      have ha2 : a % 2 = 0 ∨ a % 2 = 1 := by omega
      have hb2 : b % 2 = 0 ∨ b % 2 = 1 := by omega
      rcases ha2 with x | x <;> rcases hb2 with y | y <;> rw [x, y] at e3 e4 <;> simp only [show (1 : Nat) ^^^ 1 = 0 from rfl, show (1 : Nat) ^^^ 0 = 1 from rfl, show (0 : Nat) ^^^ 1 = 1 from rfl, show (0 : Nat) ^^^ 0 = 0 from rfl, show (1 : Nat) &&& 1 = 1 from rfl, show (1 : Nat) &&& 0 = 0 from rfl, show (0 : Nat) &&& 1 = 0 from rfl, show (0 : Nat) &&& 0 = 0 from rfl] at e3 e4 <;> omega

theorem bitAnd_N (a b : Nat) : Builtin.bitAnd (a : Int) (b : Int) = ((a &&& b : Nat) : Int) := by
  unfold Builtin.bitAnd
  simp
theorem bitXor_N (a b : Nat) : Builtin.bitXor (a : Int) (b : Int) = ((a ^^^ b : Nat) : Int) := by
  rw [bitXor_and, bitAnd_N]
  have := nat_add_xor a b
  omega
theorem bitOr_N (a b : Nat) : Builtin.bitOr (a : Int) (b : Int) = ((a ||| b : Nat) : Int) := by
  unfold Builtin.bitOr Builtin.bitAnd Builtin.bitNot
  have h1 : ¬ (0 ≤ -((a : Int)) - 1) := by omega
  have h2 : ¬ (0 ≤ -((b : Int)) - 1) := by omega
  simp only [h1, h2, decide_false]
  have h3 : (-(-(a : Int) - 1) - 1).toNat = a := by omega
  have h4 : (-(-(b : Int) - 1) - 1).toNat = b := by omega
  rw [h3, h4]
  omega
theorem shiftR_N (a b : Nat) : (a : Int).fdiv (2 ^ ((b : Int)).toNat) = ((a >>> b : Nat) : Int) := by
  rw [Int.toNat_natCast, Nat.shiftRight_eq_div_pow, show ((2 : Int) ^ b) = ((2 ^ b : Nat) : Int) by simp, Int.fdiv_eq_ediv_of_nonneg _ (Int.natCast_nonneg _)]
  simp
theorem shiftL_N (a b : Nat) : (a : Int) * (2 ^ ((b : Int)).toNat) = ((a <<< b : Nat) : Int) := by
  rw [Int.toNat_natCast, Nat.shiftLeft_eq]
  simp

theorem num_N (n : Nat) : (@OfNat.ofNat Int n _) = ((@OfNat.ofNat Nat n _ : Nat) : Int) := rfl
section
variable {prog : Program} {w : World} {A : Around} {E : Value → Shared → Prop} {s : Shared} {Q : Value → Shared → Prop} {x y : Int} {a b : Nat} {t u : Tok}
theorem and_N (hx : x = (a : Int)) (hy : y = (b : Int)) (h : Q (.int ((a &&& b : Nat) : Int) s.toks) { s with toks := s.toks + 1 }) : wpAny (model prog w) A (binaryOp .BitAnd (.int x t) (.int y u)) Q E s := by
  subst hx hy; exact and_int (by rw [bitAnd_N]; exact h)
theorem or_N (hx : x = (a : Int)) (hy : y = (b : Int)) (h : Q (.int ((a ||| b : Nat) : Int) s.toks) { s with toks := s.toks + 1 }) : wpAny (model prog w) A (binaryOp .BitOr (.int x t) (.int y u)) Q E s := by
  subst hx hy; exact or_int (by rw [bitOr_N]; exact h)
theorem xor_N (hx : x = (a : Int)) (hy : y = (b : Int)) (h : Q (.int ((a ^^^ b : Nat) : Int) s.toks) { s with toks := s.toks + 1 }) : wpAny (model prog w) A (binaryOp .BitXor (.int x t) (.int y u)) Q E s := by
  subst hx hy; exact xor_int (by rw [bitXor_N]; exact h)
theorem ixor_N (hx : x = (a : Int)) (hy : y = (b : Int)) (h : Q (.int ((a ^^^ b : Nat) : Int) s.toks) { s with toks := s.toks + 1 }) : wpAny (model prog w) A (inplaceOp .BitXor (.int x t) (.int y u)) Q E s := by
  subst hx hy; exact ixor_int (by rw [bitXor_N]; exact h)
theorem shr_N (hx : x = (a : Int)) (hy : y = (b : Int)) (h : Q (.int ((a >>> b : Nat) : Int) s.toks) { s with toks := s.toks + 1 }) : wpAny (model prog w) A (binaryOp .RShift (.int x t) (.int y u)) Q E s := by
  subst hx hy; exact rshift_int (Int.natCast_nonneg _) (by rw [shiftR_N]; exact h)
theorem shl_N (hx : x = (a : Int)) (hy : y = (b : Int)) (ha : a < 2 ^ 64) (hb : b ≤ 1000000) (h : Q (.int ((a <<< b : Nat) : Int) s.toks) { s with toks := s.toks + 1 }) : wpAny (model prog w) A (binaryOp .LShift (.int x t) (.int y u)) Q E s := by
  subst hx hy; exact lshift_int_small (Int.natCast_nonneg _) (by omega) (by simpa using ha) (by rw [shiftL_N]; exact h)
end

theorem item_at {prog : Program} {w : World} {A : Around} {E : Value → Shared → Prop} {s : Shared} {value slice : PySem.Expr} {l : Addr} {vs : List Value} {k : Int} {u : Tok} {v : Value} {Q : Value → Shared → Prop}
    (hl : s.heap.IsList l vs.toArray) (h0 : 0 ≤ k) (hhi : k < 2 ^ 63) (hx : vs[k.toNat]? = some v) (h : Q v s)
    (hs : subscripted slice false (.ref l) (.int k u) = operate [.ref l, .int k u] (getItem (.ref l) (.int k u)) := by with_unfolding_all rfl) :
    wpAny (model prog w) A (subscriptTail value slice (.ref l) (.int k u)) Q E s :=
  tail_any hl.typeIs slot_list_getitem.lookup (wpAny_getItem_list hl h0 hhi (by simpa using hx) h) hs
section
variable {M : Model} {A : Around} {E : Value → Shared → Prop} {s : Shared} {K : Frag} {g : Heap} {mg mb : Str → Option Value} {p : Program} {loose : List Str} {env : Env} {x : Str} {pos : Pos} {v : Value} {Q : Value → Shared → Prop}
theorem name_KG (X : K.In g) (T : TopRead p loose mg mb g) (k : ∀ b o, g.get? b = some o → s.heap.get? b = some o) (e : nsIn K mainGlobals x = some (some v)) (h : Q v s) (hgl : env.globals = mainGlobals)
    (hk : env.scope.kind = .function) (hx : env.kindOf x = some .globalImplicit) (hd : (x == ("__debug__" : Str)) = false) : wpAny M A (eval (.Name x pos) env) Q E s :=
  Name_function_global hk hx (loadGlobal_global (env := env) (by rw [hgl]; exact T.g.keeps k) (mg_of X T.g e) h) hd
theorem name_BG (X : K.In g) (T : TopRead p loose mg mb g) (k : ∀ b o, g.get? b = some o → s.heap.get? b = some o) (e : nsIn K mainGlobals x = some none) (hv : bootBuiltins x = some v) (hn : x ≠ "__name__") (h : Q v s) (hgl : env.globals = mainGlobals) (hbl : env.builtins = builtinsNs)
    (hk : env.scope.kind = .function) (hx : env.kindOf x = some .globalImplicit) (hd : (x == ("__debug__" : Str)) = false) : wpAny M A (eval (.Name x pos) env) Q E s :=
  Name_function_global hk hx (loadGlobal_builtin (env := env) (by rw [hgl]; exact T.g.keeps k) (mg_none_of X T.g e) (by rw [hbl]; exact T.b.keeps k) ((T.builtins x hn).trans hv) h) hd
end
theorem name_LG {M : Model} {A : Around} {E : Value → Shared → Prop} {s : Shared} {g : Heap} {env : Env} {x : Str} {pos : Pos} {v : Value} {m : Str → Option Value} {Q : Value → Shared → Prop} (F : Fr g env.locals s.heap m) (hm : m x = some v) (h : Q v s)
    (hk : env.scope.kind = .function) (hx : env.kindOf x = some .local) (hd : (x == ("__debug__" : Str)) = false) : wpAny M A (eval (.Name x pos) env) Q E s :=
  wpAny_Name (wpAny_loadName_local hk hx F.ns hm h) hd
theorem fill_all : PySem.Challenge.rw_vn0012_01.prog = PySem.Challenge.rw_vn0012_01.prog ∧ Mine.hd.heap_39 = Mine.hd.heap_39 := by
  k_fill
  exact ⟨rfl, rfl⟩
local macro_rules | `(tactic| walk_at "binaryOp BitAnd int int") => `(tactic| (k_here; (refine' and_N ?hx ?hy ?_; (case hx => first | exact rfl | exact num_N _); (case hy => first | exact rfl | exact num_N _)); (try dsimp only)))
local macro_rules | `(tactic| walk_at "binaryOp BitOr int int") => `(tactic| (k_here; (refine' or_N ?hx ?hy ?_; (case hx => first | exact rfl | exact num_N _); (case hy => first | exact rfl | exact num_N _)); (try dsimp only)))
local macro_rules | `(tactic| walk_at "binaryOp BitXor int int") => `(tactic| (k_here; (refine' xor_N ?hx ?hy ?_; (case hx => first | exact rfl | exact num_N _); (case hy => first | exact rfl | exact num_N _)); (try dsimp only)))
local macro_rules | `(tactic| walk_at "inplaceOp BitXor int int") => `(tactic| (k_here; (refine' ixor_N ?hx ?hy ?_; (case hx => first | exact rfl | exact num_N _); (case hy => first | exact rfl | exact num_N _)); (try dsimp only)))
local macro_rules | `(tactic| walk_at "binaryOp RShift int int") => `(tactic| (k_here; (refine' shr_N ?hx ?hy ?_; (case hx => first | exact rfl | exact num_N _); (case hy => first | exact rfl | exact num_N _ | assumption)); (try dsimp only)))
local macro_rules | `(tactic| walk_at "binaryOp LShift int int") => `(tactic| (k_here; (refine' shl_N ?hx ?hy ?ha ?hb ?_; (case hx => first | exact rfl | exact num_N _); (case hy => first | exact rfl | exact num_N _ | assumption); (case ha => first | decide | exact Nat.lt_of_le_of_lt Nat.and_le_right (by decide) | omega | assumption | k_extra "shl"); (case hb => first | decide | omega)); (try dsimp only)))
local macro_rules | `(tactic| walk_at "mine") => `(tactic| repeat' ((fail_if_success (with_reducible (show InvEndN _ _ _ _ _ _ _))); (fail_if_success (with_reducible (show wpAny _ _ (exec (Stmt.For _ _ _ _ _) _) _ _ _))); (fail_if_success (with_reducible (show wpAny _ _ (pyIter _) _ _ _))); (fail_if_success (with_reducible (show wpAny _ _ (eval (Expr.GeneratorExp _ _ _ _) _) _ _ _))); (fail_if_success (with_reducible (show wpAny _ _ (call (Value.builtin "any") _ _) _ _ _))); (fail_if_success (with_reducible (show wpAny _ _ (call (Value.builtin "str.lower") _ _) _ _ _))); (fail_if_success (with_reducible (show wpAny _ _ (call (Value.builtin "str.upper") _ _) _ _ _))); (fail_if_success (with_reducible (show wpAny _ _ (call (Value.builtin "str.rfind") _ _) _ _ _))); (fail_if_success (with_reducible (show wpAny _ _ (call (Value.builtin "str.find") _ _) _ _ _))); (fail_if_success (with_reducible (show wpAny _ _ (call (Value.builtin "all") _ _) _ _ _))); (fail_if_success (with_reducible (show wpAny _ _ (exec (Stmt.While _ _ _ _) _) _ _ _))); (fail_if_success (with_reducible (show PySem.W.KswEnd _ _ _ _ _ _ _ _ _ _ _ _))); (fail_if_success (with_reducible (show wpAny _ _ (binaryOp _ (Value.str _ _) (Value.str _ _)) _ _ _))); (fail_if_success (with_reducible (show wpAny _ _ (call (Value.builtin "str.join") _ _) _ _ _))); (fail_if_success (with_reducible (show wpAny _ _ (subscriptTail _ _ (Value.str _ _) _) _ _ _))); (fail_if_success (with_reducible (show PyProof.Rows.LCg.CompSrc _ _ _ _ _ _ _ _ _ _ _ _ _ _))); (fail_if_success (with_reducible (show wpAny _ _ (call (Value.ref _) _ _) _ _ _))); (fail_if_success (with_reducible (show wpAny _ _ (binaryOp _ (Value.ref _) (Value.ref _)) _ _ _))); (fail_if_success (with_reducible (show wpAny _ _ (eval (Expr.ListComp _ _ _ _) _) _ _ _))); (fail_if_success (with_reducible (show wpAny _ _ (exec (Stmt.Assign _ (Expr.ListComp _ _ _ _) _) _) _ _ _))); first | (k_unfold; (try dsimp only)) | walk1 | (dsimp only; walk1)))
local macro_rules | `(tactic| walk_at "mine.name") => `(tactic| ((rename Fr _ _ _ _ => kF); k_dflt (first
  | (refine' name_LG kF ?m ?_ ?k ?x ?d; (case m => assumption); (case k => rfl); (case x => with_unfolding_all rfl); (case d => decide); k_whole)
  | (refine' name_KG ?X ?T (Fr.keep kF) ?e ?_ ?g ?k ?x ?d; (case X => k_asm); (case T => k_asm); (case g => rfl); (case k => rfl); (case x => with_unfolding_all rfl); (case d => decide); (case e => k_is); k_whole)
  | (refine' name_BG ?X ?T (Fr.keep kF) ?e ?v ?n ?_ ?g ?b ?k ?x ?d; (case X => k_asm); (case T => k_asm); (case g => rfl); (case b => rfl); (case k => rfl); (case x => with_unfolding_all rfl); (case d => decide); (case e => k_is); (case v => boot_fast); (case n => decide); k_whole))))
local macro_rules | `(tactic| walk_at "eval Name") => `(tactic| (k_here; (with_reducible show wpAny _ _ (eval (Expr.Name _ _) (compEnvC _ _ _ _)) _ _ _); walk_at "mine.name"))
local macro_rules | `(tactic| walk_at "eval Name") => `(tactic| (k_here; (with_reducible show wpAny _ _ (eval (Expr.Name _ _) (genEnv _ _ _ _ _ _)) _ _ _); walk_at "mine.name"))
local macro_rules | `(tactic| walk_at "mine2") => `(tactic| repeat' ((fail_if_success (with_reducible (show wpAny _ _ (exec (Stmt.Assign _ (Expr.IfExp _ _ _ _) _) _) _ _ _))); (fail_if_success (with_reducible (show wpAny _ _ (exec (Stmt.Assign _ (Expr.BoolOp _ _ _) _) _) _ _ _))); (fail_if_success (with_reducible (show wpAny _ _ (exec (Stmt.Assign _ (Expr.Subscript (Expr.List _ _) _ _) _) _) _ _ _))); (fail_if_success (with_reducible (show wpAny _ _ (eval (Expr.IfExp _ _ _ _) _) _ _ _))); (fail_if_success (with_reducible (show wpAny _ _ (eval (Expr.BoolOp _ _ _) _) _ _ _))); (fail_if_success (with_reducible (show wpAny _ _ (compareOp _ (Value.ref _) (Value.ref _)) _ _ _))); (fail_if_success (with_reducible (show wpAny _ _ (binaryOp Operator.Pow _ _) _ _ _))); (fail_if_success (with_reducible (show InvEndN _ _ _ _ _ _ _))); (fail_if_success (with_reducible (show wpAny _ _ (exec (Stmt.For _ _ _ _ _) _) _ _ _))); (fail_if_success (with_reducible (show wpAny _ _ (pyIter _) _ _ _))); (fail_if_success (with_reducible (show wpAny _ _ (eval (Expr.GeneratorExp _ _ _ _) _) _ _ _))); (fail_if_success (with_reducible (show wpAny _ _ (call (Value.builtin "any") _ _) _ _ _))); (fail_if_success (with_reducible (show wpAny _ _ (call (Value.builtin "str.lower") _ _) _ _ _))); (fail_if_success (with_reducible (show wpAny _ _ (call (Value.builtin "str.upper") _ _) _ _ _))); (fail_if_success (with_reducible (show wpAny _ _ (call (Value.builtin "str.rfind") _ _) _ _ _))); (fail_if_success (with_reducible (show wpAny _ _ (call (Value.builtin "str.find") _ _) _ _ _))); (fail_if_success (with_reducible (show wpAny _ _ (call (Value.builtin "all") _ _) _ _ _))); (fail_if_success (with_reducible (show wpAny _ _ (exec (Stmt.While _ _ _ _) _) _ _ _))); (fail_if_success (with_reducible (show PySem.W.KswEnd _ _ _ _ _ _ _ _ _ _ _ _))); (fail_if_success (with_reducible (show wpAny _ _ (binaryOp _ (Value.str _ _) (Value.str _ _)) _ _ _))); (fail_if_success (with_reducible (show wpAny _ _ (call (Value.builtin "str.join") _ _) _ _ _))); (fail_if_success (with_reducible (show wpAny _ _ (subscriptTail _ _ (Value.str _ _) _) _ _ _))); (fail_if_success (with_reducible (show PyProof.Rows.LCg.CompSrc _ _ _ _ _ _ _ _ _ _ _ _ _ _))); (fail_if_success (with_reducible (show wpAny _ _ (call (Value.ref _) _ _) _ _ _))); (fail_if_success (with_reducible (show wpAny _ _ (binaryOp _ (Value.ref _) (Value.ref _)) _ _ _))); (fail_if_success (with_reducible (show wpAny _ _ (eval (Expr.ListComp _ _ _ _) _) _ _ _))); (fail_if_success (with_reducible (show wpAny _ _ (exec (Stmt.Assign _ (Expr.ListComp _ _ _ _) _) _) _ _ _))); first | (k_unfold; (try dsimp only)) | walk1 | (dsimp only; walk1)))
local macro_rules | `(tactic| walk_at "mine3") => `(tactic| repeat' ((fail_if_success (with_reducible (show wpAny _ _ (compareOp _ (Value.ref _) (Value.ref _)) _ _ _))); (fail_if_success (with_reducible (show InvEndN _ _ _ _ _ _ _))); (fail_if_success (with_reducible (show wpAny _ _ (exec (Stmt.For _ _ _ _ _) _) _ _ _))); (fail_if_success (with_reducible (show wpAny _ _ (pyIter _) _ _ _))); (fail_if_success (with_reducible (show wpAny _ _ (eval (Expr.GeneratorExp _ _ _ _) _) _ _ _))); (fail_if_success (with_reducible (show wpAny _ _ (call (Value.builtin "any") _ _) _ _ _))); (fail_if_success (with_reducible (show wpAny _ _ (call (Value.builtin "str.lower") _ _) _ _ _))); (fail_if_success (with_reducible (show wpAny _ _ (call (Value.builtin "str.upper") _ _) _ _ _))); (fail_if_success (with_reducible (show wpAny _ _ (call (Value.builtin "str.rfind") _ _) _ _ _))); (fail_if_success (with_reducible (show wpAny _ _ (call (Value.builtin "str.find") _ _) _ _ _))); (fail_if_success (with_reducible (show wpAny _ _ (call (Value.builtin "all") _ _) _ _ _))); (fail_if_success (with_reducible (show wpAny _ _ (exec (Stmt.While _ _ _ _) _) _ _ _))); (fail_if_success (with_reducible (show PySem.W.KswEnd _ _ _ _ _ _ _ _ _ _ _ _))); (fail_if_success (with_reducible (show wpAny _ _ (binaryOp _ (Value.str _ _) (Value.str _ _)) _ _ _))); (fail_if_success (with_reducible (show wpAny _ _ (call (Value.builtin "str.join") _ _) _ _ _))); (fail_if_success (with_reducible (show wpAny _ _ (subscriptTail _ _ (Value.str _ _) _) _ _ _))); (fail_if_success (with_reducible (show PyProof.Rows.LCg.CompSrc _ _ _ _ _ _ _ _ _ _ _ _ _ _))); (fail_if_success (with_reducible (show wpAny _ _ (call (Value.ref _) _ _) _ _ _))); (fail_if_success (with_reducible (show wpAny _ _ (binaryOp _ (Value.ref _) (Value.ref _)) _ _ _))); (fail_if_success (with_reducible (show wpAny _ _ (eval (Expr.ListComp _ _ _ _) _) _ _ _))); (fail_if_success (with_reducible (show wpAny _ _ (exec (Stmt.Assign _ (Expr.ListComp _ _ _ _) _) _) _ _ _))); first | (k_unfold; (try dsimp only)) | walk1 | (dsimp only; walk1)))
def genAt (k : Nat) : Nat := if k = 0 then 996825010 else if k = 1 then 642813549 else if k = 2 then 513874426 else if k = 3 then 1027748829 else 705979059
def innerN (c t : Nat) : Nat → Nat
  | 0 => c
  | n + 1 => innerN c t n ^^^ (if (t >>> n) &&& 1 ≠ 0 then (genAt n) else 0)
abbrev polyScope : Scope := { kind := .function, names := [("values", NameKind.local), ("generator", NameKind.local), ("chk", NameKind.local), ("value", NameKind.local), ("top", NameKind.local), ("i", NameKind.local), ("range", NameKind.globalImplicit)], isGenerator := false, isCoroutine := false, more := [] }
abbrev innerBody (p5 p6 p7 p8 p9 p10 p11 p12 p13 p14 p15 p16 : Pos) : List Stmt :=
  [Stmt.AugAssign (Expr.Name "chk" p5) Operator.BitXor (Expr.IfExp (Expr.BinOp (Expr.BinOp (Expr.Name "top" p6) Operator.RShift (Expr.Name "i" p7) p8) Operator.BitAnd (Expr.Constant (Const.int 1) 0 p9) p10) (Expr.Subscript (Expr.Name "generator" p11) (Expr.Name "i" p12) p13) (Expr.Constant (Const.int 0) 0 p14) p15) p16]
set_option maxRecDepth 100000 in
set_option maxHeartbeats 2000000 in
theorem inner5 {w : World} {A : Around} {h₀ : Heap} {L f : Addr} {cd : Value} {m : Str → Option Value} {s : Shared} {Q : Flow → Shared → Prop} {E : Value → Shared → Prop} {news : List (Addr × Obj)} {r G : Addr} {t0 u0 v0 tc tt g0 g1 g2 g3 g4 : Tok} {c t : Nat}
  {p5 p6 p7 p8 p9 p10 p11 p12 p13 p14 p15 p16 : Pos}
  (KX : (Mine.hd.heap_39 w.params).In h₀)
  (hA : A.handled = none) (F : Fr h₀ L s.heap m) (N : News h₀ L s.heap news) (hr : IsRange s.heap r 0 5 1 t0 u0 v0)
  (hG : (G, PySem.W.listOf #[Value.int 996825010 g0, Value.int 642813549 g1, Value.int 513874426 g2, Value.int 1027748829 g3, Value.int 705979059 g4] 0) ∈ news)
  (hc : m "chk" = some (.int ((c : Nat) : Int) tc)) (ht : m "top" = some (.int ((t : Nat) : Int) tt)) (hg : m "generator" = some (.ref G))
  (done : ∀ (u : Str → Option Value) (tc' : Tok) (h' : Heap) (tk' : Nat), Fr h₀ L h' (fun y => if y = "i" then u y else if y = "chk" then some (.int ((innerN c t 5 : Nat) : Int) tc') else m y) → News h₀ L h' news → Q .next { s with heap := h', toks := tk' }) :
  wpAny (model prog w) A (pyIter (.ref r)) (fun it s₂ => LoopAtV prog w A h₀ (envOf "bech32_polymod" polyScope L f cd) "i" (innerBody p5 p6 p7 p8 p9 p10 p11 p12 p13 p14 p15 p16) Q E it s₂) E s := by
  have em : m = fun (y : Str) => if y = "chk" then some (.int ((c : Nat) : Int) tc) else if y = "top" then some (.int ((t : Nat) : Int) tt) else if y = "generator" then some (.ref G) else m y := by
    funext y
    (repeat' split) <;> simp_all
  have F' := F
  rw [em] at F'
  clear F
  refine kst_range (σ := Nat × Tok) (fun _ => news) (fun c => [("chk", Value.int ((c.1 : Nat) : Int) c.2)]) (fun _ => True) [] (fun pre c' => c'.1 = innerN c t pre.length) (c, tc) hA hr (by decide) (by rfl) F' N trivial (by simp) rfl ?_ ?_
  · intro c₁ pre k tk u h tk' own hk hlt hoff _ hP F₁ N₁
    dsimp only [kstB] at F₁
    have hk1 : k = ((pre.length : Nat) : Int) := by omega
    subst hk1
    have hk5 : pre.length < 5 := hlt
    have hit : ∃ t', [Value.int 996825010 g0, Value.int 642813549 g1, Value.int 513874426 g2, Value.int 1027748829 g3, Value.int 705979059 g4][((pre.length : Nat) : Int).toNat]? = some (.int ((genAt pre.length : Nat) : Int) t') := by
      have : pre.length = 0 ∨ pre.length = 1 ∨ pre.length = 2 ∨ pre.length = 3 ∨ pre.length = 4 := by omega
      rcases this with h | h | h | h | h <;> rw [h] <;> exact ⟨_, rfl⟩
    obtain ⟨t', ht'⟩ := hit
    have hlist : ∀ h', News h₀ L h' (news ++ own) → h'.IsList G [Value.int 996825010 g0, Value.int 642813549 g1, Value.int 513874426 g2, Value.int 1027748829 g3, Value.int 705979059 g4].toArray := fun h' N' => ⟨_, (N' _ (List.mem_append_left _ hG)).1, rfl, _, rfl⟩
    walk_at "mine"
    · refine item_at (hlist _ (by assumption)) (by omega) (by omega) ht' ?_
      walk_at "mine"
      rename_i hbit _ F₂ N₂
      refine kst_end (c := (_, _)) F₂ N₂ (fun p hp => List.mem_append_left _ hp) (fun p hp => List.mem_append_right _ hp) rfl trivial (by intro p hp; rw [List.mem_singleton.mp hp]; rfl) ?_ ?_
      · intro z h1 h2 _
        have h3 := h2 _ (.head _)
        simp only [if_neg h1, if_neg h3, List.contains_nil, Bool.false_eq_true, if_false]
      · have hb : (t >>> pre.length) &&& 1 ≠ 0 := fun q => hbit (by rw [q]; rfl)
        rw [List.length_append]
        show c₁.1 ^^^ genAt pre.length = innerN c t pre.length ^^^ (if (t >>> pre.length) &&& 1 ≠ 0 then genAt pre.length else 0)
        rw [if_pos hb, hP]
    · rename_i hbit _ F₂ N₂
      refine kst_end (c := (_, _)) F₂ N₂ (fun p hp => List.mem_append_left _ hp) (fun p hp => List.mem_append_right _ hp) rfl trivial (by intro p hp; rw [List.mem_singleton.mp hp]; rfl) ?_ ?_
      · intro z h1 h2 _
        have h3 := h2 _ (.head _)
        simp only [if_neg h1, if_neg h3, List.contains_nil, Bool.false_eq_true, if_false]
      · have hb : ¬ ((t >>> pre.length) &&& 1 ≠ 0) := fun q => q (Int.ofNat_inj.mp hbit)
        rw [List.length_append]
        show c₁.1 ^^^ 0 = innerN c t pre.length ^^^ (if (t >>> pre.length) &&& 1 ≠ 0 then genAt pre.length else 0)
        rw [if_neg hb, hP]
  · intro c₁ u h tk _ hP F₁ N₁
    rw [rangeKs_length] at hP
    refine done u c₁.2 h tk ?_ N₁
    dsimp only [kstB] at F₁
    have e : (fun y => if y = (Str.ofString "i") then u y else if y = "chk" then some (Value.int ((innerN c t 5 : Nat) : Int) c₁.2) else m y) = fun (y : Str) => if y = "i" then u y
    else
      if y = "chk" then some (Value.int (↑c₁.fst) c₁.snd)
      else
        if [].contains y = true then u y
        else
          if y = "chk" then some (Value.int (↑c) tc)
          else if y = "top" then some (Value.int (↑t) tt) else if y = "generator" then some (Value.ref G) else m y := by
      funext y
      rw [hP]
      have emy := congrFun em y
      by_cases h1 : y = "i"
      · simp only [if_pos h1]
      · simp only [if_neg h1]
        by_cases h2 : y = "chk"
        · simp only [if_pos h2]
        · simp only [if_neg h2, List.contains_nil, Bool.false_eq_true, if_false] at emy ⊢
          exact emy
    rw [e]
    exact F₁

/-- the checksum's step -/
def pmStep (c v : Nat) : Nat := innerN (((c &&& 33554431) <<< 5) ^^^ v) (c >>> 25) 5
def pm (ns : List Nat) : Nat := ns.foldl pmStep 1
theorem pm_snoc (l : List Nat) (v : Nat) : pm (l ++ [v]) = pmStep (pm l) v := by
  unfold pm
  rw [List.foldl_append]
  rfl
abbrev NatsAre (vs : List Value) (ns : List Nat) : Prop := IntsAre vs (ns.map (fun (n : Nat) => (n : Int)))

set_option maxRecDepth 100000 in
set_option maxHeartbeats 4000000 in
theorem polymod1 {w : World} {p : Program} {loose : List Str} {mg mb : Str → Option Value} {s : Shared} {Q E : Value → Shared → Prop}
  (KX : (Mine.hd.heap_39 w.params).In s.heap) (T : TopRead p loose mg mb s.heap)
  {l : Addr} {vs : List Value} {ns : List Nat}
  (hl : s.heap.IsList l vs.toArray) (hi : NatsAre vs ns) 
  (hret : ∀ (t : Tok) (h' : Heap) (tk' : Nat), s.heap.StaysIn h' → Q (.int ((pm ns : Nat) : Int) t) { s with heap := h', toks := tk' }) :
  wpAny (model prog w) (lvl 900 9000) (call (.ref 21) [.ref l]) Q E s := by
  k_dflt (refine' enter (binds := [(Str.ofString "values", Value.ref l)]) KX T.nolimit ?k6 ?k7 ?k8 ?k9 ?kB ?_ ?c2 ?c3 ?c4 ?c5; (case k6 => k_is); (case k7 => k_is); (case k8 => decide); (case k9 => exact BindsTo.of_eq rfl); (case kB => exact locs rfl); (case c2 => rfl); (case c3 => rfl); (case c4 => rfl); (case c5 => decide))
  intro h₁ L tk F N
  simp only [List.reverse_cons, List.reverse_nil, List.nil_append, List.cons_append, bmap] at F
  (try dsimp only)
  (try k_fold)
  walk_at "mine"
  rename Fr _ _ _ _ => F₁
  rename News _ _ _ _ => N₁
  with_unfolding_all refine For_invVF F₁ rfl rfl ?_
  walk_at "mine"
  rename_i tk₁ G _ _
  refine kst_list (σ := Nat × Tok) (fun _ => _) (fun c => [("chk", Value.int ((c.1 : Nat) : Int) c.2)]) (fun _ => True) ["top", "i"] (fun pre c => c.1 = pm (pre.map Int.toNat)) (1, _) rfl hl hi F₁ N₁ trivial (by intro q hq; rw [List.mem_singleton.mp hq]; rfl) rfl ?_ ?_
  · intro c₁ pre post n t u h tk' own he hn hoff _ hP F₂ N₂
    obtain ⟨v, hv, rfl⟩ := List.mem_map.mp hn
    dsimp only [kstB] at F₂
    walk_at "mine"
    rename Fr _ _ _ _ => F₃
    with_unfolding_all refine For_invVF F₃ rfl rfl ?_
    walk_at "mine"
    rename IsRange _ _ _ _ _ _ _ _ => hr
    rename Fr _ _ _ _ => F₄
    rename News _ _ _ _ => N₄
    with_unfolding_all refine inner5 (c := ((c₁.1 &&& 33554431) <<< 5) ^^^ v) (t := c₁.1 >>> 25) KX rfl F₄ N₄ hr (.head _) rfl rfl rfl ?_
    intro u' tc' h' tk' F₅ N₅
    walk_at "mine"
    refine kst_end (c := (_, _)) F₅ N₅ (fun p hp => List.mem_append_left _ hp) (fun p hp => List.mem_append_right _ hp) rfl trivial (by intro p hp; rw [List.mem_singleton.mp hp]; rfl) ?_ ?_
    · intro z h1 h2 h3
      have h4 := h2 _ (.head _)
      have h3' := h3
      simp only [List.contains_cons, List.contains_nil, Bool.or_false, Bool.or_eq_false_iff, beq_eq_false_iff_ne] at h3
      simp only [if_neg h1, if_neg h4, if_neg h3.1, if_neg h3.2, h3', Bool.false_eq_true, if_false]
    · show innerN (((c₁.1 &&& 33554431) <<< 5) ^^^ v) (c₁.1 >>> 25) 5 = pm ((pre ++ [((v : Nat) : Int)]).map Int.toNat)
      rw [hP, List.map_append, List.map_cons, List.map_nil, Int.toNat_natCast, pm_snoc]
      rfl
  · intro c₁ u h tk _ hP F₂ N₂
    have e : (ns.map (fun (n : Nat) => (n : Int))).map Int.toNat = ns := by
      rw [List.map_map]
      exact (List.map_congr_left fun a _ => Int.toNat_natCast a).trans (List.map_id ns)
    rw [e] at hP
    dsimp only [kstB] at F₂
    walk_at "mine"
    show Q (.int ((c₁.1 : Nat) : Int) c₁.2) _
    rw [hP]
    exact hret _ _ _ F₂.keep

set_option maxRecDepth 100000 in
set_option maxHeartbeats 4000000 in
theorem polymod2 {w : World} {p : Program} {loose : List Str} {mg mb : Str → Option Value} {s : Shared} {Q E : Value → Shared → Prop}
  (KX : (Mine.hd.heap_39 w.params).In s.heap) (T : TopRead p loose mg mb s.heap)
  {l : Addr} {vs : List Value} {ns : List Nat}
  (hl : s.heap.IsList l vs.toArray) (hi : NatsAre vs ns) 
  (hret : ∀ (t : Tok) (h' : Heap) (tk' : Nat), s.heap.StaysIn h' → Q (.int ((pm ns : Nat) : Int) t) { s with heap := h', toks := tk' }) :
  wpAny (model prog w) (lvl 900 9000) (call (.ref 91) [.ref l]) Q E s := by
  k_dflt (refine' enter (binds := [(Str.ofString "values", Value.ref l)]) KX T.nolimit ?k6 ?k7 ?k8 ?k9 ?kB ?_ ?c2 ?c3 ?c4 ?c5; (case k6 => k_is); (case k7 => k_is); (case k8 => decide); (case k9 => exact BindsTo.of_eq rfl); (case kB => exact locs rfl); (case c2 => rfl); (case c3 => rfl); (case c4 => rfl); (case c5 => decide))
  intro h₁ L tk F N
  simp only [List.reverse_cons, List.reverse_nil, List.nil_append, List.cons_append, bmap] at F
  (try dsimp only)
  (try k_fold)
  walk_at "mine"
  rename Fr _ _ _ _ => F₁
  rename News _ _ _ _ => N₁
  with_unfolding_all refine For_invVF F₁ rfl rfl ?_
  walk_at "mine"
  rename_i tk₁ G _ _
  refine kst_list (σ := Nat × Tok) (fun _ => _) (fun c => [("chk", Value.int ((c.1 : Nat) : Int) c.2)]) (fun _ => True) ["top", "i"] (fun pre c => c.1 = pm (pre.map Int.toNat)) (1, _) rfl hl hi F₁ N₁ trivial (by intro q hq; rw [List.mem_singleton.mp hq]; rfl) rfl ?_ ?_
  · intro c₁ pre post n t u h tk' own he hn hoff _ hP F₂ N₂
    obtain ⟨v, hv, rfl⟩ := List.mem_map.mp hn
    dsimp only [kstB] at F₂
    walk_at "mine"
    rename Fr _ _ _ _ => F₃
    with_unfolding_all refine For_invVF F₃ rfl rfl ?_
    walk_at "mine"
    rename IsRange _ _ _ _ _ _ _ _ => hr
    rename Fr _ _ _ _ => F₄
    rename News _ _ _ _ => N₄
    with_unfolding_all refine inner5 (c := ((c₁.1 &&& 33554431) <<< 5) ^^^ v) (t := c₁.1 >>> 25) KX rfl F₄ N₄ hr (.head _) rfl rfl rfl ?_
    intro u' tc' h' tk' F₅ N₅
    walk_at "mine"
    refine kst_end (c := (_, _)) F₅ N₅ (fun p hp => List.mem_append_left _ hp) (fun p hp => List.mem_append_right _ hp) rfl trivial (by intro p hp; rw [List.mem_singleton.mp hp]; rfl) ?_ ?_
    · intro z h1 h2 h3
      have h4 := h2 _ (.head _)
      have h3' := h3
      simp only [List.contains_cons, List.contains_nil, Bool.or_false, Bool.or_eq_false_iff, beq_eq_false_iff_ne] at h3
      simp only [if_neg h1, if_neg h4, if_neg h3.1, if_neg h3.2, h3', Bool.false_eq_true, if_false]
    · show innerN (((c₁.1 &&& 33554431) <<< 5) ^^^ v) (c₁.1 >>> 25) 5 = pm ((pre ++ [((v : Nat) : Int)]).map Int.toNat)
      rw [hP, List.map_append, List.map_cons, List.map_nil, Int.toNat_natCast, pm_snoc]
      rfl
  · intro c₁ u h tk _ hP F₂ N₂
    have e : (ns.map (fun (n : Nat) => (n : Int))).map Int.toNat = ns := by
      rw [List.map_map]
      exact (List.map_congr_left fun a _ => Int.toNat_natCast a).trans (List.map_id ns)
    rw [e] at hP
    dsimp only [kstB] at F₂
    walk_at "mine"
    show Q (.int ((c₁.1 : Nat) : Int) c₁.2) _
    rw [hP]
    exact hret _ _ _ F₂.keep
section
variable {prog : Program} {w : World} {A : Around} {E : Value → Shared → Prop} {s : Shared} {h₀ : Heap} {L : Addr} {m : Str → Option Value} {env : Env}
/-- what a turn of a comprehension whose element only adds gives -/
def ElEnd (s : Shared) (h : Heap) (G : Value → Prop) (y : Value) (s₂ : Shared) : Prop := ∃ h' tk', s₂ = { s with heap := h', toks := tk' } ∧ h.StaysIn h' ∧ G y
theorem rest_of {elt : Expr} {x : Str} {scope : Scope} {cl : List (Str × Addr)} {S : List (Addr × Obj) → Prop} {P : Nat → Value → Prop} {Fin : List Value → List (Addr × Obj) → Prop} {news : List (Addr × Obj)} {n : Nat} (G : Nat → Value → Prop) (hS : S news)
    (turn : ∀ i v I oI C oC D m₂ ys h tk (E' : Value → Shared → Prop), i < n → P i v → LCg.NsObj oC m₂ → m₂ x = some v → Fr h₀ L h m → News h₀ L h ((I, oI) :: (C, oC) :: (D, LCg.lst ys) :: news) → LCg.Off3 I C D news → ((@Ne Nat I C) ∧ (@Ne Nat I D) ∧ (@Ne Nat C D)) →
      wpAny (model prog w) A (eval elt (compEnvC scope cl C env)) (ElEnd { s with heap := h, toks := tk } h (G i)) E' { s with heap := h, toks := tk })
    (fin : ∀ ys, ys.length = n → (∀ i y, ys[i]? = some y → G i y) → Fin ys news) : LCg.CompRest prog w A h₀ L m env elt x scope cl s S P Fin n 0 [] news := by
  have key : ∀ (j i : Nat) (ys : List Value), i + j = n → ys.length = i → (∀ k y, ys[k]? = some y → G k y) → LCg.CompRest prog w A h₀ L m env elt x scope cl s S P Fin j i ys news := by
    intro j
    induction j with
    | zero =>
      intro i ys hi hl hG
      exact LCg.CompRest.zero (fin ys (by omega) hG)
    | succ j ih =>
      intro i ys hi hl hG
      refine LCg.CompRest.succ ?_
      intro v I oI C oC D m₂ h tk E' hv hC hx F N off ne
      refine wpAny_mono (turn i v I oI C oC D m₂ ys h tk E' (by omega) hv hC hx F N off ne) (fun y s₂ hq => ?_) fun _ _ e => e
      obtain ⟨h', tk', rfl, st, hy⟩ := hq
      refine ⟨h', tk', news, rfl, F.keeps st, N.grown st, off, hS, ih (i + 1) _ (by omega) (by simp [hl]) ?_⟩
      intro k z hz
      by_cases hk : k < ys.length
      · rw [List.getElem?_append_left hk] at hz
        exact hG k z hz
      · rw [List.getElem?_append_right (by omega)] at hz
        have hk0 : k - ys.length = 0 := by
          cases q : k - ys.length with
          | zero => rfl
          | succ a => rw [q] at hz; simp at hz
        rw [hk0] at hz
        have hk1 : k = i := by omega
        subst hk1
        have : y = z := by simpa using hz
        exact this ▸ hy
  exact key n 0 [] (by omega) rfl (by intro k y hy; simp at hy)

/-- the source of a comprehension over a text of plain signs -/
def SrcS (prog : Program) (w : World) (A : Around) (h₀ : Heap) (L : Addr) (m : Str → Option Value) (env : Env) (elt : Expr) (x : Str) (scope : Scope) (cl : List (Str × Addr)) (Fin : Shared → List Value → List (Addr × Obj) → Prop) (xv : Value) (s₁ : Shared) : Prop :=
  ∃ z t news, xv = .str z t ∧ A.handled = none ∧ z.cps.all (· < 128) = true ∧ z.cps.size ≤ sizeLine ∧ Fr h₀ L s₁.heap m ∧ News h₀ L s₁.heap news ∧
    ∀ s₂ : Shared, (∃ h, s₂ = { s₁ with heap := h }) → LCg.CompRest prog w A h₀ L m env elt x scope cl s₂ (fun _ => True) (SignAt z) (Fin s₂) z.cps.size 0 [] news

theorem strIter_st {I : Addr} {z : Str} {t : Tok} : ∀ i (h h' : Heap) (o : Obj) (nw : List (Addr × Obj)), h.IsStrIter I "str_ascii_iterator" z t i → h.get? I = some o → h'.get? I = some o → (∀ b o, h₀.get? b = some o → h'.get? b = some o) → News h₀ L h' nw → True → h'.IsStrIter I "str_ascii_iterator" z t i :=
  fun i h h' o nw st e e' _ _ _ => by
    obtain ⟨o', q, r⟩ := st
    rw [e] at q
    cases q
    exact ⟨o, e', r⟩

theorem ListComp_S {elt iter : Expr} {x : Str} {px : Pos} {scope : Scope} {cl : List (Str × Addr)} {pos : Pos} {Q : Value → Shared → Prop}
    (hclos : closureFor scope env = pure cl) (hcell : ∀ y ∈ scope.names, y.2 ≠ .cell) (hkind : scope.kind = .function)
    (hnames : ∀ y ∈ scope.names, y.2 = .local → scope.names.lookup y.1 = some .local) (hx : scope.names.lookup x = some .local)
    (h : wpAny (model prog w) A (eval iter env) (SrcS prog w A h₀ L m env elt x scope cl (fun s₂ => LCg.FinE h₀ L m s₂ Q)) E s)
    (hs : ∀ x, foldedSetIterable iter env x = pure x := by intro _; rfl) :
    wpAny (model prog w) A (eval (.ListComp elt [⟨.Name x px, iter, [], 0⟩] scope pos) env) Q E s := by
  rw [eval_ListComp]
  refine wpAny_comprehension_free (use := none) rfl hs hclos hkind hnames (wpAny_mono h (fun xv s₁ h₁ => ?_) fun _ _ e => e)
  obtain ⟨z, t, news, rfl, hh, ha, hsz, F, N, R⟩ := h₁
  refine wpAny_pyIter_ascii ha ?_
  have up : ∀ b o, s₁.heap.get? b = some o → (s₁.heap.push { cls := .type "str_ascii_iterator", data := .fields #[.str z t, .int 0 0] }).get? b = some o := fun b o e => Heap.get?_push_of_some _ e
  refine LCg.block_U (Walks.strAscii hh s₁.heap.objs.size z t) hsz (fun i h st => by obtain ⟨o, e, _⟩ := st; exact ⟨o, e⟩) strIter_st hcell hkind hx ⟨_, Heap.get?_push_size _ rfl, rfl, rfl⟩ (fun b hb => ?_)
    (F.keeps up) (N.grown up) (Nat.ne_of_lt F.ns.lt) (next_is_new F) (fun p hp => Nat.ne_of_lt (Heap.lt_size (N p hp).1)) trivial (R _ ⟨_, rfl⟩) ?_
  · rw [List.mem_singleton.mp hb]
    show s₁.heap.objs.size < (s₁.heap.push _).objs.size
    rw [Heap.size_push]; exact Nat.lt_succ_self _
  · intro D C h tk m' ys news' F' N' o1 hn hC₀ hD₀ hCL hDL hCD offC fin
    refine ⟨m', hn, fun h'' hs'' => fin D h'' tk (F'.change hs'' hCL hC₀) (fun p hp => ?_) o1⟩
    refine ⟨hs''.extBut _ _ ?_ (N' p hp).1, (N' p hp).2⟩
    rcases List.mem_cons.mp hp with rfl | hp
    · exact Ne.symm hCD
    · exact offC p hp

theorem Assign_ListComp_S {elt iter : Expr} {x y : Str} {px py : Pos} {scope : Scope} {cl : List (Str × Addr)} {pos spos : Pos} {Q : Flow → Shared → Prop} (hLe : env.locals = L)
    (hsw : swapsWith (.ListComp elt [⟨.Name x px, iter, [], 0⟩] scope pos) (some (.Name y py)) spos.line env = pure true)
    (hclos : closureFor scope env = pure cl) (hcell : ∀ z ∈ scope.names, z.2 ≠ .cell) (hkind : scope.kind = .function)
    (hnames : ∀ z ∈ scope.names, z.2 = .local → scope.names.lookup z.1 = some .local) (hx : scope.names.lookup x = some .local)
    (hy : env.kindOf y = some .local) (hp : (env.scope.kind == .class || (env.scope.kind == .module && env.locals != env.globals)) = false)
    (h : wpAny (model prog w) A (eval iter env) (SrcS prog w A h₀ L m env elt x scope cl (fun s₂ => LCg.FinA h₀ L m s₂ y Q)) E s)
    (hs : ∀ x, foldedSetIterable iter env x = pure x := by intro _; rfl) :
    wpAny (model prog w) A (exec (.Assign [.Name y py] (.ListComp elt [⟨.Name x px, iter, [], 0⟩] scope pos) spos) env) Q E s := by
  subst hLe
  rw [exec_Assign_Name_used _ _ _ _ hsw]
  refine wpAny_bind (wpAny_standAt (wpAny_bind ?_))
  show wpAny _ A (do let _ ← comprehension (.ListComp elt [⟨.Name x px, iter, [], 0⟩] scope pos) scope env _ (newList []) false (eval iter env) (some (assign (.Name y py) env))) _ _ s
  refine wpAny_bind (wpAny_mono (wpAny_comprehension_free (use := some (assign (.Name y py) env)) (Q := fun _ s' => Q .next s') rfl hs hclos hkind hnames
    (wpAny_mono h (fun xv s₁ h₁ => ?_) fun _ _ e => e)) (fun _ s' hq => wpAny_pure (wpAny_pure hq)) fun _ _ e => e)
  obtain ⟨z, t, news, rfl, hh, ha, hsz, F, N, R⟩ := h₁
  refine wpAny_pyIter_ascii ha ?_
  have up : ∀ b o, s₁.heap.get? b = some o → (s₁.heap.push { cls := .type "str_ascii_iterator", data := .fields #[.str z t, .int 0 0] }).get? b = some o := fun b o e => Heap.get?_push_of_some _ e
  refine LCg.block_U (Walks.strAscii hh s₁.heap.objs.size z t) hsz (fun i h st => by obtain ⟨o, e, _⟩ := st; exact ⟨o, e⟩) strIter_st hcell hkind hx ⟨_, Heap.get?_push_size _ rfl, rfl, rfl⟩ (fun b hb => ?_)
    (F.keeps up) (N.grown up) (Nat.ne_of_lt F.ns.lt) (next_is_new F) (fun p hp => Nat.ne_of_lt (Heap.lt_size (N p hp).1)) trivial (R _ ⟨_, rfl⟩) ?_
  · rw [List.mem_singleton.mp hb]
    show s₁.heap.objs.size < (s₁.heap.push _).objs.size
    rw [Heap.size_push]; exact Nat.lt_succ_self _
  · intro D C h' tk m' ys news' F' N' o1 hn hC₀ hD₀ hCL hDL hCD offC fin
    show wpAny _ A (assign (.Name y py) env (.ref D)) _ _ _
    refine wpAny_assign_Name (wpAny_storeName_local hy F'.ns (fun h₂ hn₂ hs₂ => ?_) hp)
    have hL₀ : h₀.get? env.locals = none := Heap.get?_none_of_le F'.above
    have F₂ : Fr h₀ env.locals h₂ (fun z => if z = y then some (.ref D) else m z) := ⟨hn₂, fun b o e => hs₂.extBut b o (fun q => by rw [q, hL₀] at e; cases e) (F'.keep b o e), F'.above⟩
    refine ⟨m', hn.sameBut hs₂ hCL, fun h'' hs'' => fin D h'' _ (F₂.change hs'' hCL hC₀) (fun p hp => ?_) o1⟩
    have z : h₂.get? p.1 = some p.2 := hs₂.extBut _ _ (N' p hp).2.1 (N' p hp).1
    refine ⟨hs''.extBut _ _ ?_ z, (N' p hp).2⟩
    rcases List.mem_cons.mp hp with rfl | hp
    · exact Ne.symm hCD
    · exact offC p hp
end

theorem natsAre_of : ∀ (ys : List Value) (ns : List Nat), ys.length = ns.length → (∀ i y, ys[i]? = some y → ∃ t, y = Value.int ((ns.getD i 0 : Nat) : Int) t) → NatsAre ys ns
  | [], [], _, _ => .nil
  | y :: ys, n :: ns, hl, h => by
    obtain ⟨t, rfl⟩ := h 0 y rfl
    exact .cons _ t (natsAre_of ys ns (by simpa using hl) fun i y hy => by simpa using h (i + 1) y hy)
/-- a call that hands back a new list of these ints -/
abbrev ListBack (s : Shared) (Q : Value → Shared → Prop) (ns : List Nat) : Prop :=
  ∀ (l : Addr) (vs : List Value) (n : Nat) (h' : Heap) (tk' : Nat), s.heap.StaysIn h' → s.heap.get? l = none → h'.get? l = some (PySem.W.listOf vs.toArray n) → NatsAre vs ns → Q (.ref l) { s with heap := h', toks := tk' }
theorem news_list {h₀ h : Heap} {L l : Addr} {vs : List Value} {n : Nat} {news : List (Addr × Obj)} (N : News h₀ L h news) (hm : (l, PySem.W.listOf vs.toArray n) ∈ news) : h.IsList l vs.toArray := ⟨_, (N _ hm).1, rfl, n, rfl⟩
theorem natsAre_append {us : List Value} {ns ms : List Nat} {ks : List Int} (h : IntsAre us ks) (e : ks = ns.map (fun (n : Nat) => (n : Int)) ++ ms.map (fun (n : Nat) => (n : Int))) : NatsAre us (ns ++ ms) := by
  subst e
  show IntsAre us ((ns ++ ms).map _)
  rw [List.map_append]
  exact h
theorem getD_map {α : Type} (f : α → Nat) (l : List α) (i : Nat) (a : α) (h : l[i]? = some a) : (l.map f).getD i 0 = f a := by
  simp [List.getD, h]

def hrpX (cs : List Nat) : List Nat := cs.map (fun c => c >>> 5) ++ [0] ++ cs.map (fun c => c &&& 31)

set_option maxRecDepth 100000 in
set_option maxHeartbeats 4000000 in
theorem hrp1 {w : World} {p : Program} {loose : List Str} {mg mb : Str → Option Value} {s : Shared} {Q E : Value → Shared → Prop}
  (KX : (Mine.hd.heap_39 w.params).In s.heap) (T : TopRead p loose mg mb s.heap)
  {x : Str} {t : Tok}
  (ha : x.cps.all (· < 128) = true) (hsz : x.cps.size ≤ 1000000)
  (hret : ListBack s Q (hrpX x.cps.toList)) :
  wpAny (model prog w) (lvl 900 9000) (call (.ref 26) [.str x t]) Q E s := by
  k_dflt (refine' enter (binds := [(Str.ofString "hrp", Value.str x t)]) KX T.nolimit ?k6 ?k7 ?k8 ?k9 ?kB ?_ ?c2 ?c3 ?c4 ?c5; (case k6 => k_is); (case k7 => k_is); (case k8 => decide); (case k9 => exact BindsTo.of_eq rfl); (case kB => exact locs rfl); (case c2 => rfl); (case c3 => rfl); (case c4 => rfl); (case c5 => decide))
  intro h₁ L tk F N
  simp only [List.reverse_cons, List.reverse_nil, List.nil_append, List.cons_append, bmap] at F
  (try dsimp only)
  (try k_fold)
  walk_at "mine"
  refine ListComp_S (h₀ := s.heap) (L := L) (m := fun y => if y = "hrp" then some (Value.str x t) else none) (by with_unfolding_all rfl) (by decide) (by rfl) (by decide) (by rfl) ?_
  walk_at "mine"
  refine ⟨x, t, _, rfl, rfl, ha, (by rw [PySem.sizeLine_eq]; omega), F, N, ?_⟩
  rintro s₂ ⟨g, rfl⟩
  refine rest_of (G := fun i v => ∃ t, v = Value.int ((((x.cps.toList.map (fun c => c >>> 5)).getD i 0 : Nat)) : Int) t) trivial ?_ ?_
  · intro i v I oI C oC D m₂ ys h tk E' hi hP hC hx F N off ne
    obtain ⟨c, u, hc, rfl⟩ := hP
    walk_at "mine"
    refine ⟨_, _, rfl, fun _ _ e => e, tk + 1 + 1, ?_⟩
    have hc' : x.cps.toList[i]? = some c := by simpa using hc
    simp [List.getD, hc']
  · intro ys hl hG D h tk F' N' off
    have hy := natsAre_of ys (x.cps.toList.map (fun c => c >>> 5)) (by simpa using hl) hG
    walk_at "mine"
    rename News _ _ _ _ => N₁
    rename Fr _ _ _ _ => F₁
    refine kmk_add_ints F₁ N₁ (news_list N₁ (.tail _ (.head _))) (news_list (vs := [Value.int 0 tk]) N₁ (.head _)) hy (.cons _ _ .nil) ?_ (by simp; rw [PySem.sizeLine_eq] at *; omega)
    intro D₂ us h₂ F₂ N₂ _ hus
    have hus' : NatsAre us (x.cps.toList.map (fun c => c >>> 5) ++ [0]) := natsAre_append hus rfl
    clear hus N₁ F₁
    walk_at "mine"
    refine ListComp_S (h₀ := s.heap) (L := L) (m := fun y => if y = "hrp" then some (Value.str x t) else none) (by with_unfolding_all rfl) (by decide) (by rfl) (by decide) (by rfl) ?_
    walk_at "mine"
    refine ⟨x, t, _, rfl, rfl, ha, (by rw [PySem.sizeLine_eq]; omega), F₂, N₂, ?_⟩
    rintro s₂ ⟨g, rfl⟩
    refine rest_of (G := fun i v => ∃ t, v = Value.int ((((x.cps.toList.map (fun c => c &&& 31)).getD i 0 : Nat)) : Int) t) trivial ?_ ?_
    · intro i v I oI C oC D m₂ ys h tk E' hi hP hC hx F N off ne
      obtain ⟨c, u, hc, rfl⟩ := hP
      walk_at "mine"
      refine ⟨_, _, rfl, fun _ _ e => e, tk + 1 + 1, ?_⟩
      have hc' : x.cps.toList[i]? = some c := by simpa using hc
      simp [List.getD, hc']
    · intro zs hl₃ hG₃ D₃ h₃ tk₃ F₃ N₃ off₃
      have hz := natsAre_of zs (x.cps.toList.map (fun c => c &&& 31)) (by simpa using hl₃) hG₃
      walk_at "mine"
      refine kmk_add_ints F₃ N₃ (news_list N₃ (.tail _ (.head _))) (news_list N₃ (.head _)) hus' hz ?_ (by simp; rw [PySem.sizeLine_eq] at *; omega)
      intro D₄ us₄ h₄ F₄ N₄ _ hus₄
      walk_at "mine"
      exact hret D₄ us₄ 0 h₄ _ F₄.keep (N₄ _ (.head _)).2.2 (N₄ _ (.head _)).1 (natsAre_append hus₄ rfl)

set_option maxRecDepth 100000 in
set_option maxHeartbeats 4000000 in
theorem hrp2 {w : World} {p : Program} {loose : List Str} {mg mb : Str → Option Value} {s : Shared} {Q E : Value → Shared → Prop}
  (KX : (Mine.hd.heap_39 w.params).In s.heap) (T : TopRead p loose mg mb s.heap)
  {x : Str} {t : Tok}
  (ha : x.cps.all (· < 128) = true) (hsz : x.cps.size ≤ 1000000)
  (hret : ListBack s Q (hrpX x.cps.toList)) :
  wpAny (model prog w) (lvl 900 9000) (call (.ref 96) [.str x t]) Q E s := by
  k_dflt (refine' enter (binds := [(Str.ofString "hrp", Value.str x t)]) KX T.nolimit ?k6 ?k7 ?k8 ?k9 ?kB ?_ ?c2 ?c3 ?c4 ?c5; (case k6 => k_is); (case k7 => k_is); (case k8 => decide); (case k9 => exact BindsTo.of_eq rfl); (case kB => exact locs rfl); (case c2 => rfl); (case c3 => rfl); (case c4 => rfl); (case c5 => decide))
  intro h₁ L tk F N
  simp only [List.reverse_cons, List.reverse_nil, List.nil_append, List.cons_append, bmap] at F
  (try dsimp only)
  (try k_fold)
  walk_at "mine"
  refine ListComp_S (h₀ := s.heap) (L := L) (m := fun y => if y = "hrp" then some (Value.str x t) else none) (by with_unfolding_all rfl) (by decide) (by rfl) (by decide) (by rfl) ?_
  walk_at "mine"
  refine ⟨x, t, _, rfl, rfl, ha, (by rw [PySem.sizeLine_eq]; omega), F, N, ?_⟩
  rintro s₂ ⟨g, rfl⟩
  refine rest_of (G := fun i v => ∃ t, v = Value.int ((((x.cps.toList.map (fun c => c >>> 5)).getD i 0 : Nat)) : Int) t) trivial ?_ ?_
  · intro i v I oI C oC D m₂ ys h tk E' hi hP hC hx F N off ne
    obtain ⟨c, u, hc, rfl⟩ := hP
    walk_at "mine"
    refine ⟨_, _, rfl, fun _ _ e => e, tk + 1 + 1, ?_⟩
    have hc' : x.cps.toList[i]? = some c := by simpa using hc
    simp [List.getD, hc']
  · intro ys hl hG D h tk F' N' off
    have hy := natsAre_of ys (x.cps.toList.map (fun c => c >>> 5)) (by simpa using hl) hG
    walk_at "mine"
    rename News _ _ _ _ => N₁
    rename Fr _ _ _ _ => F₁
    refine kmk_add_ints F₁ N₁ (news_list N₁ (.tail _ (.head _))) (news_list (vs := [Value.int 0 tk]) N₁ (.head _)) hy (.cons _ _ .nil) ?_ (by simp; rw [PySem.sizeLine_eq] at *; omega)
    intro D₂ us h₂ F₂ N₂ _ hus
    have hus' : NatsAre us (x.cps.toList.map (fun c => c >>> 5) ++ [0]) := natsAre_append hus rfl
    clear hus N₁ F₁
    walk_at "mine"
    refine ListComp_S (h₀ := s.heap) (L := L) (m := fun y => if y = "hrp" then some (Value.str x t) else none) (by with_unfolding_all rfl) (by decide) (by rfl) (by decide) (by rfl) ?_
    walk_at "mine"
    refine ⟨x, t, _, rfl, rfl, ha, (by rw [PySem.sizeLine_eq]; omega), F₂, N₂, ?_⟩
    rintro s₂ ⟨g, rfl⟩
    refine rest_of (G := fun i v => ∃ t, v = Value.int ((((x.cps.toList.map (fun c => c &&& 31)).getD i 0 : Nat)) : Int) t) trivial ?_ ?_
    · intro i v I oI C oC D m₂ ys h tk E' hi hP hC hx F N off ne
      obtain ⟨c, u, hc, rfl⟩ := hP
      walk_at "mine"
      refine ⟨_, _, rfl, fun _ _ e => e, tk + 1 + 1, ?_⟩
      have hc' : x.cps.toList[i]? = some c := by simpa using hc
      simp [List.getD, hc']
    · intro zs hl₃ hG₃ D₃ h₃ tk₃ F₃ N₃ off₃
      have hz := natsAre_of zs (x.cps.toList.map (fun c => c &&& 31)) (by simpa using hl₃) hG₃
      walk_at "mine"
      refine kmk_add_ints F₃ N₃ (news_list N₃ (.tail _ (.head _))) (news_list N₃ (.head _)) hus' hz ?_ (by simp; rw [PySem.sizeLine_eq] at *; omega)
      intro D₄ us₄ h₄ F₄ N₄ _ hus₄
      walk_at "mine"
      exact hret D₄ us₄ 0 h₄ _ F₄.keep (N₄ _ (.head _)).2.2 (N₄ _ (.head _)).1 (natsAre_append hus₄ rfl)

/-- what the second maker's verdict is -/
def EncIs (p : Nat) (v : Value) : Prop := (p = 1 ∧ ∃ t, v = .int 1 t) ∨ (p ≠ 1 ∧ p = 734539939 ∧ ∃ t, v = .int 2 t) ∨ (p ≠ 1 ∧ p ≠ 734539939 ∧ v = .none)

set_option maxRecDepth 100000 in
set_option maxHeartbeats 4000000 in
theorem ver1 {w : World} {p : Program} {loose : List Str} {mg mb : Str → Option Value} {s : Shared} {Q E : Value → Shared → Prop}
  (KX : (Mine.hd.heap_39 w.params).In s.heap) (T : TopRead p loose mg mb s.heap)
  {x : Str} {t : Tok} {d : Addr} {vs : List Value} {ds : List Nat}
  (ha : x.cps.all (· < 128) = true) (hsz : x.cps.size ≤ 1000) (hd : s.heap.IsList d vs.toArray) (hi : NatsAre vs ds) (hdl : ds.length ≤ 1000)
  (hret : ∀ (h' : Heap) (tk' : Nat), s.heap.StaysIn h' → Q (.bool (((pm (hrpX x.cps.toList ++ ds) : Nat) : Int) == 1)) { s with heap := h', toks := tk' }) :
  wpAny (model prog w) (lvl 800 8000) (call (.ref 33) [.str x t, .ref d]) Q E s := by
  k_dflt (refine' enter (binds := [(Str.ofString "hrp", Value.str x t), (Str.ofString "data", Value.ref d)]) KX T.nolimit ?k6 ?k7 ?k8 ?k9 ?kB ?_ ?c2 ?c3 ?c4 ?c5; (case k6 => k_is); (case k7 => k_is); (case k8 => decide); (case k9 => exact BindsTo.of_eq rfl); (case kB => exact locs rfl); (case c2 => rfl); (case c3 => rfl); (case c4 => rfl); (case c5 => decide))
  intro h₁ L tk F N
  simp only [List.reverse_cons, List.reverse_nil, List.nil_append, List.cons_append, bmap] at F
  (try dsimp only)
  (try k_fold)
  walk_at "mine"
  refine weaken (hrp1 (KX.keeps F.keep) (T.keeps F.keep) ha (by omega) ?_) rfl (Nat.le_of_ble_eq_true rfl) rfl rfl (Nat.le_of_ble_eq_true rfl)
  intro l₁ us n₁ h₂ tk₂ st₂ hn₂ hg₂ hus
  have F₂ := F.keeps st₂
  have N₂ := news_add F N st₂ hn₂ hg₂
  clear F N
  walk_at "mine"
  rename News _ _ _ _ => N₃
  rename Fr _ _ _ _ => F₃
  refine kmk_add_ints F₃ N₃ (news_list N₃ (.tail _ (.head _))) (news_list N₃ (.head _)) hus hi ?_ (by simp [hrpX]; rw [PySem.sizeLine_eq]; omega)
  intro D₄ us₄ h₄ F₄ N₄ _ hI
  walk_at "mine"
  refine weaken (polymod1 (KX.keeps F₄.keep) (T.keeps F₄.keep) (news_list N₄ (.head _)) (natsAre_append hI rfl) ?_) rfl (Nat.le_of_ble_eq_true rfl) rfl rfl (Nat.le_of_ble_eq_true rfl)
  intro t₅ h₅ tk₅ st₅
  have F₅ := F₄.keeps st₅
  have N₅ := N₄.grown st₅
  walk_at "mine"
  exact hret _ _ F₅.keep

set_option maxRecDepth 100000 in
set_option maxHeartbeats 4000000 in
theorem ver2 {w : World} {p : Program} {loose : List Str} {mg mb : Str → Option Value} {s : Shared} {Q E : Value → Shared → Prop}
  (KX : (Mine.hd.heap_39 w.params).In s.heap) (T : TopRead p loose mg mb s.heap)
  {x : Str} {t : Tok} {d : Addr} {vs : List Value} {ds : List Nat}
  (ha : x.cps.all (· < 128) = true) (hsz : x.cps.size ≤ 1000) (hd : s.heap.IsList d vs.toArray) (hi : NatsAre vs ds) (hdl : ds.length ≤ 1000)
  (hret : ∀ (v : Value) (h' : Heap) (tk' : Nat), s.heap.StaysIn h' → EncIs (pm (hrpX x.cps.toList ++ ds)) v → Q v { s with heap := h', toks := tk' }) :
  wpAny (model prog w) (lvl 800 8000) (call (.ref 103) [.str x t, .ref d]) Q E s := by
  k_dflt (refine' enter (binds := [(Str.ofString "hrp", Value.str x t), (Str.ofString "data", Value.ref d)]) KX T.nolimit ?k6 ?k7 ?k8 ?k9 ?kB ?_ ?c2 ?c3 ?c4 ?c5; (case k6 => k_is); (case k7 => k_is); (case k8 => decide); (case k9 => exact BindsTo.of_eq rfl); (case kB => exact locs rfl); (case c2 => rfl); (case c3 => rfl); (case c4 => rfl); (case c5 => decide))
  intro h₁ L tk F N
  simp only [List.reverse_cons, List.reverse_nil, List.nil_append, List.cons_append, bmap] at F
  (try dsimp only)
  (try k_fold)
  walk_at "mine"
  refine weaken (hrp2 (KX.keeps F.keep) (T.keeps F.keep) ha (by omega) ?_) rfl (Nat.le_of_ble_eq_true rfl) rfl rfl (Nat.le_of_ble_eq_true rfl)
  intro l₁ us n₁ h₂ tk₂ st₂ hn₂ hg₂ hus
  have F₂ := F.keeps st₂
  have N₂ := news_add F N st₂ hn₂ hg₂
  clear F N
  walk_at "mine"
  rename News _ _ _ _ => N₃
  rename Fr _ _ _ _ => F₃
  refine kmk_add_ints F₃ N₃ (news_list N₃ (.head _)) (hd.at fun o e => F₃.keep _ o e) hus hi ?_ (by simp [hrpX]; rw [PySem.sizeLine_eq]; omega)
  intro D₄ us₄ h₄ F₄ N₄ _ hI
  walk_at "mine"
  refine weaken (polymod2 (KX.keeps F₄.keep) (T.keeps F₄.keep) (news_list N₄ (.head _)) (natsAre_append hI rfl) ?_) rfl (Nat.le_of_ble_eq_true rfl) rfl rfl (Nat.le_of_ble_eq_true rfl)
  intro t₅ h₅ tk₅ st₅
  have F₅ := F₄.keeps st₅
  have N₅ := N₄.grown st₅
  walk_at "mine"
  · rename Fr _ _ _ _ => F₆
    show Q (.int 1 302) _
    exact hret _ _ _ F₆.keep (.inl ⟨by omega, _, rfl⟩)
  · rename Fr _ _ _ _ => F₆
    show Q (.int 2 304) _
    exact hret _ _ _ F₆.keep (.inr (.inl ⟨by omega, by omega, _, rfl⟩))
  · rename Fr _ _ _ _ => F₆
    show Q .none _
    exact hret _ _ _ F₆.keep (.inr (.inr ⟨by omega, by omega, rfl⟩))

/-- the six signs of a checksum -/
def chk6 (p : Nat) : List Nat := (List.range 6).map fun i => (p >>> (5 * (5 - i))) &&& 31

set_option maxRecDepth 100000 in
set_option maxHeartbeats 4000000 in
theorem cre1 {w : World} {p : Program} {loose : List Str} {mg mb : Str → Option Value} {s : Shared} {Q E : Value → Shared → Prop}
  (KX : (Mine.hd.heap_39 w.params).In s.heap) (T : TopRead p loose mg mb s.heap)
  {x : Str} {t : Tok} {d : Addr} {vs : List Value} {ds : List Nat}
  (ha : x.cps.all (· < 128) = true) (hsz : x.cps.size ≤ 1000) (hd : s.heap.IsList d vs.toArray) (hi : NatsAre vs ds) (hdl : ds.length ≤ 1000)
  (hret : ListBack s Q (chk6 (pm (hrpX x.cps.toList ++ ds ++ [0, 0, 0, 0, 0, 0]) ^^^ 1))) :
  wpAny (model prog w) (lvl 800 8000) (call (.ref 38) [.str x t, .ref d]) Q E s := by
  k_dflt (refine' enterC (binds := [(Str.ofString "hrp", Value.str x t), (Str.ofString "data", Value.ref d)]) KX T.nolimit ?k6 ?k7 ?k8 ?k9 ?kB ?kD ?_ ?c2 ?c3 ?c4; (case k6 => k_is); (case k7 => k_is); (case k8 => decide); (case k9 => exact BindsTo.of_eq rfl); (case kB => exact rfl); (case kD => decide +kernel); (case c2 => rfl); (case c3 => rfl); (case c4 => rfl))
  intro h₁ L tk cells F N Y
  k_cells Y
  replace F : Fr s.heap L h₁ (fun y => if y = (Str.ofString "data") then some (Value.ref d) else if y = "hrp" then some (Value.str x t) else none) := by with_unfolding_all exact F
  rename Obj => oc
  rename oc.data = _ => d1
  replace d1 : oc.data = .cell none := by with_unfolding_all exact d1
  (try dsimp only)
  (try k_fold)
  walk_at "mine"
  refine weaken (hrp1 (KX.keeps F.keep) (T.keeps F.keep) ha (by omega) ?_) rfl (Nat.le_of_ble_eq_true rfl) rfl rfl (Nat.le_of_ble_eq_true rfl)
  intro l₁ us n₁ h₂ tk₂ st₂ hn₂ hg₂ hus
  have F₂ := F.keeps st₂
  have N₂ := news_add F N st₂ hn₂ hg₂
  clear F N
  walk_at "mine"
  rename News _ _ _ _ => N₃
  rename Fr _ _ _ _ => F₃
  refine kmk_add_ints F₃ N₃ (news_list N₃ (.tail _ (.head _))) (news_list N₃ (.head _)) hus hi ?_ (by simp [hrpX]; rw [PySem.sizeLine_eq]; omega)
  intro D₄ us₄ h₄ F₄ N₄ _ hI
  walk_at "mine"
  rename News _ _ _ _ => N₅
  rename Fr _ _ _ _ => F₅
  have hus₄ : NatsAre us₄ (hrpX x.cps.toList ++ ds) := natsAre_append hI rfl
  refine kmk_add_ints (ms := ([0, 0, 0, 0, 0, 0] : List Nat).map (fun (n : Nat) => (n : Int))) F₅ N₅ (news_list N₅ (.tail _ (.head _))) (news_list N₅ (.head _)) hus₄ (.cons _ _ (.cons _ _ (.cons _ _ (.cons _ _ (.cons _ _ (.cons _ _ .nil)))))) ?_ (by simp [hrpX]; rw [PySem.sizeLine_eq]; omega)
  intro D₆ us₆ h₆ F₆ N₆ _ hI₆
  walk_at "mine"
  refine weaken (polymod1 (KX.keeps F₆.keep) (T.keeps F₆.keep) (news_list N₆ (.head _)) (natsAre_append hI₆ rfl) ?_) rfl (Nat.le_of_ble_eq_true rfl) rfl rfl (Nat.le_of_ble_eq_true rfl)
  intro t₇ h₇ tk₇ st₇
  have F₇ := F₆.keeps st₇
  have N₇ := N₆.grown st₇
  have N₈ : News s.heap L h₇ [(L + 1, oc)] := fun p hp => N₇ p (by rw [List.mem_singleton.mp hp]; k_mem)
  clear N₇ N₆ F₆ N₅ F₅
  generalize hP : pm (hrpX x.cps.toList ++ ds ++ [0, 0, 0, 0, 0, 0]) = P at *
  walk_at "mine"
  rename Fr _ _ _ _ => F₉
  refine LCg.ListComp_U (F₀ := F₉) (by with_unfolding_all rfl) (by decide) (by rfl) (by decide) (by rfl) ?_
  walk_at "mine"
  rename IsRange _ _ _ _ _ _ _ _ => hr
  rename Fr _ _ _ _ => F₉
  rename News _ _ _ _ => N₉
  refine LCg.CompSrc.range rfl F₉ N₉ hr (by decide) rfl (Nat.le_of_ble_eq_true rfl) ?_
  intro g
  refine rest_of (G := fun i v => ∃ t, v = Value.int (((chk6 (P ^^^ 1)).getD i 0 : Nat) : Int) t) trivial ?_ ?_
  · intro i v I oI C oC D m₂ ys h tk E' hi hV hC hx F N off ne
    obtain ⟨ti, rfl⟩ := hV
    rw [Int.zero_add] at hx
    have hi6 : i < 6 := hi
    have h5 : (5 : Int) * (5 - (i : Int)) = ((5 * (5 - i) : Nat) : Int) := by omega
    walk_at "mine"
    refine ⟨_, _, rfl, fun _ _ e => e, ?_⟩
    rw [chk6, getD_map _ _ i i (List.getElem?_range hi6)]
    exact ⟨_, rfl⟩
  · intro ys hl hG D h tk F' N' off
    exact hret D ys _ h tk F'.keep (N' _ (.head _)).2.2 (N' _ (.head _)).1 (natsAre_of ys _ (by rw [hl]; rfl) hG)

set_option maxRecDepth 100000 in
set_option maxHeartbeats 4000000 in
theorem cre2a {w : World} {p : Program} {loose : List Str} {mg mb : Str → Option Value} {s : Shared} {Q E : Value → Shared → Prop}
  (KX : (Mine.hd.heap_39 w.params).In s.heap) (T : TopRead p loose mg mb s.heap)
  {x : Str} {t et : Tok} {d : Addr} {vs : List Value} {ds : List Nat}
  (ha : x.cps.all (· < 128) = true) (hsz : x.cps.size ≤ 1000) (hd : s.heap.IsList d vs.toArray) (hi : NatsAre vs ds) (hdl : ds.length ≤ 1000)
  (hret : ListBack s Q (chk6 (pm (hrpX x.cps.toList ++ ds ++ [0, 0, 0, 0, 0, 0]) ^^^ 1))) :
  wpAny (model prog w) (lvl 800 8000) (call (.ref 108) [.int 1 et, .str x t, .ref d]) Q E s := by
  k_dflt (refine' enterC (binds := [(Str.ofString "encoding", Value.int 1 et), (Str.ofString "hrp", Value.str x t), (Str.ofString "data", Value.ref d)]) KX T.nolimit ?k6 ?k7 ?k8 ?k9 ?kB ?kD ?_ ?c2 ?c3 ?c4; (case k6 => k_is); (case k7 => k_is); (case k8 => decide); (case k9 => exact BindsTo.of_eq rfl); (case kB => exact rfl); (case kD => decide +kernel); (case c2 => rfl); (case c3 => rfl); (case c4 => rfl))
  intro h₁ L tk cells F N Y
  k_cells Y
  replace F : Fr s.heap L h₁ (fun y => if y = (Str.ofString "data") then some (Value.ref d) else if y = "hrp" then some (Value.str x t) else if y = "encoding" then some (Value.int 1 et) else none) := by with_unfolding_all exact F
  rename Obj => oc
  rename oc.data = _ => d1
  replace d1 : oc.data = .cell none := by with_unfolding_all exact d1
  (try dsimp only)
  (try k_fold)
  walk_at "mine"
  refine weaken (hrp2 (KX.keeps F.keep) (T.keeps F.keep) ha (by omega) ?_) rfl (Nat.le_of_ble_eq_true rfl) rfl rfl (Nat.le_of_ble_eq_true rfl)
  intro l₁ us n₁ h₂ tk₂ st₂ hn₂ hg₂ hus
  have F₂ := F.keeps st₂
  have N₂ := news_add F N st₂ hn₂ hg₂
  clear F N
  walk_at "mine"
  rename News _ _ _ _ => N₃
  rename Fr _ _ _ _ => F₃
  refine kmk_add_ints F₃ N₃ (news_list N₃ (.head _)) (hd.at fun o e => F₃.keep _ o e) hus hi ?_ (by simp [hrpX]; rw [PySem.sizeLine_eq]; omega)
  intro D₄ us₄ h₄ F₄ N₄ _ hI
  walk_at "mine"
  rename News _ _ _ _ => N₅
  rename Fr _ _ _ _ => F₅
  have hus₄ : NatsAre us₄ (hrpX x.cps.toList ++ ds) := natsAre_append hI rfl
  refine kmk_add_ints (ms := ([0, 0, 0, 0, 0, 0] : List Nat).map (fun (n : Nat) => (n : Int))) F₅ N₅ (news_list N₅ (.tail _ (.head _))) (news_list N₅ (.head _)) hus₄ (.cons _ _ (.cons _ _ (.cons _ _ (.cons _ _ (.cons _ _ (.cons _ _ .nil)))))) ?_ (by simp [hrpX]; rw [PySem.sizeLine_eq]; omega)
  intro D₆ us₆ h₆ F₆ N₆ _ hI₆
  walk_at "mine"
  refine weaken (polymod2 (KX.keeps F₆.keep) (T.keeps F₆.keep) (news_list N₆ (.head _)) (natsAre_append hI₆ rfl) ?_) rfl (Nat.le_of_ble_eq_true rfl) rfl rfl (Nat.le_of_ble_eq_true rfl)
  intro t₇ h₇ tk₇ st₇
  have F₇ := F₆.keeps st₇
  have N₇ := N₆.grown st₇
  have N₈ : News s.heap L h₇ [(L + 1, oc)] := fun p hp => N₇ p (by rw [List.mem_singleton.mp hp]; k_mem)
  clear N₇ N₆ F₆ N₅ F₅
  generalize hP : pm (hrpX x.cps.toList ++ ds ++ [0, 0, 0, 0, 0, 0]) = P at *
  walk_at "mine"
  rename Fr _ _ _ _ => F₉
  refine LCg.ListComp_U (F₀ := F₉) (by with_unfolding_all rfl) (by decide) (by rfl) (by decide) (by rfl) ?_
  walk_at "mine"
  rename IsRange _ _ _ _ _ _ _ _ => hr
  rename Fr _ _ _ _ => F₉
  rename News _ _ _ _ => N₉
  refine LCg.CompSrc.range rfl F₉ N₉ hr (by decide) rfl (Nat.le_of_ble_eq_true rfl) ?_
  intro g
  refine rest_of (G := fun i v => ∃ t, v = Value.int (((chk6 (P ^^^ 1)).getD i 0 : Nat) : Int) t) trivial ?_ ?_
  · intro i v I oI C oC D m₂ ys h tk E' hi hV hC hx F N off ne
    obtain ⟨ti, rfl⟩ := hV
    rw [Int.zero_add] at hx
    have hi6 : i < 6 := hi
    have h5 : (5 : Int) * (5 - (i : Int)) = ((5 * (5 - i) : Nat) : Int) := by omega
    walk_at "mine"
    refine ⟨_, _, rfl, fun _ _ e => e, ?_⟩
    rw [chk6, getD_map _ _ i i (List.getElem?_range hi6)]
    exact ⟨_, rfl⟩
  · intro ys hl hG D h tk F' N' off
    exact hret D ys _ h tk F'.keep (N' _ (.head _)).2.2 (N' _ (.head _)).1 (natsAre_of ys _ (by rw [hl]; rfl) hG)

set_option maxRecDepth 100000 in
set_option maxHeartbeats 4000000 in
theorem cre2b {w : World} {p : Program} {loose : List Str} {mg mb : Str → Option Value} {s : Shared} {Q E : Value → Shared → Prop}
  (KX : (Mine.hd.heap_39 w.params).In s.heap) (T : TopRead p loose mg mb s.heap)
  {x : Str} {t et : Tok} {d : Addr} {vs : List Value} {ds : List Nat}
  (ha : x.cps.all (· < 128) = true) (hsz : x.cps.size ≤ 1000) (hd : s.heap.IsList d vs.toArray) (hi : NatsAre vs ds) (hdl : ds.length ≤ 1000)
  (hret : ListBack s Q (chk6 (pm (hrpX x.cps.toList ++ ds ++ [0, 0, 0, 0, 0, 0]) ^^^ 734539939))) :
  wpAny (model prog w) (lvl 800 8000) (call (.ref 108) [.int 2 et, .str x t, .ref d]) Q E s := by
  k_dflt (refine' enterC (binds := [(Str.ofString "encoding", Value.int 2 et), (Str.ofString "hrp", Value.str x t), (Str.ofString "data", Value.ref d)]) KX T.nolimit ?k6 ?k7 ?k8 ?k9 ?kB ?kD ?_ ?c2 ?c3 ?c4; (case k6 => k_is); (case k7 => k_is); (case k8 => decide); (case k9 => exact BindsTo.of_eq rfl); (case kB => exact rfl); (case kD => decide +kernel); (case c2 => rfl); (case c3 => rfl); (case c4 => rfl))
  intro h₁ L tk cells F N Y
  k_cells Y
  replace F : Fr s.heap L h₁ (fun y => if y = (Str.ofString "data") then some (Value.ref d) else if y = "hrp" then some (Value.str x t) else if y = "encoding" then some (Value.int 2 et) else none) := by with_unfolding_all exact F
  rename Obj => oc
  rename oc.data = _ => d1
  replace d1 : oc.data = .cell none := by with_unfolding_all exact d1
  (try dsimp only)
  (try k_fold)
  walk_at "mine"
  refine weaken (hrp2 (KX.keeps F.keep) (T.keeps F.keep) ha (by omega) ?_) rfl (Nat.le_of_ble_eq_true rfl) rfl rfl (Nat.le_of_ble_eq_true rfl)
  intro l₁ us n₁ h₂ tk₂ st₂ hn₂ hg₂ hus
  have F₂ := F.keeps st₂
  have N₂ := news_add F N st₂ hn₂ hg₂
  clear F N
  walk_at "mine"
  rename News _ _ _ _ => N₃
  rename Fr _ _ _ _ => F₃
  refine kmk_add_ints F₃ N₃ (news_list N₃ (.head _)) (hd.at fun o e => F₃.keep _ o e) hus hi ?_ (by simp [hrpX]; rw [PySem.sizeLine_eq]; omega)
  intro D₄ us₄ h₄ F₄ N₄ _ hI
  walk_at "mine"
  rename News _ _ _ _ => N₅
  rename Fr _ _ _ _ => F₅
  have hus₄ : NatsAre us₄ (hrpX x.cps.toList ++ ds) := natsAre_append hI rfl
  refine kmk_add_ints (ms := ([0, 0, 0, 0, 0, 0] : List Nat).map (fun (n : Nat) => (n : Int))) F₅ N₅ (news_list N₅ (.tail _ (.head _))) (news_list N₅ (.head _)) hus₄ (.cons _ _ (.cons _ _ (.cons _ _ (.cons _ _ (.cons _ _ (.cons _ _ .nil)))))) ?_ (by simp [hrpX]; rw [PySem.sizeLine_eq]; omega)
  intro D₆ us₆ h₆ F₆ N₆ _ hI₆
  walk_at "mine"
  refine weaken (polymod2 (KX.keeps F₆.keep) (T.keeps F₆.keep) (news_list N₆ (.head _)) (natsAre_append hI₆ rfl) ?_) rfl (Nat.le_of_ble_eq_true rfl) rfl rfl (Nat.le_of_ble_eq_true rfl)
  intro t₇ h₇ tk₇ st₇
  have F₇ := F₆.keeps st₇
  have N₇ := N₆.grown st₇
  have N₈ : News s.heap L h₇ [(L + 1, oc)] := fun p hp => N₇ p (by rw [List.mem_singleton.mp hp]; k_mem)
  clear N₇ N₆ F₆ N₅ F₅
  generalize hP : pm (hrpX x.cps.toList ++ ds ++ [0, 0, 0, 0, 0, 0]) = P at *
  walk_at "mine"
  rename Fr _ _ _ _ => F₉
  refine LCg.ListComp_U (F₀ := F₉) (by with_unfolding_all rfl) (by decide) (by rfl) (by decide) (by rfl) ?_
  walk_at "mine"
  rename IsRange _ _ _ _ _ _ _ _ => hr
  rename Fr _ _ _ _ => F₉
  rename News _ _ _ _ => N₉
  refine LCg.CompSrc.range rfl F₉ N₉ hr (by decide) rfl (Nat.le_of_ble_eq_true rfl) ?_
  intro g
  refine rest_of (G := fun i v => ∃ t, v = Value.int (((chk6 (P ^^^ 734539939)).getD i 0 : Nat) : Int) t) trivial ?_ ?_
  · intro i v I oI C oC D m₂ ys h tk E' hi hV hC hx F N off ne
    obtain ⟨ti, rfl⟩ := hV
    rw [Int.zero_add] at hx
    have hi6 : i < 6 := hi
    have h5 : (5 : Int) * (5 - (i : Int)) = ((5 * (5 - i) : Nat) : Int) := by omega
    walk_at "mine"
    refine ⟨_, _, rfl, fun _ _ e => e, ?_⟩
    rw [chk6, getD_map _ _ i i (List.getElem?_range hi6)]
    exact ⟨_, rfl⟩
  · intro ys hl hG D h tk F' N' off
    exact hret D ys _ h tk F'.keep (N' _ (.head _)).2.2 (N' _ (.head _)).1 (natsAre_of ys _ (by rw [hl]; rfl) hG)
def CS : List Nat := [113, 112, 122, 114, 121, 57, 120, 56, 103, 102, 50, 116, 118, 100, 119, 48, 115, 51, 106, 110, 53, 52, 107, 104, 99, 101, 54, 109, 117, 97, 55, 108]
def csS : Str := ⟨CS.toArray⟩
theorem csS_eq : Str.ofString "qpzry9x8gf2tvdw0s3jn54khce6mua7l" = csS := by decide +kernel
/-- the signs of numbers below 32 -/
abbrev csOf (ds : List Nat) : List Nat := ds.map fun d => CS.getD d 0
/-- a name, the sign 1 and the signs of the numbers -/
def bstr (x : Str) (ds : List Nat) : Str := ⟨(x.cps.toList ++ 49 :: csOf ds).toArray⟩
theorem item_CS : ∀ n : Nat, n < 32 → Txt.item (Str.ofString "qpzry9x8gf2tvdw0s3jn54khce6mua7l") (n : Int) = ⟨#[CS.getD n 0]⟩ := by
  rw [csS_eq]
  decide +kernel
theorem join_signs : ∀ cs : List Nat, Str.join (Str.ofString "") (cs.map fun c => (⟨#[c]⟩ : Str)) = ⟨cs.toArray⟩
  | [] => rfl
  | [c] => rfl
  | c :: d :: r => by
    have h := join_signs (d :: r)
    rw [List.map_cons, List.map_cons]
    show (⟨#[c]⟩ : Str) ++ Str.ofString "" ++ Str.join (Str.ofString "") ((⟨#[d]⟩ : Str) :: r.map fun c => (⟨#[c]⟩ : Str)) = _
    rw [List.map_cons] at h
    rw [h]
    refine Str.ext' ?_
    rw [Str.cps_append, Str.cps_append]
    show #[c] ++ (Str.ofString "").cps ++ (d :: r).toArray = _
    rw [show (Str.ofString "").cps = #[] from by decide +kernel]
    simp
theorem bstr_eq (x : Str) (ds : List Nat) : x ++ Str.ofString "1" ++ Txt.join (Str.ofString "") ((csOf ds).map fun c => (⟨#[c]⟩ : Str)) = bstr x ds := by
  show x ++ Str.ofString "1" ++ Builtin.Str.glued _ _ = _
  rw [StrLaws.glued_eq_join, join_signs]
  refine Str.ext' ?_
  rw [Str.cps_append, Str.cps_append]
  show x.cps ++ (Str.ofString "1").cps ++ _ = _
  rw [show (Str.ofString "1").cps = #[49] from by decide +kernel]
  apply Array.ext'
  simp [bstr]
theorem strsAre_of : ∀ (ys : List Value) (ss : List Str), ys.length = ss.length → (∀ i y, ys[i]? = some y → ∃ t, y = Value.str (ss.getD i Str.empty) t) → StrsAre ys ss
  | [], [], _, _ => .nil
  | y :: ys, n :: ns, hl, h => by
    obtain ⟨t, rfl⟩ := h 0 y rfl
    exact .cons _ t (strsAre_of ys ns (by simpa using hl) fun i y hy => by simpa using h (i + 1) y hy)
theorem chk6_length (p : Nat) : (chk6 p).length = 6 := rfl
theorem chk6_lt (p : Nat) : ∀ n ∈ chk6 p, n < 32 := by
  intro n hn
  obtain ⟨i, _, rfl⟩ := List.mem_map.mp hn
  exact Nat.lt_of_le_of_lt Nat.and_le_right (by decide)
theorem natsAre_at {vs : List Value} {ns : List Nat} (h : NatsAre vs ns) {i : Nat} {v : Value} (hv : vs[i]? = some v) : ∃ n t, ns[i]? = some n ∧ v = .int ((n : Nat) : Int) t := by
  obtain ⟨k, t, hk, e⟩ := IntsAre.at h i v hv
  rw [List.getElem?_map] at e
  obtain ⟨n, hn, rfl⟩ := Option.map_eq_some_iff.mp e
  exact ⟨n, t, hn, hk⟩
theorem natsAre_length {vs : List Value} {ns : List Nat} (h : NatsAre vs ns) : vs.length = ns.length := by
  rw [IntsAre.length h, List.length_map]
theorem sum_ones : ∀ cs : List Nat, ((cs.map fun c => (⟨#[c]⟩ : Str)).map (·.length)).sum = cs.length
  | [] => rfl
  | c :: r => by
    rw [List.map_cons, List.map_cons, List.sum_cons, sum_ones r, List.length_cons]
    show 1 + r.length = _
    omega
theorem join_eq (cs : List Nat) : Txt.join (Str.ofString "") (cs.map fun c => (⟨#[c]⟩ : Str)) = ⟨cs.toArray⟩ := by
  show Builtin.Str.glued _ _ = _
  rw [StrLaws.glued_eq_join, join_signs]
theorem bstr_eq' (x : Str) (ds : List Nat) : x ++ Str.ofString "1" ++ (⟨(csOf ds).toArray⟩ : Str) = bstr x ds := by
  rw [← join_eq, bstr_eq]
theorem getD_signs (cs : List Nat) (i n : Nat) (h : cs[i]? = some n) : (cs.map fun c => (⟨#[c]⟩ : Str)).getD i Str.empty = ⟨#[n]⟩ := by
  simp [List.getD, h]
/-- a text of signs below 128, sign by sign in small letters -/
def low1 (c : Nat) : Nat := if 65 ≤ c ∧ c ≤ 90 then c + 32 else c
def upc (c : Nat) : Nat := if 97 ≤ c ∧ c ≤ 122 then c - 32 else c
theorem lowerOf_ascii : ∀ c, c < 128 → Unicode.lowerOf c = [low1 c] := by decide +kernel
theorem upperOf_ascii' : ∀ c, c < 128 → Unicode.upperOf c = [upc c] := by decide +kernel
theorem placed_one (x : Str) (f : Nat → Nat → List Nat) (g : Nat → Nat) (h : ∀ (i c : Nat), x.cps[i]? = some c → f i c = [g c]) : placed x f = x.cps.map g := by
  unfold placed
  have e : (x.cps.mapIdx fun i c => (f i c).toArray) = (x.cps.map g).map fun c => #[c] := by
    apply Array.ext
    · simp
    · intro i h1 h2
      have hi : i < x.cps.size := by simpa using h1
      simp [h i x.cps[i] (by simp [hi])]
  rw [e]
  apply Array.ext'
  rw [Array.toList_flatten]
  simp [Function.comp_def, List.flatten_eq_flatMap, List.flatMap_map]
  exact List.map_eq_flatMap.symm
theorem lower_eq (x : Str) (ha : ∀ c ∈ x.cps.toList, c < 128) : Txt.lower x = ⟨x.cps.map low1⟩ := by
  unfold Txt.lower
  rw [placed_one x _ low1]
  intro i c hc
  have hc' : c < 128 := ha c (by rw [Array.mem_toList_iff]; exact Array.mem_of_getElem? hc)
  unfold Unicode.lowerAt
  rw [hc]
  show (if c == 0x3A3 && Unicode.endsWord x.cps i then [0x3C2] else Unicode.lowerOf c) = _
  rw [if_neg (by simp; omega), lowerOf_ascii c hc']
theorem upper_eq (x : Str) (ha : ∀ c ∈ x.cps.toList, c < 128) : Txt.upper x = ⟨x.cps.map upc⟩ := by
  unfold Txt.upper
  rw [placed_one x _ upc]
  intro i c hc
  exact upperOf_ascii' c (ha c (by rw [Array.mem_toList_iff]; exact Array.mem_of_getElem? hc))
theorem CS_ne : ∀ n, n < 32 → CS.getD n 0 ≠ 49 := by decide +kernel
theorem bstr_len (x : Str) (ds : List Nat) : (bstr x ds).length = x.length + 1 + ds.length := by
  show (x.cps.toList ++ 49 :: csOf ds).toArray.size = x.cps.size + 1 + ds.length
  simp
  omega
theorem bstr_cps (x : Str) (ds : List Nat) : (bstr x ds).cps.toList = x.cps.toList ++ 49 :: csOf ds := rfl
theorem str_one : (Str.ofString "1") = ⟨#[49]⟩ := by decide +kernel
theorem rfind_bstr (x : Str) (ds : List Nat) (hd : ∀ n ∈ ds, n < 32) : Txt.rfind (bstr x ds) (Str.ofString "1") = (x.length : Int) := by
  unfold Txt.rfind
  rw [str_one]
  have here : StrLaws.At (bstr x ds) ⟨#[49]⟩ (bstr x ds).length x.length := by
    refine (StrLaws.subAt_one _ _ _).mpr ?_
    rw [bstr_cps, show x.length = x.cps.toList.length from by simp [Str.length]]
    simp
  have past : ∀ k, x.length < k → ¬ StrLaws.At (bstr x ds) ⟨#[49]⟩ (bstr x ds).length k := by
    intro k hk hA
    have h := (StrLaws.subAt_one _ _ _).mp hA
    rw [bstr_cps, List.getElem?_append_right (by simp [Str.length] at hk ⊢; omega)] at h
    obtain ⟨j, hj⟩ : ∃ j, k - x.cps.toList.length = j + 1 := ⟨k - x.cps.toList.length - 1, by simp [Str.length] at hk ⊢; omega⟩
    rw [hj, List.getElem?_cons_succ, List.getElem?_map] at h
    obtain ⟨d, hd', e⟩ := Option.map_eq_some_iff.mp h
    exact CS_ne d (hd d (List.mem_of_getElem? hd')) e
  rcases StrLaws.last_spec (bstr x ds) ⟨#[49]⟩ with ⟨_, h⟩ | ⟨i, h, hA, hl⟩
  · exact absurd here (h _)
  · rw [h]
    have : i = x.length := by
      rcases Nat.lt_trichotomy i x.length with q | q | q
      · exact absurd here (hl _ q)
      · exact q
      · exact absurd hA (past _ q)
    rw [this]
theorem slice_name (x : Str) (ds : List Nat) : Txt.slice (bstr x ds) none (some (x.length : Int)) = x := by
  have := slice_closes_to (x := bstr x ds) (j := (x.length : Int)) (by rw [bstr_cps]; simp [Str.length]; omega)
  rw [eq_of_beq this]
  refine Str.ext' ?_
  rw [bstr_cps]
  simp [Str.length]
theorem slice_tail (x : Str) (ds : List Nat) : Txt.slice (bstr x ds) (some ((x.length : Int) + 1)) none = ⟨(csOf ds).toArray⟩ := by
  have := slice_closes_from (x := bstr x ds) (i := ((x.length : Int) + 1)) (by rw [bstr_cps]; simp [Str.length]; omega)
  rw [eq_of_beq this]
  refine Str.ext' ?_
  rw [bstr_cps]
  show _ = (csOf ds).toArray
  have e : ((x.length : Int) + 1).toNat = x.cps.toList.length + 1 := by simp [Str.length]
  rw [e, List.drop_append]
  have e2 : (((x.cps.toList ++ 49 :: csOf ds).length : Int) - ((x.length : Int) + 1)).toNat = (csOf ds).length := by simp [Str.length]; omega
  rw [e2, List.drop_eq_nil_of_le (by simp), List.nil_append]
  simp
  exact List.take_of_length_le (by simp)
theorem slice6 (x : Str) (ds c6 : List Nat) (h : c6.length = 6) : Txt.slice (bstr x (ds ++ c6)) none (some (-6)) = bstr x ds := by
  have := StrLaws.sliceText_to_neg (x := bstr x (ds ++ c6)) (j := -6) (by decide) (by rw [bstr_len]; simp; omega)
  refine Eq.trans this ?_
  refine Str.ext' ?_
  rw [bstr_len, bstr_cps]
  have e : (-6 + ((x.length + 1 + (ds ++ c6).length : Nat) : Int) - 0).toNat = (x.cps.toList ++ 49 :: csOf ds).length := by simp [Str.length, h]; omega
  rw [e]
  have e2 : x.cps.toList ++ 49 :: csOf (ds ++ c6) = (x.cps.toList ++ 49 :: csOf ds) ++ csOf c6 := by simp [csOf]
  rw [e2, List.drop_zero, List.take_left']
  · rfl
  · rfl
theorem find_CS : ∀ n : Nat, n < 32 → Txt.find (Str.ofString "qpzry9x8gf2tvdw0s3jn54khce6mua7l") ⟨#[CS.getD n 0]⟩ = (n : Int) := by
  rw [csS_eq]
  decide +kernel
theorem contains_CS : ∀ n : Nat, n < 32 → Txt.contains (Str.ofString "qpzry9x8gf2tvdw0s3jn54khce6mua7l") ⟨#[CS.getD n 0]⟩ = true := by
  rw [csS_eq]
  decide +kernel
theorem CS_sign : ∀ n, n < 32 → 33 ≤ CS.getD n 0 ∧ CS.getD n 0 ≤ 126 ∧ low1 (CS.getD n 0) = CS.getD n 0 ∧ low1 (upc (CS.getD n 0)) = CS.getD n 0 ∧ upc (upc (CS.getD n 0)) = upc (CS.getD n 0) ∧ 33 ≤ upc (CS.getD n 0) ∧ upc (CS.getD n 0) ≤ 126 := by decide +kernel
theorem nm_sign : ∀ c, 97 ≤ c ∧ c ≤ 122 → 33 ≤ c ∧ c ≤ 126 ∧ low1 c = c ∧ low1 (upc c) = c ∧ upc (upc c) = upc c ∧ 33 ≤ upc c ∧ upc c ≤ 126 := by
  intro c h
  unfold low1 upc
  refine ⟨by omega, by omega, ?_, ?_, ?_, ?_, ?_⟩ <;> (repeat' split) <;> omega
/-- every sign of such a text -/
theorem bstr_sign {x : Str} {ds : List Nat} (hx : ∀ c ∈ x.cps.toList, 97 ≤ c ∧ c ≤ 122) (hd : ∀ n ∈ ds, n < 32) : ∀ c ∈ (bstr x ds).cps.toList, 33 ≤ c ∧ c ≤ 126 ∧ low1 c = c ∧ low1 (upc c) = c ∧ upc (upc c) = upc c ∧ 33 ≤ upc c ∧ upc c ≤ 126 := by
  intro c hc
  rw [bstr_cps] at hc
  rcases List.mem_append.mp hc with h | h
  · exact nm_sign c (hx c h)
  · rcases List.mem_cons.mp h with rfl | h
    · decide
    · obtain ⟨n, hn, rfl⟩ := List.mem_map.mp h
      exact CS_sign n (hd n hn)
/-- the same text in great letters -/
def bup (x : Str) (ds : List Nat) : Str := ⟨(bstr x ds).cps.map upc⟩
theorem all_of_mem (z : Str) (h : ∀ c ∈ z.cps.toList, 33 ≤ c ∧ c ≤ 126) : z.cps.all (· < 128) = true ∧ ∀ (i c : Nat), z.cps[i]? = some c → 33 ≤ c ∧ c ≤ 126 := by
  constructor
  · rw [Array.all_eq_true_iff_forall_mem]
    intro c hc
    have := (h c (Array.mem_toList_iff.mpr hc)).2
    simp
    omega
  · exact fun i c hc => h c (Array.mem_toList_iff.mpr (Array.mem_of_getElem? hc))
theorem map_same (a : Array Nat) (f : Nat → Nat) (h : ∀ c ∈ a.toList, f c = c) : a.map f = a := by
  apply Array.ext'
  rw [Array.toList_map]
  exact (List.map_congr_left h).trans (List.map_id' _)
section
variable {x : Str} {ds : List Nat} (hx : ∀ c ∈ x.cps.toList, 97 ≤ c ∧ c ≤ 122) (hd : ∀ n ∈ ds, n < 32)
include hx hd
theorem lower_bstr : Txt.lower (bstr x ds) = bstr x ds := by
  rw [lower_eq _ fun c hc => by have := bstr_sign hx hd c hc; omega]
  exact Str.ext' (map_same _ _ fun c hc => (bstr_sign hx hd c hc).2.2.1)
theorem bup_mem : ∀ c ∈ (bup x ds).cps.toList, ∃ b ∈ (bstr x ds).cps.toList, upc b = c := by
  intro c hc
  have : (bup x ds).cps.toList = (bstr x ds).cps.toList.map upc := Array.toList_map ..
  rw [this] at hc
  obtain ⟨b, hb, e⟩ := List.mem_map.mp hc
  exact ⟨b, hb, e⟩
theorem bup_sign : ∀ c ∈ (bup x ds).cps.toList, 33 ≤ c ∧ c ≤ 126 := by
  intro c hc
  obtain ⟨b, hb, rfl⟩ := bup_mem hx hd c hc
  have := bstr_sign hx hd b hb
  omega
theorem upper_bstr : Txt.upper (bstr x ds) = bup x ds :=
  upper_eq _ fun c hc => by have := bstr_sign hx hd c hc; omega
theorem lower_bup : Txt.lower (bup x ds) = bstr x ds := by
  rw [lower_eq _ fun c hc => by have := bup_sign hx hd c hc; omega]
  refine Str.ext' ?_
  show (((bstr x ds).cps.map upc).map low1) = _
  rw [Array.map_map]
  exact map_same _ _ fun c hc => (bstr_sign hx hd c hc).2.2.2.1
theorem upper_bup : Txt.upper (bup x ds) = bup x ds := by
  rw [upper_eq _ fun c hc => by have := bup_sign hx hd c hc; omega]
  refine Str.ext' (map_same _ _ fun c hc => ?_)
  obtain ⟨b, hb, rfl⟩ := bup_mem hx hd c hc
  exact (bstr_sign hx hd b hb).2.2.2.2.1
theorem bstr_plain : (bstr x ds).cps.all (· < 128) = true ∧ ∀ (i c : Nat), (bstr x ds).cps[i]? = some c → 33 ≤ c ∧ c ≤ 126 :=
  all_of_mem _ fun c hc => by have := bstr_sign hx hd c hc; omega
theorem bup_plain : (bup x ds).cps.all (· < 128) = true ∧ ∀ (i c : Nat), (bup x ds).cps[i]? = some c → 33 ≤ c ∧ c ≤ 126 :=
  all_of_mem _ (bup_sign hx hd)
end
theorem bup_len (x : Str) (ds : List Nat) : (bup x ds).length = x.length + 1 + ds.length := by
  rw [← bstr_len]
  show ((bstr x ds).cps.map upc).size = _
  rw [Array.size_map]
  rfl

set_option maxRecDepth 100000 in
set_option maxHeartbeats 4000000 in
theorem ben1 {w : World} {p : Program} {loose : List Str} {mg mb : Str → Option Value} {s : Shared} {Q E : Value → Shared → Prop}
  (KX : (Mine.hd.heap_39 w.params).In s.heap) (T : TopRead p loose mg mb s.heap)
  {x : Str} {t : Tok} {d : Addr} {vs : List Value} {ds : List Nat}
  (ha : x.cps.all (· < 128) = true) (hsz : x.cps.size ≤ 100) (hd : s.heap.IsList d vs.toArray) (hi : NatsAre vs ds) (hdl : ds.length ≤ 500) (hdr : ∀ n ∈ ds, n < 32)
  (hret : ∀ (t' : Tok) (h' : Heap) (tk' : Nat), s.heap.StaysIn h' → Q (.str (bstr x (ds ++ chk6 (pm (hrpX x.cps.toList ++ ds ++ [0, 0, 0, 0, 0, 0]) ^^^ 1))) t') { s with heap := h', toks := tk' }) :
  wpAny (model prog w) (lvl 700 7000) (call (.ref 43) [.str x t, .ref d]) Q E s := by
  k_dflt (refine' enter (binds := [(Str.ofString "hrp", Value.str x t), (Str.ofString "data", Value.ref d)]) KX T.nolimit ?k6 ?k7 ?k8 ?k9 ?kB ?_ ?c2 ?c3 ?c4 ?c5; (case k6 => k_is); (case k7 => k_is); (case k8 => decide); (case k9 => exact BindsTo.of_eq rfl); (case kB => exact locs rfl); (case c2 => rfl); (case c3 => rfl); (case c4 => rfl); (case c5 => decide))
  intro h₁ L tk F N
  simp only [List.reverse_cons, List.reverse_nil, List.nil_append, List.cons_append, bmap] at F
  (try dsimp only)
  (try k_fold)
  walk_at "mine"
  rename News _ _ _ _ => N₂
  rename Fr _ _ _ _ => F₂
  refine weaken (cre1 (KX.keeps F₂.keep) (T.keeps F₂.keep) ha (by omega) (hd.at fun o e => F₂.keep _ o e) hi (by omega) ?_) rfl (Nat.le_of_ble_eq_true rfl) rfl rfl (Nat.le_of_ble_eq_true rfl)
  intro l₁ us n₁ h₃ tk₃ st₃ hn₃ hg₃ hus
  have F₃ := F₂.keeps st₃
  have N₃ := news_add F₂ N₂ st₃ hn₃ hg₃
  clear F₂ N₂
  have hCl := chk6_length (pm (hrpX x.cps.toList ++ ds ++ [0, 0, 0, 0, 0, 0]) ^^^ 1)
  have hCr := chk6_lt (pm (hrpX x.cps.toList ++ ds ++ [0, 0, 0, 0, 0, 0]) ^^^ 1)
  generalize hC : chk6 (pm (hrpX x.cps.toList ++ ds ++ [0, 0, 0, 0, 0, 0]) ^^^ 1) = C at *
  walk_at "mine"
  refine kmk_add_ints F₃ N₃ (news_list N₃ (.tail _ (.head _))) (news_list N₃ (.head _)) hi hus ?_ (by simp; rw [PySem.sizeLine_eq]; omega)
  intro D₄ us₄ h₄ F₄ N₄ _ hI
  have hus₄ : NatsAre us₄ (ds ++ C) := natsAre_append hI rfl
  have hr₄ : ∀ n ∈ ds ++ C, n < 32 := fun n hn => (List.mem_append.mp hn).elim (hdr n) (hCr n)
  have hl₄ : (ds ++ C).length ≤ 506 := by rw [List.length_append]; omega
  clear N₃ F₃ hI
  generalize hE : ds ++ C = E₄ at *
  walk_at "mine"
  have hx1 : x.length + (Str.ofString "1").length ≤ sizeLine := by
    have : (Str.ofString "1").length = 1 := by decide +kernel
    rw [PySem.sizeLine_eq, this]
    show x.cps.size + 1 ≤ _
    omega
  refine PyProof.Rows.add_str ?_ hx1
  intro t₅ tk₅
  walk_at "mine"
  rename Fr _ _ _ _ => F₅
  rename News _ _ _ _ => N₅
  refine LCg.ListComp_U (F₀ := F₅) (by with_unfolding_all rfl) (by decide) (by rfl) (by decide) (by rfl) ?_
  walk_at "mine"
  have hl₅ := natsAre_length hus₄
  refine LCg.CompSrc.ledger (its := us₄.toArray) (k := 0) rfl F₅ N₅ (.head _) (by rw [List.size_toArray, PySem.sizeLine_eq]; omega) ?_
  intro g
  refine rest_of (G := fun i v => ∃ t, v = Value.str (((csOf E₄).map fun c => (⟨#[c]⟩ : Str)).getD i Str.empty) t) (.inr ⟨_, .head _, rfl, _, rfl⟩) ?_ ?_
  · intro i v I oI C' oC D m₂ ys h tk E' hi' hV hC' hx' F N off ne
    obtain ⟨n, tn, hn, rfl⟩ := natsAre_at hus₄ (i := i) (by simpa using hV)
    have hn32 : n < 32 := hr₄ n (List.mem_of_getElem? hn)
    walk_at "mine"
    refine item_str (fitsSsize_of (N := 9223372036854775808) (by omega) (by omega) (by omega)) (by omega) (by rw [show (Str.ofString "qpzry9x8gf2tvdw0s3jn54khce6mua7l").length = 32 from by decide +kernel]; omega) ?_
    intro _
    rw [item_CS n hn32]
    walk_at "mine"
    refine ⟨_, _, rfl, fun _ _ e => e, ?_⟩
    rw [getD_signs (csOf E₄) i (CS.getD n 0) (by rw [List.getElem?_map, hn]; rfl)]
    exact ⟨_, rfl⟩
  · intro ys hl hG D h tk F' N' off
    have hys := strsAre_of ys ((csOf E₄).map fun c => (⟨#[c]⟩ : Str)) (by rw [hl]; simp; omega) hG
    walk_at "mine"
    have hcl : (csOf E₄).length = E₄.length := List.length_map ..
    have h2 : (⟨(csOf E₄).toArray⟩ : Str).length = E₄.length := by
      show (csOf E₄).toArray.size = _
      rw [List.size_toArray, hcl]
    have hxl : x.length = x.cps.size := rfl
    have h11 : (Str.ofString "1").length = 1 := by decide +kernel
    refine join_listC (news_list N' (.head _)) hys (by decide +kernel) (by rw [sum_ones, List.length_map, List.length_map]; omega) ?_
    intro t₆ tk₆
    rw [join_eq]
    walk_at "mine"
    refine PyProof.Rows.add_str ?_ (by rw [PySem.sizeLine_eq, Str.length_append, h2, h11, hxl]; omega)
    intro t₇ tk₇
    rw [bstr_eq']
    walk_at "mine"
    exact hret _ _ _ F'.keep

set_option maxRecDepth 100000 in
set_option maxHeartbeats 4000000 in
theorem ben2a {w : World} {p : Program} {loose : List Str} {mg mb : Str → Option Value} {s : Shared} {Q E : Value → Shared → Prop}
  (KX : (Mine.hd.heap_39 w.params).In s.heap) (T : TopRead p loose mg mb s.heap)
  {x : Str} {t et : Tok} {d : Addr} {vs : List Value} {ds : List Nat}
  (ha : x.cps.all (· < 128) = true) (hsz : x.cps.size ≤ 100) (hd : s.heap.IsList d vs.toArray) (hi : NatsAre vs ds) (hdl : ds.length ≤ 500) (hdr : ∀ n ∈ ds, n < 32)
  (hret : ∀ (t' : Tok) (h' : Heap) (tk' : Nat), s.heap.StaysIn h' → Q (.str (bstr x (ds ++ chk6 (pm (hrpX x.cps.toList ++ ds ++ [0, 0, 0, 0, 0, 0]) ^^^ 1))) t') { s with heap := h', toks := tk' }) :
  wpAny (model prog w) (lvl 700 7000) (call (.ref 113) [.int 1 et, .str x t, .ref d]) Q E s := by
  k_dflt (refine' enter (binds := [(Str.ofString "encoding", Value.int 1 et), (Str.ofString "hrp", Value.str x t), (Str.ofString "data", Value.ref d)]) KX T.nolimit ?k6 ?k7 ?k8 ?k9 ?kB ?_ ?c2 ?c3 ?c4 ?c5; (case k6 => k_is); (case k7 => k_is); (case k8 => decide); (case k9 => exact BindsTo.of_eq rfl); (case kB => exact locs rfl); (case c2 => rfl); (case c3 => rfl); (case c4 => rfl); (case c5 => decide))
  intro h₁ L tk F N
  simp only [List.reverse_cons, List.reverse_nil, List.nil_append, List.cons_append, bmap] at F
  (try dsimp only)
  (try k_fold)
  walk_at "mine"
  rename News _ _ _ _ => N₂
  rename Fr _ _ _ _ => F₂
  refine weaken (cre2a (KX.keeps F₂.keep) (T.keeps F₂.keep) ha (by omega) (hd.at fun o e => F₂.keep _ o e) hi (by omega) ?_) rfl (Nat.le_of_ble_eq_true rfl) rfl rfl (Nat.le_of_ble_eq_true rfl)
  intro l₁ us n₁ h₃ tk₃ st₃ hn₃ hg₃ hus
  have F₃ := F₂.keeps st₃
  have N₃ := news_add F₂ N₂ st₃ hn₃ hg₃
  clear F₂ N₂
  have hCl := chk6_length (pm (hrpX x.cps.toList ++ ds ++ [0, 0, 0, 0, 0, 0]) ^^^ 1)
  have hCr := chk6_lt (pm (hrpX x.cps.toList ++ ds ++ [0, 0, 0, 0, 0, 0]) ^^^ 1)
  generalize hC : chk6 (pm (hrpX x.cps.toList ++ ds ++ [0, 0, 0, 0, 0, 0]) ^^^ 1) = C at *
  walk_at "mine"
  refine kmk_add_ints F₃ N₃ (hd.at fun o e => F₃.keep _ o e) (news_list N₃ (.head _)) hi hus ?_ (by simp; rw [PySem.sizeLine_eq]; omega)
  intro D₄ us₄ h₄ F₄ N₄ _ hI
  have hus₄ : NatsAre us₄ (ds ++ C) := natsAre_append hI rfl
  have hr₄ : ∀ n ∈ ds ++ C, n < 32 := fun n hn => (List.mem_append.mp hn).elim (hdr n) (hCr n)
  have hl₄ : (ds ++ C).length ≤ 506 := by rw [List.length_append]; omega
  clear N₃ F₃ hI
  generalize hE : ds ++ C = E₄ at *
  walk_at "mine"
  have hx1 : x.length + (Str.ofString "1").length ≤ sizeLine := by
    have : (Str.ofString "1").length = 1 := by decide +kernel
    rw [PySem.sizeLine_eq, this]
    show x.cps.size + 1 ≤ _
    omega
  refine PyProof.Rows.add_str ?_ hx1
  intro t₅ tk₅
  walk_at "mine"
  rename Fr _ _ _ _ => F₅
  rename News _ _ _ _ => N₅
  refine LCg.ListComp_U (F₀ := F₅) (by with_unfolding_all rfl) (by decide) (by rfl) (by decide) (by rfl) ?_
  walk_at "mine"
  have hl₅ := natsAre_length hus₄
  refine LCg.CompSrc.ledger (its := us₄.toArray) (k := 0) rfl F₅ N₅ (.head _) (by rw [List.size_toArray, PySem.sizeLine_eq]; omega) ?_
  intro g
  refine rest_of (G := fun i v => ∃ t, v = Value.str (((csOf E₄).map fun c => (⟨#[c]⟩ : Str)).getD i Str.empty) t) (.inr ⟨_, .head _, rfl, _, rfl⟩) ?_ ?_
  · intro i v I oI C' oC D m₂ ys h tk E' hi' hV hC' hx' F N off ne
    obtain ⟨n, tn, hn, rfl⟩ := natsAre_at hus₄ (i := i) (by simpa using hV)
    have hn32 : n < 32 := hr₄ n (List.mem_of_getElem? hn)
    walk_at "mine"
    refine item_str (fitsSsize_of (N := 9223372036854775808) (by omega) (by omega) (by omega)) (by omega) (by rw [show (Str.ofString "qpzry9x8gf2tvdw0s3jn54khce6mua7l").length = 32 from by decide +kernel]; omega) ?_
    intro _
    rw [item_CS n hn32]
    walk_at "mine"
    refine ⟨_, _, rfl, fun _ _ e => e, ?_⟩
    rw [getD_signs (csOf E₄) i (CS.getD n 0) (by rw [List.getElem?_map, hn]; rfl)]
    exact ⟨_, rfl⟩
  · intro ys hl hG D h tk F' N' off
    have hys := strsAre_of ys ((csOf E₄).map fun c => (⟨#[c]⟩ : Str)) (by rw [hl]; simp; omega) hG
    walk_at "mine"
    have hcl : (csOf E₄).length = E₄.length := List.length_map ..
    have h2 : (⟨(csOf E₄).toArray⟩ : Str).length = E₄.length := by
      show (csOf E₄).toArray.size = _
      rw [List.size_toArray, hcl]
    have hxl : x.length = x.cps.size := rfl
    have h11 : (Str.ofString "1").length = 1 := by decide +kernel
    refine join_listC (news_list N' (.head _)) hys (by decide +kernel) (by rw [sum_ones, List.length_map, List.length_map]; omega) ?_
    intro t₆ tk₆
    rw [join_eq]
    walk_at "mine"
    refine PyProof.Rows.add_str ?_ (by rw [PySem.sizeLine_eq, Str.length_append, h2, h11, hxl]; omega)
    intro t₇ tk₇
    rw [bstr_eq']
    walk_at "mine"
    exact hret _ _ _ F'.keep

set_option maxRecDepth 100000 in
set_option maxHeartbeats 4000000 in
theorem ben2b {w : World} {p : Program} {loose : List Str} {mg mb : Str → Option Value} {s : Shared} {Q E : Value → Shared → Prop}
  (KX : (Mine.hd.heap_39 w.params).In s.heap) (T : TopRead p loose mg mb s.heap)
  {x : Str} {t et : Tok} {d : Addr} {vs : List Value} {ds : List Nat}
  (ha : x.cps.all (· < 128) = true) (hsz : x.cps.size ≤ 100) (hd : s.heap.IsList d vs.toArray) (hi : NatsAre vs ds) (hdl : ds.length ≤ 500) (hdr : ∀ n ∈ ds, n < 32)
  (hret : ∀ (t' : Tok) (h' : Heap) (tk' : Nat), s.heap.StaysIn h' → Q (.str (bstr x (ds ++ chk6 (pm (hrpX x.cps.toList ++ ds ++ [0, 0, 0, 0, 0, 0]) ^^^ 734539939))) t') { s with heap := h', toks := tk' }) :
  wpAny (model prog w) (lvl 700 7000) (call (.ref 113) [.int 2 et, .str x t, .ref d]) Q E s := by
  k_dflt (refine' enter (binds := [(Str.ofString "encoding", Value.int 2 et), (Str.ofString "hrp", Value.str x t), (Str.ofString "data", Value.ref d)]) KX T.nolimit ?k6 ?k7 ?k8 ?k9 ?kB ?_ ?c2 ?c3 ?c4 ?c5; (case k6 => k_is); (case k7 => k_is); (case k8 => decide); (case k9 => exact BindsTo.of_eq rfl); (case kB => exact locs rfl); (case c2 => rfl); (case c3 => rfl); (case c4 => rfl); (case c5 => decide))
  intro h₁ L tk F N
  simp only [List.reverse_cons, List.reverse_nil, List.nil_append, List.cons_append, bmap] at F
  (try dsimp only)
  (try k_fold)
  walk_at "mine"
  rename News _ _ _ _ => N₂
  rename Fr _ _ _ _ => F₂
  refine weaken (cre2b (KX.keeps F₂.keep) (T.keeps F₂.keep) ha (by omega) (hd.at fun o e => F₂.keep _ o e) hi (by omega) ?_) rfl (Nat.le_of_ble_eq_true rfl) rfl rfl (Nat.le_of_ble_eq_true rfl)
  intro l₁ us n₁ h₃ tk₃ st₃ hn₃ hg₃ hus
  have F₃ := F₂.keeps st₃
  have N₃ := news_add F₂ N₂ st₃ hn₃ hg₃
  clear F₂ N₂
  have hCl := chk6_length (pm (hrpX x.cps.toList ++ ds ++ [0, 0, 0, 0, 0, 0]) ^^^ 734539939)
  have hCr := chk6_lt (pm (hrpX x.cps.toList ++ ds ++ [0, 0, 0, 0, 0, 0]) ^^^ 734539939)
  generalize hC : chk6 (pm (hrpX x.cps.toList ++ ds ++ [0, 0, 0, 0, 0, 0]) ^^^ 734539939) = C at *
  walk_at "mine"
  refine kmk_add_ints F₃ N₃ (hd.at fun o e => F₃.keep _ o e) (news_list N₃ (.head _)) hi hus ?_ (by simp; rw [PySem.sizeLine_eq]; omega)
  intro D₄ us₄ h₄ F₄ N₄ _ hI
  have hus₄ : NatsAre us₄ (ds ++ C) := natsAre_append hI rfl
  have hr₄ : ∀ n ∈ ds ++ C, n < 32 := fun n hn => (List.mem_append.mp hn).elim (hdr n) (hCr n)
  have hl₄ : (ds ++ C).length ≤ 506 := by rw [List.length_append]; omega
  clear N₃ F₃ hI
  generalize hE : ds ++ C = E₄ at *
  walk_at "mine"
  have hx1 : x.length + (Str.ofString "1").length ≤ sizeLine := by
    have : (Str.ofString "1").length = 1 := by decide +kernel
    rw [PySem.sizeLine_eq, this]
    show x.cps.size + 1 ≤ _
    omega
  refine PyProof.Rows.add_str ?_ hx1
  intro t₅ tk₅
  walk_at "mine"
  rename Fr _ _ _ _ => F₅
  rename News _ _ _ _ => N₅
  refine LCg.ListComp_U (F₀ := F₅) (by with_unfolding_all rfl) (by decide) (by rfl) (by decide) (by rfl) ?_
  walk_at "mine"
  have hl₅ := natsAre_length hus₄
  refine LCg.CompSrc.ledger (its := us₄.toArray) (k := 0) rfl F₅ N₅ (.head _) (by rw [List.size_toArray, PySem.sizeLine_eq]; omega) ?_
  intro g
  refine rest_of (G := fun i v => ∃ t, v = Value.str (((csOf E₄).map fun c => (⟨#[c]⟩ : Str)).getD i Str.empty) t) (.inr ⟨_, .head _, rfl, _, rfl⟩) ?_ ?_
  · intro i v I oI C' oC D m₂ ys h tk E' hi' hV hC' hx' F N off ne
    obtain ⟨n, tn, hn, rfl⟩ := natsAre_at hus₄ (i := i) (by simpa using hV)
    have hn32 : n < 32 := hr₄ n (List.mem_of_getElem? hn)
    walk_at "mine"
    refine item_str (fitsSsize_of (N := 9223372036854775808) (by omega) (by omega) (by omega)) (by omega) (by rw [show (Str.ofString "qpzry9x8gf2tvdw0s3jn54khce6mua7l").length = 32 from by decide +kernel]; omega) ?_
    intro _
    rw [item_CS n hn32]
    walk_at "mine"
    refine ⟨_, _, rfl, fun _ _ e => e, ?_⟩
    rw [getD_signs (csOf E₄) i (CS.getD n 0) (by rw [List.getElem?_map, hn]; rfl)]
    exact ⟨_, rfl⟩
  · intro ys hl hG D h tk F' N' off
    have hys := strsAre_of ys ((csOf E₄).map fun c => (⟨#[c]⟩ : Str)) (by rw [hl]; simp; omega) hG
    walk_at "mine"
    have hcl : (csOf E₄).length = E₄.length := List.length_map ..
    have h2 : (⟨(csOf E₄).toArray⟩ : Str).length = E₄.length := by
      show (csOf E₄).toArray.size = _
      rw [List.size_toArray, hcl]
    have hxl : x.length = x.cps.size := rfl
    have h11 : (Str.ofString "1").length = 1 := by decide +kernel
    refine join_listC (news_list N' (.head _)) hys (by decide +kernel) (by rw [sum_ones, List.length_map, List.length_map]; omega) ?_
    intro t₆ tk₆
    rw [join_eq]
    walk_at "mine"
    refine PyProof.Rows.add_str ?_ (by rw [PySem.sizeLine_eq, Str.length_append, h2, h11, hxl]; omega)
    intro t₇ tk₇
    rw [bstr_eq']
    walk_at "mine"
    exact hret _ _ _ F'.keep

section
section
variable {prog : Program} {w : World} {A : Around} {E : Value → Shared → Prop} {s : Shared} {Q : Value → Shared → Prop} {x y : Int} {a b : Nat} {t u : Tok}
theorem add_N (hx : x = (a : Int)) (hy : y = (b : Int)) (h : Q (.int ((a + b : Nat) : Int) s.toks) { s with toks := s.toks + 1 }) : wpAny (model prog w) A (binaryOp .Add (.int x t) (.int y u)) Q E s := by
  subst hx hy; exact PyProof.Rows.add_int (by rw [← Int.natCast_add]; exact h)
theorem iadd_N (hx : x = (a : Int)) (hy : y = (b : Int)) (h : Q (.int ((a + b : Nat) : Int) s.toks) { s with toks := s.toks + 1 }) : wpAny (model prog w) A (inplaceOp .Add (.int x t) (.int y u)) Q E s := by
  subst hx hy; exact PyProof.Rows.iadd_int (by rw [← Int.natCast_add]; exact h)
theorem sub_N (hx : x = (a : Int)) (hy : y = (b : Int)) (hle : b ≤ a) (h : Q (.int ((a - b : Nat) : Int) s.toks) { s with toks := s.toks + 1 }) : wpAny (model prog w) A (binaryOp .Sub (.int x t) (.int y u)) Q E s := by
  subst hx hy; exact PyProof.Rows.sub_int (by rw [← Int.natCast_sub hle]; exact h)
theorem isub_N (hx : x = (a : Int)) (hy : y = (b : Int)) (hle : b ≤ a) (h : Q (.int ((a - b : Nat) : Int) s.toks) { s with toks := s.toks + 1 }) : wpAny (model prog w) A (inplaceOp .Sub (.int x t) (.int y u)) Q E s := by
  subst hx hy; exact PyProof.Rows.isub_int (by rw [← Int.natCast_sub hle]; exact h)
end
local macro_rules | `(tactic| walk_at "binaryOp Add int int") => `(tactic| (k_here; (refine' add_N ?hx ?hy ?_; (case hx => first | exact rfl | exact num_N _); (case hy => first | exact rfl | exact num_N _)); (try dsimp only)))
local macro_rules | `(tactic| walk_at "inplaceOp Add int int") => `(tactic| (k_here; (refine' iadd_N ?hx ?hy ?_; (case hx => first | exact rfl | exact num_N _); (case hy => first | exact rfl | exact num_N _)); (try dsimp only)))
local macro_rules | `(tactic| walk_at "binaryOp Sub int int") => `(tactic| (k_here; (refine' sub_N ?hx ?hy ?hl ?_; (case hx => first | exact rfl | exact num_N _); (case hy => first | exact rfl | exact num_N _); (case hl => first | decide | omega)); (try dsimp only)))
local macro_rules | `(tactic| walk_at "inplaceOp Sub int int") => `(tactic| (k_here; (refine' isub_N ?hx ?hy ?hl ?_; (case hx => first | exact rfl | exact num_N _); (case hy => first | exact rfl | exact num_N _); (case hl => first | decide | omega)); (try dsimp only)))
/-- the inner loop of the regrouping -/
def cbEmit (t acc : Nat) : Nat → Nat → List Nat → Nat × List Nat
  | 0, bits, out => (bits, out)
  | k + 1, bits, out => if t ≤ bits then cbEmit t acc k (bits - t) (out ++ [(acc >>> (bits - t)) &&& ((1 <<< t) - 1)]) else (bits, out)
structure CbSt where
  acc : Nat
  bits : Nat
  out : List Nat
def cbStep (f t : Nat) (c : CbSt) (v : Nat) : CbSt :=
  let acc := ((c.acc <<< f) ||| v) &&& ((1 <<< (f + t - 1)) - 1)
  let r := cbEmit t acc 3 (c.bits + f) c.out
  ⟨acc, r.1, r.2⟩
def cbRun (f t : Nat) (ns : List Nat) : CbSt := ns.foldl (cbStep f t) ⟨0, 0, []⟩
theorem cbRun_snoc (f t : Nat) (l : List Nat) (v : Nat) : cbRun f t (l ++ [v]) = cbStep f t (cbRun f t l) v := by
  unfold cbRun
  rw [List.foldl_append]
  rfl
theorem toNat_map (ms : List Nat) : (ms.map (fun (n : Nat) => (n : Int))).map Int.toNat = ms := by
  rw [List.map_map]
  exact (List.map_congr_left fun a _ => Int.toNat_natCast a).trans (List.map_id ms)
/-- eight to five, the rest filled up -/
def cb85 (ns : List Nat) : List Nat :=
  let c := cbRun 8 5 ns
  if c.bits ≠ 0 then c.out ++ [(c.acc <<< (5 - c.bits)) &&& ((1 <<< 5) - 1)] else c.out
structure CbV where
  acc : Nat
  bits : Nat
  ta : Tok
  tb : Tok
  us : List Value
  ns : List Nat
  n : Nat
theorem natsAre_snoc {us : List Value} {ns : List Nat} {n : Nat} {t : Tok} (h : NatsAre us ns) : NatsAre (us ++ [Value.int ((n : Nat) : Int) t]) (ns ++ [n]) := by
  refine natsAre_of _ _ (by simp [natsAre_length h]) fun i y hy => ?_
  have hl := natsAre_length h
  by_cases hi : i < us.length
  · rw [List.getElem?_append_left hi] at hy
    obtain ⟨m, t', hm, rfl⟩ := natsAre_at h hy
    refine ⟨t', ?_⟩
    rw [List.getD_eq_getElem?_getD, List.getElem?_append_left (by omega), hm]
    rfl
  · rw [List.getElem?_append_right (by omega)] at hy
    have h0 : i - us.length = 0 := by
      cases q : i - us.length with
      | zero => rfl
      | succ a => rw [q] at hy; simp at hy
    rw [h0] at hy
    refine ⟨t, ?_⟩
    rw [List.getD_eq_getElem?_getD, List.getElem?_append_right (by omega), ← hl, h0]
    simpa using hy.symm
structure CwV where
  bits : Nat
  tb : Tok
  us : List Value
  ns : List Nat
  n : Nat

set_option maxRecDepth 100000 in
set_option maxHeartbeats 4000000 in
theorem cb85a {w : World} {p : Program} {loose : List Str} {mg mb : Str → Option Value} {s : Shared} {Q E : Value → Shared → Prop}
  (KX : (Mine.hd.heap_39 w.params).In s.heap) (T : TopRead p loose mg mb s.heap)
  {d : Addr} {tf tt : Tok} {vs : List Value} {ms : List Nat}
  (hd : s.heap.IsList d vs.toArray) (hi : NatsAre vs ms) (hdl : ms.length ≤ 500) (hdr : ∀ n ∈ ms, n < 256)
  (hret : ListBack s Q (cb85 ms)) :
  wpAny (model prog w) (lvl 900 9000) (call (.ref 56) [.ref d, .int 8 tf, .int 5 tt]) Q E s := by
  k_dflt (refine' enter (binds := [(Str.ofString "data", Value.ref d), (Str.ofString "frombits", Value.int 8 tf), (Str.ofString "tobits", Value.int 5 tt), (Str.ofString "pad", Value.bool true)]) KX T.nolimit ?k6 ?k7 ?k8 ?k9 ?kB ?_ ?c2 ?c3 ?c4 ?c5; (case k6 => k_is); (case k7 => k_is); (case k8 => decide); (case k9 => exact binds_K KX rfl (by k_is) rfl rfl rfl); (case kB => exact locs rfl); (case c2 => rfl); (case c3 => rfl); (case c4 => rfl); (case c5 => decide))
  intro h₁ L tk F N
  simp only [List.reverse_cons, List.reverse_nil, List.nil_append, List.cons_append, bmap] at F
  (try dsimp only)
  (try k_fold)
  walk_at "mine"
  rename Fr _ _ _ _ => F₁
  rename News _ _ _ _ => N₁
  with_unfolding_all refine For_invVF F₁ rfl rfl ?_
  walk_at "mine"
  rename News _ _ _ _ => N₁
  refine kst_list (σ := CbV) (fun c => [(_, PySem.W.listOf c.us.toArray c.n)]) (fun c => [("acc", Value.int ((c.acc : Nat) : Int) c.ta), ("bits", Value.int ((c.bits : Nat) : Int) c.tb)]) (fun c => NatsAre c.us c.ns) [] (fun pre c => (⟨c.acc, c.bits, c.ns⟩ : CbSt) = cbRun 8 5 (pre.map Int.toNat) ∧ c.bits < 5 ∧ c.acc < 4096 ∧ c.ns.length ≤ 2 * pre.length) ⟨0, 0, _, _, [], [], 0⟩ rfl hd hi F₁ N₁ .nil (by intro q hq; rcases List.mem_cons.mp hq with rfl | hq; (· rfl); rw [List.mem_singleton.mp hq]; rfl) ⟨rfl, (by show (0 : Nat) < 5; decide), (by show (0 : Nat) < 4096; decide), Nat.le_refl _⟩ ?_ ?_
  · intro c₁ pre post n tn u h tk' own he hn hoff hf hP F₂ N₂
    obtain ⟨v, hv, rfl⟩ := List.mem_map.mp hn
    obtain ⟨hP1, hP2, hP3, hP4⟩ := hP
    dsimp only [kstB] at F₂
    have hv1 : v < 256 := hdr v hv
    have hv2 : v >>> 8 = 0 := by rw [Nat.shiftRight_eq_div_pow]; omega
    have hpl : pre.length < 500 := by
      have := congrArg List.length he
      simp only [List.length_map, List.length_append, List.length_cons] at this
      omega
    walk_at "mine"
    · exfalso
      omega
    rename Fr _ _ _ _ => F₃
    rename News _ _ _ _ => N₃
    generalize hAcc : ((c₁.acc <<< 8 ||| v) &&& ((1 <<< (8 + 5 - 1)) - 1)) = acc at F₃
    refine ksw_while (σ := CwV) (fun c => (_, PySem.W.listOf c.us.toArray c.n) :: own) (fun c => [("bits", Value.int ((c.bits : Nat) : Int) c.tb)]) (fun c => NatsAre c.us c.ns) [] (fun c => ∃ k, c.bits < 5 * k ∧ c.ns.length + k ≤ c₁.ns.length + 3 ∧ cbEmit 5 acc k c.bits c.ns = cbEmit 5 acc 3 (c₁.bits + 8) c₁.ns) (fun c => c.bits) ⟨c₁.bits + 8, _, c₁.us, c₁.ns, c₁.n⟩ F₃ N₃ hf (by intro q hq; rw [List.mem_singleton.mp hq]; rfl) ⟨3, (by show c₁.bits + 8 < 5 * 3; omega), Nat.le_refl _, rfl⟩ ?_
    intro c₂ u₂ h₂ tk₂ hf₂ hP₂ F₄ N₄
    obtain ⟨k, hk1, hk2, hk3⟩ := hP₂
    dsimp only [kstB] at F₄
    walk_at "mine"
    · rename Fr _ _ _ _ => F₅
      rename News _ _ _ _ => N₅
      rename_i hge _ _ _
      rw [List.push_toArray] at N₅
      obtain ⟨k', rfl⟩ : ∃ k', k = k' + 1 := ⟨k - 1, by omega⟩
      have hge' : 5 ≤ c₂.bits := by omega
      rw [cbEmit, if_pos hge'] at hk3
      refine ksw_end ⟨c₂.bits - 5, _, c₂.us ++ [Value.int ((((acc >>> (c₂.bits - 5)) &&& ((1 <<< 5) - 1)) : Nat) : Int) _], c₂.ns ++ [(acc >>> (c₂.bits - 5)) &&& ((1 <<< 5) - 1)], c₂.n + 1⟩ F₅ N₅ (fun _ hp => hp) (natsAre_snoc hf₂) (by intro q hq; rw [List.mem_singleton.mp hq]; rfl) ?_ ⟨k', (by show c₂.bits - 5 < 5 * k'; omega), (by show (c₂.ns ++ [_]).length + k' ≤ _; rw [List.length_append]; show c₂.ns.length + 1 + k' ≤ _; omega), hk3⟩ (by show c₂.bits - 5 < c₂.bits; omega)
      intro z h2 h3
      have h4 := h2 _ (.head _)
      simp only [if_neg h4, List.contains_nil, Bool.false_eq_true, if_false]
    · rename Fr _ _ _ _ => F₅
      rename News _ _ _ _ => N₅
      rename_i hlt _
      obtain ⟨k', rfl⟩ : ∃ k', k = k' + 1 := ⟨k - 1, by omega⟩
      have hlt' : ¬ 5 ≤ c₂.bits := by omega
      rw [cbEmit, if_neg hlt'] at hk3
      refine kst_end (c := (⟨acc, c₂.bits, _, _, c₂.us, c₂.ns, c₂.n⟩ : CbV)) F₅ N₅ (fun p hp => by rw [List.mem_singleton.mp hp]; exact .head _) (fun p hp => .tail _ hp) rfl hf₂ (by intro q hq; rcases List.mem_cons.mp hq with rfl | hq; (· rfl); rw [List.mem_singleton.mp hq]; rfl) ?_ ⟨?_, (by show c₂.bits < 5; omega), ?_, ?_⟩
      · intro z h1 h2 h3
        have h4 := h2 _ (.head _)
        have h5 := h2 _ (.tail _ (.head _))
        simp only [if_neg h1, if_neg h4, if_neg h5, List.contains_nil, Bool.false_eq_true, if_false]
      · show (⟨acc, c₂.bits, c₂.ns⟩ : CbSt) = cbRun 8 5 ((pre ++ [((v : Nat) : Int)]).map Int.toNat)
        rw [List.map_append, List.map_cons, List.map_nil, Int.toNat_natCast, cbRun_snoc, ← hP1]
        unfold cbStep
        simp only [hAcc, ← hk3]
      · show acc < 4096
        rw [← hAcc]
        exact Nat.lt_of_le_of_lt Nat.and_le_right (by decide)
      · show c₂.ns.length ≤ 2 * (pre ++ [_]).length
        rw [List.length_append]
        show c₂.ns.length ≤ 2 * (pre.length + 1)
        omega
  · intro c₁ u h tk hf hP F₂ N₂
    obtain ⟨hP1, hP2, hP3, hP4⟩ := hP
    dsimp only [kstB] at F₂
    rw [toNat_map] at hP1
    walk_at "mine"
    · rename Fr _ _ _ _ => F₅
      rename News _ _ _ _ => N₅
      rename_i hb _ _
      rw [List.push_toArray] at N₅
      refine hret _ _ _ _ _ F₅.keep (N₅ _ (.head _)).2.2 (N₅ _ (.head _)).1 ?_
      have hb' : c₁.bits ≠ 0 := by omega
      rw [cb85, ← hP1, if_pos hb']
      exact natsAre_snoc hf
    · rename_i hb
      refine hret _ _ _ _ _ F₂.keep (N₂ _ (.head _)).2.2 (N₂ _ (.head _)).1 ?_
      have hb' : ¬ c₁.bits ≠ 0 := by omega
      rw [cb85, ← hP1, if_neg hb']
      exact hf

set_option maxRecDepth 100000 in
set_option maxHeartbeats 4000000 in
theorem cb58a {w : World} {p : Program} {loose : List Str} {mg mb : Str → Option Value} {s : Shared} {Q E : Value → Shared → Prop}
  (KX : (Mine.hd.heap_39 w.params).In s.heap) (T : TopRead p loose mg mb s.heap)
  {d : Addr} {tf tt : Tok} {vs : List Value} {ms : List Nat}
  (hok1 : (cbRun 5 8 ms).bits < 5) (hok2 : ((cbRun 5 8 ms).acc <<< (8 - (cbRun 5 8 ms).bits)) &&& ((1 <<< 8) - 1) = 0) (hd : s.heap.IsList d vs.toArray) (hi : NatsAre vs ms) (hdl : ms.length ≤ 500) (hdr : ∀ n ∈ ms, n < 32)
  (hret : ListBack s Q (cbRun 5 8 ms).out) :
  wpAny (model prog w) (lvl 900 9000) (call (.ref 56) [.ref d, .int 5 tf, .int 8 tt, .bool false]) Q E s := by
  k_dflt (refine' enter (binds := [(Str.ofString "data", Value.ref d), (Str.ofString "frombits", Value.int 5 tf), (Str.ofString "tobits", Value.int 8 tt), (Str.ofString "pad", Value.bool false)]) KX T.nolimit ?k6 ?k7 ?k8 ?k9 ?kB ?_ ?c2 ?c3 ?c4 ?c5; (case k6 => k_is); (case k7 => k_is); (case k8 => decide); (case k9 => exact binds_K KX rfl (by k_is) rfl rfl rfl); (case kB => exact locs rfl); (case c2 => rfl); (case c3 => rfl); (case c4 => rfl); (case c5 => decide))
  intro h₁ L tk F N
  simp only [List.reverse_cons, List.reverse_nil, List.nil_append, List.cons_append, bmap] at F
  (try dsimp only)
  (try k_fold)
  walk_at "mine"
  rename Fr _ _ _ _ => F₁
  rename News _ _ _ _ => N₁
  with_unfolding_all refine For_invVF F₁ rfl rfl ?_
  walk_at "mine"
  rename News _ _ _ _ => N₁
  refine kst_list (σ := CbV) (fun c => [(_, PySem.W.listOf c.us.toArray c.n)]) (fun c => [("acc", Value.int ((c.acc : Nat) : Int) c.ta), ("bits", Value.int ((c.bits : Nat) : Int) c.tb)]) (fun c => NatsAre c.us c.ns) [] (fun pre c => (⟨c.acc, c.bits, c.ns⟩ : CbSt) = cbRun 5 8 (pre.map Int.toNat) ∧ c.bits < 8 ∧ c.acc < 4096 ∧ c.ns.length ≤ 2 * pre.length) ⟨0, 0, _, _, [], [], 0⟩ rfl hd hi F₁ N₁ .nil (by intro q hq; rcases List.mem_cons.mp hq with rfl | hq; (· rfl); rw [List.mem_singleton.mp hq]; rfl) ⟨rfl, (by show (0 : Nat) < 8; decide), (by show (0 : Nat) < 4096; decide), Nat.le_refl _⟩ ?_ ?_
  · intro c₁ pre post n tn u h tk' own he hn hoff hf hP F₂ N₂
    obtain ⟨v, hv, rfl⟩ := List.mem_map.mp hn
    obtain ⟨hP1, hP2, hP3, hP4⟩ := hP
    dsimp only [kstB] at F₂
    have hv1 : v < 32 := hdr v hv
    have hv2 : v >>> 5 = 0 := by rw [Nat.shiftRight_eq_div_pow]; omega
    have hpl : pre.length < 500 := by
      have := congrArg List.length he
      simp only [List.length_map, List.length_append, List.length_cons] at this
      omega
    walk_at "mine"
    · exfalso
      omega
    rename Fr _ _ _ _ => F₃
    rename News _ _ _ _ => N₃
    generalize hAcc : ((c₁.acc <<< 5 ||| v) &&& ((1 <<< (5 + 8 - 1)) - 1)) = acc at F₃
    refine ksw_while (σ := CwV) (fun c => (_, PySem.W.listOf c.us.toArray c.n) :: own) (fun c => [("bits", Value.int ((c.bits : Nat) : Int) c.tb)]) (fun c => NatsAre c.us c.ns) [] (fun c => ∃ k, c.bits < 8 * k ∧ c.ns.length + k ≤ c₁.ns.length + 3 ∧ cbEmit 8 acc k c.bits c.ns = cbEmit 8 acc 3 (c₁.bits + 5) c₁.ns) (fun c => c.bits) ⟨c₁.bits + 5, _, c₁.us, c₁.ns, c₁.n⟩ F₃ N₃ hf (by intro q hq; rw [List.mem_singleton.mp hq]; rfl) ⟨3, (by show c₁.bits + 5 < 8 * 3; omega), Nat.le_refl _, rfl⟩ ?_
    intro c₂ u₂ h₂ tk₂ hf₂ hP₂ F₄ N₄
    obtain ⟨k, hk1, hk2, hk3⟩ := hP₂
    dsimp only [kstB] at F₄
    walk_at "mine"
    · rename Fr _ _ _ _ => F₅
      rename News _ _ _ _ => N₅
      rename_i hge _ _ _
      rw [List.push_toArray] at N₅
      obtain ⟨k', rfl⟩ : ∃ k', k = k' + 1 := ⟨k - 1, by omega⟩
      have hge' : 8 ≤ c₂.bits := by omega
      rw [cbEmit, if_pos hge'] at hk3
      refine ksw_end ⟨c₂.bits - 8, _, c₂.us ++ [Value.int ((((acc >>> (c₂.bits - 8)) &&& ((1 <<< 8) - 1)) : Nat) : Int) _], c₂.ns ++ [(acc >>> (c₂.bits - 8)) &&& ((1 <<< 8) - 1)], c₂.n + 1⟩ F₅ N₅ (fun _ hp => hp) (natsAre_snoc hf₂) (by intro q hq; rw [List.mem_singleton.mp hq]; rfl) ?_ ⟨k', (by show c₂.bits - 8 < 8 * k'; omega), (by show (c₂.ns ++ [_]).length + k' ≤ _; rw [List.length_append]; show c₂.ns.length + 1 + k' ≤ _; omega), hk3⟩ (by show c₂.bits - 8 < c₂.bits; omega)
      intro z h2 h3
      have h4 := h2 _ (.head _)
      simp only [if_neg h4, List.contains_nil, Bool.false_eq_true, if_false]
    · rename Fr _ _ _ _ => F₅
      rename News _ _ _ _ => N₅
      rename_i hlt _
      obtain ⟨k', rfl⟩ : ∃ k', k = k' + 1 := ⟨k - 1, by omega⟩
      have hlt' : ¬ 8 ≤ c₂.bits := by omega
      rw [cbEmit, if_neg hlt'] at hk3
      refine kst_end (c := (⟨acc, c₂.bits, _, _, c₂.us, c₂.ns, c₂.n⟩ : CbV)) F₅ N₅ (fun p hp => by rw [List.mem_singleton.mp hp]; exact .head _) (fun p hp => .tail _ hp) rfl hf₂ (by intro q hq; rcases List.mem_cons.mp hq with rfl | hq; (· rfl); rw [List.mem_singleton.mp hq]; rfl) ?_ ⟨?_, (by show c₂.bits < 8; omega), ?_, ?_⟩
      · intro z h1 h2 h3
        have h4 := h2 _ (.head _)
        have h5 := h2 _ (.tail _ (.head _))
        simp only [if_neg h1, if_neg h4, if_neg h5, List.contains_nil, Bool.false_eq_true, if_false]
      · show (⟨acc, c₂.bits, c₂.ns⟩ : CbSt) = cbRun 5 8 ((pre ++ [((v : Nat) : Int)]).map Int.toNat)
        rw [List.map_append, List.map_cons, List.map_nil, Int.toNat_natCast, cbRun_snoc, ← hP1]
        unfold cbStep
        simp only [hAcc, ← hk3]
      · show acc < 4096
        rw [← hAcc]
        exact Nat.lt_of_le_of_lt Nat.and_le_right (by decide)
      · show c₂.ns.length ≤ 2 * (pre ++ [_]).length
        rw [List.length_append]
        show c₂.ns.length ≤ 2 * (pre.length + 1)
        omega
  · intro c₁ u h tk hf hP F₂ N₂
    obtain ⟨hP1, hP2, hP3, hP4⟩ := hP
    dsimp only [kstB] at F₂
    rw [toNat_map] at hP1
    rw [← hP1] at hok1 hok2
    dsimp only at hok1 hok2
    walk_at "mine"
    · rename_i hq
      exact absurd (by rw [hok2]; rfl) hq
    · refine hret _ _ _ _ _ F₂.keep (N₂ _ (.head _)).2.2 (N₂ _ (.head _)).1 ?_
      rw [← hP1]
      exact hf

set_option maxRecDepth 100000 in
set_option maxHeartbeats 4000000 in
theorem cb85b {w : World} {p : Program} {loose : List Str} {mg mb : Str → Option Value} {s : Shared} {Q E : Value → Shared → Prop}
  (KX : (Mine.hd.heap_39 w.params).In s.heap) (T : TopRead p loose mg mb s.heap)
  {d : Addr} {tf tt : Tok} {vs : List Value} {ms : List Nat}
  (hd : s.heap.IsList d vs.toArray) (hi : NatsAre vs ms) (hdl : ms.length ≤ 500) (hdr : ∀ n ∈ ms, n < 256)
  (hret : ListBack s Q (cb85 ms)) :
  wpAny (model prog w) (lvl 900 9000) (call (.ref 126) [.ref d, .int 8 tf, .int 5 tt]) Q E s := by
  k_dflt (refine' enter (binds := [(Str.ofString "data", Value.ref d), (Str.ofString "frombits", Value.int 8 tf), (Str.ofString "tobits", Value.int 5 tt), (Str.ofString "pad", Value.bool true)]) KX T.nolimit ?k6 ?k7 ?k8 ?k9 ?kB ?_ ?c2 ?c3 ?c4 ?c5; (case k6 => k_is); (case k7 => k_is); (case k8 => decide); (case k9 => exact binds_K KX rfl (by k_is) rfl rfl rfl); (case kB => exact locs rfl); (case c2 => rfl); (case c3 => rfl); (case c4 => rfl); (case c5 => decide))
  intro h₁ L tk F N
  simp only [List.reverse_cons, List.reverse_nil, List.nil_append, List.cons_append, bmap] at F
  (try dsimp only)
  (try k_fold)
  walk_at "mine"
  rename Fr _ _ _ _ => F₁
  rename News _ _ _ _ => N₁
  with_unfolding_all refine For_invVF F₁ rfl rfl ?_
  walk_at "mine"
  rename News _ _ _ _ => N₁
  refine kst_list (σ := CbV) (fun c => [(_, PySem.W.listOf c.us.toArray c.n)]) (fun c => [("acc", Value.int ((c.acc : Nat) : Int) c.ta), ("bits", Value.int ((c.bits : Nat) : Int) c.tb)]) (fun c => NatsAre c.us c.ns) [] (fun pre c => (⟨c.acc, c.bits, c.ns⟩ : CbSt) = cbRun 8 5 (pre.map Int.toNat) ∧ c.bits < 5 ∧ c.acc < 4096 ∧ c.ns.length ≤ 2 * pre.length) ⟨0, 0, _, _, [], [], 0⟩ rfl hd hi F₁ N₁ .nil (by intro q hq; rcases List.mem_cons.mp hq with rfl | hq; (· rfl); rw [List.mem_singleton.mp hq]; rfl) ⟨rfl, (by show (0 : Nat) < 5; decide), (by show (0 : Nat) < 4096; decide), Nat.le_refl _⟩ ?_ ?_
  · intro c₁ pre post n tn u h tk' own he hn hoff hf hP F₂ N₂
    obtain ⟨v, hv, rfl⟩ := List.mem_map.mp hn
    obtain ⟨hP1, hP2, hP3, hP4⟩ := hP
    dsimp only [kstB] at F₂
    have hv1 : v < 256 := hdr v hv
    have hv2 : v >>> 8 = 0 := by rw [Nat.shiftRight_eq_div_pow]; omega
    have hpl : pre.length < 500 := by
      have := congrArg List.length he
      simp only [List.length_map, List.length_append, List.length_cons] at this
      omega
    walk_at "mine"
    · exfalso
      omega
    rename Fr _ _ _ _ => F₃
    rename News _ _ _ _ => N₃
    generalize hAcc : ((c₁.acc <<< 8 ||| v) &&& ((1 <<< (8 + 5 - 1)) - 1)) = acc at F₃
    refine ksw_while (σ := CwV) (fun c => (_, PySem.W.listOf c.us.toArray c.n) :: own) (fun c => [("bits", Value.int ((c.bits : Nat) : Int) c.tb)]) (fun c => NatsAre c.us c.ns) [] (fun c => ∃ k, c.bits < 5 * k ∧ c.ns.length + k ≤ c₁.ns.length + 3 ∧ cbEmit 5 acc k c.bits c.ns = cbEmit 5 acc 3 (c₁.bits + 8) c₁.ns) (fun c => c.bits) ⟨c₁.bits + 8, _, c₁.us, c₁.ns, c₁.n⟩ F₃ N₃ hf (by intro q hq; rw [List.mem_singleton.mp hq]; rfl) ⟨3, (by show c₁.bits + 8 < 5 * 3; omega), Nat.le_refl _, rfl⟩ ?_
    intro c₂ u₂ h₂ tk₂ hf₂ hP₂ F₄ N₄
    obtain ⟨k, hk1, hk2, hk3⟩ := hP₂
    dsimp only [kstB] at F₄
    walk_at "mine"
    · rename Fr _ _ _ _ => F₅
      rename News _ _ _ _ => N₅
      rename_i hge _ _ _
      rw [List.push_toArray] at N₅
      obtain ⟨k', rfl⟩ : ∃ k', k = k' + 1 := ⟨k - 1, by omega⟩
      have hge' : 5 ≤ c₂.bits := by omega
      rw [cbEmit, if_pos hge'] at hk3
      refine ksw_end ⟨c₂.bits - 5, _, c₂.us ++ [Value.int ((((acc >>> (c₂.bits - 5)) &&& ((1 <<< 5) - 1)) : Nat) : Int) _], c₂.ns ++ [(acc >>> (c₂.bits - 5)) &&& ((1 <<< 5) - 1)], c₂.n + 1⟩ F₅ N₅ (fun _ hp => hp) (natsAre_snoc hf₂) (by intro q hq; rw [List.mem_singleton.mp hq]; rfl) ?_ ⟨k', (by show c₂.bits - 5 < 5 * k'; omega), (by show (c₂.ns ++ [_]).length + k' ≤ _; rw [List.length_append]; show c₂.ns.length + 1 + k' ≤ _; omega), hk3⟩ (by show c₂.bits - 5 < c₂.bits; omega)
      intro z h2 h3
      have h4 := h2 _ (.head _)
      simp only [if_neg h4, List.contains_nil, Bool.false_eq_true, if_false]
    · rename Fr _ _ _ _ => F₅
      rename News _ _ _ _ => N₅
      rename_i hlt _
      obtain ⟨k', rfl⟩ : ∃ k', k = k' + 1 := ⟨k - 1, by omega⟩
      have hlt' : ¬ 5 ≤ c₂.bits := by omega
      rw [cbEmit, if_neg hlt'] at hk3
      refine kst_end (c := (⟨acc, c₂.bits, _, _, c₂.us, c₂.ns, c₂.n⟩ : CbV)) F₅ N₅ (fun p hp => by rw [List.mem_singleton.mp hp]; exact .head _) (fun p hp => .tail _ hp) rfl hf₂ (by intro q hq; rcases List.mem_cons.mp hq with rfl | hq; (· rfl); rw [List.mem_singleton.mp hq]; rfl) ?_ ⟨?_, (by show c₂.bits < 5; omega), ?_, ?_⟩
      · intro z h1 h2 h3
        have h4 := h2 _ (.head _)
        have h5 := h2 _ (.tail _ (.head _))
        simp only [if_neg h1, if_neg h4, if_neg h5, List.contains_nil, Bool.false_eq_true, if_false]
      · show (⟨acc, c₂.bits, c₂.ns⟩ : CbSt) = cbRun 8 5 ((pre ++ [((v : Nat) : Int)]).map Int.toNat)
        rw [List.map_append, List.map_cons, List.map_nil, Int.toNat_natCast, cbRun_snoc, ← hP1]
        unfold cbStep
        simp only [hAcc, ← hk3]
      · show acc < 4096
        rw [← hAcc]
        exact Nat.lt_of_le_of_lt Nat.and_le_right (by decide)
      · show c₂.ns.length ≤ 2 * (pre ++ [_]).length
        rw [List.length_append]
        show c₂.ns.length ≤ 2 * (pre.length + 1)
        omega
  · intro c₁ u h tk hf hP F₂ N₂
    obtain ⟨hP1, hP2, hP3, hP4⟩ := hP
    dsimp only [kstB] at F₂
    rw [toNat_map] at hP1
    walk_at "mine"
    · rename Fr _ _ _ _ => F₅
      rename News _ _ _ _ => N₅
      rename_i hb _ _
      rw [List.push_toArray] at N₅
      refine hret _ _ _ _ _ F₅.keep (N₅ _ (.head _)).2.2 (N₅ _ (.head _)).1 ?_
      have hb' : c₁.bits ≠ 0 := by omega
      rw [cb85, ← hP1, if_pos hb']
      exact natsAre_snoc hf
    · rename_i hb
      refine hret _ _ _ _ _ F₂.keep (N₂ _ (.head _)).2.2 (N₂ _ (.head _)).1 ?_
      have hb' : ¬ c₁.bits ≠ 0 := by omega
      rw [cb85, ← hP1, if_neg hb']
      exact hf

set_option maxRecDepth 100000 in
set_option maxHeartbeats 4000000 in
theorem cb58b {w : World} {p : Program} {loose : List Str} {mg mb : Str → Option Value} {s : Shared} {Q E : Value → Shared → Prop}
  (KX : (Mine.hd.heap_39 w.params).In s.heap) (T : TopRead p loose mg mb s.heap)
  {d : Addr} {tf tt : Tok} {vs : List Value} {ms : List Nat}
  (hok1 : (cbRun 5 8 ms).bits < 5) (hok2 : ((cbRun 5 8 ms).acc <<< (8 - (cbRun 5 8 ms).bits)) &&& ((1 <<< 8) - 1) = 0) (hd : s.heap.IsList d vs.toArray) (hi : NatsAre vs ms) (hdl : ms.length ≤ 500) (hdr : ∀ n ∈ ms, n < 32)
  (hret : ListBack s Q (cbRun 5 8 ms).out) :
  wpAny (model prog w) (lvl 900 9000) (call (.ref 126) [.ref d, .int 5 tf, .int 8 tt, .bool false]) Q E s := by
  k_dflt (refine' enter (binds := [(Str.ofString "data", Value.ref d), (Str.ofString "frombits", Value.int 5 tf), (Str.ofString "tobits", Value.int 8 tt), (Str.ofString "pad", Value.bool false)]) KX T.nolimit ?k6 ?k7 ?k8 ?k9 ?kB ?_ ?c2 ?c3 ?c4 ?c5; (case k6 => k_is); (case k7 => k_is); (case k8 => decide); (case k9 => exact binds_K KX rfl (by k_is) rfl rfl rfl); (case kB => exact locs rfl); (case c2 => rfl); (case c3 => rfl); (case c4 => rfl); (case c5 => decide))
  intro h₁ L tk F N
  simp only [List.reverse_cons, List.reverse_nil, List.nil_append, List.cons_append, bmap] at F
  (try dsimp only)
  (try k_fold)
  walk_at "mine"
  rename Fr _ _ _ _ => F₁
  rename News _ _ _ _ => N₁
  with_unfolding_all refine For_invVF F₁ rfl rfl ?_
  walk_at "mine"
  rename News _ _ _ _ => N₁
  refine kst_list (σ := CbV) (fun c => [(_, PySem.W.listOf c.us.toArray c.n)]) (fun c => [("acc", Value.int ((c.acc : Nat) : Int) c.ta), ("bits", Value.int ((c.bits : Nat) : Int) c.tb)]) (fun c => NatsAre c.us c.ns) [] (fun pre c => (⟨c.acc, c.bits, c.ns⟩ : CbSt) = cbRun 5 8 (pre.map Int.toNat) ∧ c.bits < 8 ∧ c.acc < 4096 ∧ c.ns.length ≤ 2 * pre.length) ⟨0, 0, _, _, [], [], 0⟩ rfl hd hi F₁ N₁ .nil (by intro q hq; rcases List.mem_cons.mp hq with rfl | hq; (· rfl); rw [List.mem_singleton.mp hq]; rfl) ⟨rfl, (by show (0 : Nat) < 8; decide), (by show (0 : Nat) < 4096; decide), Nat.le_refl _⟩ ?_ ?_
  · intro c₁ pre post n tn u h tk' own he hn hoff hf hP F₂ N₂
    obtain ⟨v, hv, rfl⟩ := List.mem_map.mp hn
    obtain ⟨hP1, hP2, hP3, hP4⟩ := hP
    dsimp only [kstB] at F₂
    have hv1 : v < 32 := hdr v hv
    have hv2 : v >>> 5 = 0 := by rw [Nat.shiftRight_eq_div_pow]; omega
    have hpl : pre.length < 500 := by
      have := congrArg List.length he
      simp only [List.length_map, List.length_append, List.length_cons] at this
      omega
    walk_at "mine"
    · exfalso
      omega
    rename Fr _ _ _ _ => F₃
    rename News _ _ _ _ => N₃
    generalize hAcc : ((c₁.acc <<< 5 ||| v) &&& ((1 <<< (5 + 8 - 1)) - 1)) = acc at F₃
    refine ksw_while (σ := CwV) (fun c => (_, PySem.W.listOf c.us.toArray c.n) :: own) (fun c => [("bits", Value.int ((c.bits : Nat) : Int) c.tb)]) (fun c => NatsAre c.us c.ns) [] (fun c => ∃ k, c.bits < 8 * k ∧ c.ns.length + k ≤ c₁.ns.length + 3 ∧ cbEmit 8 acc k c.bits c.ns = cbEmit 8 acc 3 (c₁.bits + 5) c₁.ns) (fun c => c.bits) ⟨c₁.bits + 5, _, c₁.us, c₁.ns, c₁.n⟩ F₃ N₃ hf (by intro q hq; rw [List.mem_singleton.mp hq]; rfl) ⟨3, (by show c₁.bits + 5 < 8 * 3; omega), Nat.le_refl _, rfl⟩ ?_
    intro c₂ u₂ h₂ tk₂ hf₂ hP₂ F₄ N₄
    obtain ⟨k, hk1, hk2, hk3⟩ := hP₂
    dsimp only [kstB] at F₄
    walk_at "mine"
    · rename Fr _ _ _ _ => F₅
      rename News _ _ _ _ => N₅
      rename_i hge _ _ _
      rw [List.push_toArray] at N₅
      obtain ⟨k', rfl⟩ : ∃ k', k = k' + 1 := ⟨k - 1, by omega⟩
      have hge' : 8 ≤ c₂.bits := by omega
      rw [cbEmit, if_pos hge'] at hk3
      refine ksw_end ⟨c₂.bits - 8, _, c₂.us ++ [Value.int ((((acc >>> (c₂.bits - 8)) &&& ((1 <<< 8) - 1)) : Nat) : Int) _], c₂.ns ++ [(acc >>> (c₂.bits - 8)) &&& ((1 <<< 8) - 1)], c₂.n + 1⟩ F₅ N₅ (fun _ hp => hp) (natsAre_snoc hf₂) (by intro q hq; rw [List.mem_singleton.mp hq]; rfl) ?_ ⟨k', (by show c₂.bits - 8 < 8 * k'; omega), (by show (c₂.ns ++ [_]).length + k' ≤ _; rw [List.length_append]; show c₂.ns.length + 1 + k' ≤ _; omega), hk3⟩ (by show c₂.bits - 8 < c₂.bits; omega)
      intro z h2 h3
      have h4 := h2 _ (.head _)
      simp only [if_neg h4, List.contains_nil, Bool.false_eq_true, if_false]
    · rename Fr _ _ _ _ => F₅
      rename News _ _ _ _ => N₅
      rename_i hlt _
      obtain ⟨k', rfl⟩ : ∃ k', k = k' + 1 := ⟨k - 1, by omega⟩
      have hlt' : ¬ 8 ≤ c₂.bits := by omega
      rw [cbEmit, if_neg hlt'] at hk3
      refine kst_end (c := (⟨acc, c₂.bits, _, _, c₂.us, c₂.ns, c₂.n⟩ : CbV)) F₅ N₅ (fun p hp => by rw [List.mem_singleton.mp hp]; exact .head _) (fun p hp => .tail _ hp) rfl hf₂ (by intro q hq; rcases List.mem_cons.mp hq with rfl | hq; (· rfl); rw [List.mem_singleton.mp hq]; rfl) ?_ ⟨?_, (by show c₂.bits < 8; omega), ?_, ?_⟩
      · intro z h1 h2 h3
        have h4 := h2 _ (.head _)
        have h5 := h2 _ (.tail _ (.head _))
        simp only [if_neg h1, if_neg h4, if_neg h5, List.contains_nil, Bool.false_eq_true, if_false]
      · show (⟨acc, c₂.bits, c₂.ns⟩ : CbSt) = cbRun 5 8 ((pre ++ [((v : Nat) : Int)]).map Int.toNat)
        rw [List.map_append, List.map_cons, List.map_nil, Int.toNat_natCast, cbRun_snoc, ← hP1]
        unfold cbStep
        simp only [hAcc, ← hk3]
      · show acc < 4096
        rw [← hAcc]
        exact Nat.lt_of_le_of_lt Nat.and_le_right (by decide)
      · show c₂.ns.length ≤ 2 * (pre ++ [_]).length
        rw [List.length_append]
        show c₂.ns.length ≤ 2 * (pre.length + 1)
        omega
  · intro c₁ u h tk hf hP F₂ N₂
    obtain ⟨hP1, hP2, hP3, hP4⟩ := hP
    dsimp only [kstB] at F₂
    rw [toNat_map] at hP1
    rw [← hP1] at hok1 hok2
    dsimp only at hok1 hok2
    walk_at "mine"
    · rename_i hq
      exact absurd (by rw [hok2]; rfl) hq
    · refine hret _ _ _ _ _ F₂.keep (N₂ _ (.head _)).2.2 (N₂ _ (.head _)).1 ?_
      rw [← hP1]
      exact hf
end
/-- a code object's table of codes: a place is not in it, or names an object -/
def MemoOk (l : List Value) : Prop := ∀ pos : Pos, codeAmong pos l = none ∨ ∃ c', codeAmong pos l = some (.ref c')
theorem memoOk_nil : MemoOk [] := fun _ => .inl rfl
theorem memoOk_snoc {l : List Value} {p : Pos} {c : Addr} (ht : TriplesOk l) (h : MemoOk l) : MemoOk (l ++ [rawInt p.line, rawInt p.col, .ref c]) := by
  intro pos
  replace h := h pos
  revert h
  fun_induction TriplesOk l with
  | case1 =>
    intro _
    simp only [List.nil_append, rawInt, codeAmong]
    split
    · exact .inr ⟨c, rfl⟩
    · exact .inl rfl
  | case2 a t b u x rest ih =>
    intro h
    simp only [List.cons_append, codeAmong] at h ⊢
    split
    · rename_i hc
      rw [if_pos hc] at h
      exact h
    · rename_i hc
      rw [if_neg hc] at h
      exact ih ht h
  | case3 l h1 h2 => exact ht.elim
def Memo (c P : Addr) (h : Heap) : Prop := ∃ ps, h.IsCode c P ps ∧ h.TableAt c P ps ∧ MemoOk ps.toList
theorem Memo.keeps {c P : Addr} {h h' : Heap} (M : Memo c P h) (k : ∀ b o, h.get? b = some o → h'.get? b = some o) : Memo c P h' :=
  let ⟨ps, a, b, d⟩ := M; ⟨ps, a.keeps k, b.keeps k, d⟩
theorem Memo.keeps2 {c P : Addr} {h h' : Heap} (M : Memo c P h) (k : ∀ o, h.get? c = some o → h'.get? c = some o) (k' : ∀ o, h.get? P = some o → h'.get? P = some o) : Memo c P h' := by
  obtain ⟨ps, a, ⟨⟨o1, vs1, e1, r1⟩, t⟩, d⟩ := M
  obtain ⟨o, vs, file, tf, flags, tg, inF, text, tt, op, a1, r1', r2, r3, r4, r5, r6, b1, r⟩ := a
  exact ⟨ps, ⟨o, vs, file, tf, flags, tg, inF, text, tt, op, k _ a1, r1', r2, r3, r4, r5, r6, k' _ b1, r⟩, ⟨⟨o1, vs1, k _ e1, r1⟩, k' _ t⟩, d⟩
theorem Memo.at {c P : Addr} {h : Heap} (M : Memo c P h) : ∃ ps, h.get? P = some { cls := .none, data := .fields ps } := let ⟨ps, _, t, _⟩ := M; ⟨ps, t.2⟩
theorem Memo.ne {c P : Addr} {h : Heap} (M : Memo c P h) : c ≠ P := by
  obtain ⟨_, ⟨_, _, _, _, _, _, _, _, _, _, _, _, _, _, _, _, _, _, _, _, x⟩, _, _⟩ := M
  exact x

section
variable {prog : Program} {w : World} {A : Around} {E : Value → Shared → Prop} {s : Shared} {env : Env}
/-- a generator that will hand on the same truth n times and touches nothing below N -/
def GenS (prog : Program) (w : World) (A : Around) (N : Nat) (a : Addr) (n : Nat) (b : Bool) (s : Shared) : Prop :=
  ∃ fp wr g St, WalksS prog w A.in4 a fp wr (GenOnlyQ g) n (fun _ y => y = .bool b) St ∧ St 0 s ∧ ∀ x ∈ wr, N ≤ x

theorem any_S {a : Addr} {n N : Nat} {Q : Value → Shared → Prop} (G : AllBare s.gens) (X : GenS prog w A N a n false s)
    (hQ : ∀ s', (∀ x o, x < N → s.heap.get? x = some o → s'.heap.get? x = some o) → AllBare s'.gens → s'.os = s.os → Q (.bool false) s') : wpAny (model prog w) A (call (.builtin "any") [.ref a]) Q E s := by
  obtain ⟨fp, wr, g, St, W, hst, hwr⟩ := X
  have W := W.in4_1
  have e : (List.range n).any (fun _ => false) = false := by simp
  refine call_any_walkS (W.self 0 _ _ _ hst ⟨a, _, _, _, _, _, _, fun _ => false, rfl, W, hst, (fun i v s Q E hv hQ => ?_), fun s' hm => ?_⟩)
  · subst hv
    exact wpAny_truthy_bool hQ
  · rw [e]
    exact hQ s' (fun x o hx q => hm.heap x o (fun hmem => Nat.lt_irrefl _ (Nat.lt_of_lt_of_le hx (hwr x hmem))) q) (G.movedS hm) hm.os
theorem all_S {a : Addr} {n N : Nat} {Q : Value → Shared → Prop} (G : AllBare s.gens) (X : GenS prog w A N a n true s)
    (hQ : ∀ s', (∀ x o, x < N → s.heap.get? x = some o → s'.heap.get? x = some o) → AllBare s'.gens → s'.os = s.os → Q (.bool true) s') : wpAny (model prog w) A (call (.builtin "all") [.ref a]) Q E s := by
  obtain ⟨fp, wr, g, St, W, hst, hwr⟩ := X
  have W := W.in4_1
  have e : (List.range n).all (fun _ => true) = true := by simp
  refine call_all_walkS (W.self 0 _ _ _ hst ⟨a, _, _, _, _, _, _, fun _ => true, rfl, W, hst, (fun i v s Q E hv hQ => ?_), fun s' hm => ?_⟩)
  · subst hv
    exact wpAny_truthy_bool hQ
  · rw [e]
    exact hQ s' (fun x o hx q => hm.heap x o (fun hmem => Nat.lt_irrefl _ (Nat.lt_of_lt_of_le hx (hwr x hmem))) q) (G.movedS hm) hm.os

def QEnd (b : Bool) (s₂ : Shared) (y : Value) (s₃ : Shared) : Prop := y = .bool b ∧ Keeps s₂ s₃
/-- what a generator expression over a text of plain signs asks where its text is known -/
def GenSrc (prog : Program) (w : World) (A : Around) (env : Env) (c P : Addr) (elt : Expr) (x : Str) (scope : Scope) (cl : List (Str × Addr)) (b : Bool) (Q : Value → Shared → Prop) (xv : Value) (s₁ : Shared) : Prop :=
  ∃ z t bm ob mg, xv = .str z t ∧ z.cps.all (· < 128) = true ∧ Memo c P s₁.heap ∧ AllBare s₁.gens ∧ s₁.heap.NoLimit ∧ BMod s₁.heap env.globals mg bm ob ∧
    (∀ (C : Addr) (code : Value) (A' : Around) (E' : Value → Shared → Prop) (i ch : Nat) (u : Tok) (s₂ : Shared) (m₂ : Str → Option Value), A'.handled = none → z.cps[i]? = some ch → s₂.heap.Ns C m₂ → m₂ x = some (.str ⟨#[ch]⟩ u) → s₁.heap.objs.size ≤ C →
      (∀ b o, b ≠ P → s₁.heap.get? b = some o → s₂.heap.get? b = some o) →
      wpAny (model prog w) A' (eval elt (genEnv scope cl C code builtinsNs env)) (QEnd b s₂) E' s₂) ∧
    (∀ a s₅, (∀ b o, b ≠ P → s₁.heap.get? b = some o → s₅.heap.get? b = some o) → Memo c P s₅.heap → AllBare s₅.gens → s₅.os = s₁.os → GenS prog w A s₁.heap.objs.size a z.cps.size b s₅ → Q (.ref a) s₅)

theorem genexp_S {elt iter : Expr} {x : Str} {px : Pos} {scope : Scope} {cl : List (Str × Addr)} {pos : Pos} {Q : Value → Shared → Prop} {c P : Addr} {b : Bool}
    (hcode : env.code = .ref c) (hh : A.handled = none) (hco : scope.isCoroutine = false) (hclos : closureFor scope env = pure cl) (hcell : ∀ y ∈ scope.names, y.2 ≠ .cell) (h0 : scope.names.lookup (".0" : Str) = some NameKind.local)
    (hx : scope.names.lookup x = some .local) (hkind : scope.kind = .function) (hroom : A.depth < recursionLimit)
    (h : wpAny (model prog w) A (eval iter env) (GenSrc prog w A env c P elt x scope cl b Q) E s)
    (hs : ∀ x, genFold iter env x = pure x) :
    wpAny (model prog w) A (eval (.GeneratorExp elt [⟨.Name x px, iter, [], 0⟩] scope pos) env) Q E s := by
  refine wpAny_GeneratorExp_walksQ hh hco hclos hcell h0 hx hkind hroom (wpAny_mono h (fun xv s₁ h₁' => ?_) fun _ _ e => e) hs
  obtain ⟨z, t, bm, ob, mg, rfl, ha, M, G, hlim, BM, hq, hQ⟩ := h₁'
  refine wpAny_pyIter_ascii ha ?_
  have up : ∀ b o, s₁.heap.get? b = some o → (s₁.heap.push { cls := .type "str_ascii_iterator", data := .fields #[.str z t, .int 0 0] }).get? b = some o := fun b o e => Heap.get?_push_of_some _ e
  refine ⟨hlim.keeps up, ?_⟩
  have hPlt : P < s₁.heap.objs.size := let ⟨_, e⟩ := M.at; Heap.lt_size e
  have hsz1 : (s₁.heap.push { cls := .type "str_ascii_iterator", data := .fields #[.str z t, .int 0 0] }).objs.size = s₁.heap.objs.size + 1 := Heap.size_push ..
  -- behind the code object, found or made
  have go : ∀ (code : Value) (h₃ : Heap) (tk₃ : Nat), (∀ b o, b ≠ P → (s₁.heap.push { cls := .type "str_ascii_iterator", data := .fields #[.str z t, .int 0 0] }).get? b = some o → h₃.get? b = some o) → s₁.heap.objs.size + 1 ≤ h₃.objs.size → Memo c P h₃ →
      wpAny (model prog w) A (builtinsFor env.globals env.builtins) (fun bi s₄ =>
        ∃ I fp wr n₀ P St₀ pz F, (Value.ref s₁.heap.objs.size) = .ref I ∧ (∀ A' : Around, A'.handled = none → Walks prog w A' I fp wr n₀ P St₀) ∧ St₀ 0 s₄.heap ∧ (∀ b ∈ fp, b < s₄.heap.objs.size) ∧ s₄.heap.NoLimit ∧ cStatics ∉ wr ∧
          (∀ href : Heap, (∀ b o, s₄.heap.get? b = some o → href.get? b = some o) →
            QuietGen prog w (genEnv scope cl s₄.heap.objs.size code bi env) x [] elt (List.range s₄.heap.objs.size) wr P pz F href) ∧
          (∀ a h₅ tk gs, gs.bare = true → s₄.heap.objs.size < a → h₅.objs.size = a + 1 → (∀ b o, s₄.heap.get? b = some o → h₅.get? b = some o) →
            WalksS prog w A.in4 a (a :: s₄.heap.objs.size :: List.range s₄.heap.objs.size) (s₄.heap.objs.size :: wr) (GenOnlyQ s₄.gens.size) (passing pz n₀ 0).length
              (fun j y => ∃ i, (passing pz n₀ 0)[j]? = some i ∧ F i y) (GenAt prog w A.in4 a s₄.gens.size s₄.heap.objs.size (List.range s₄.heap.objs.size) wr pz n₀ F) →
            GenAt prog w A.in4 a s₄.gens.size s₄.heap.objs.size (List.range s₄.heap.objs.size) wr pz n₀ F 0 { s₄ with gens := s₄.gens.push gs, toks := tk, heap := h₅ } →
            Q (.ref a) { s₄ with gens := s₄.gens.push gs, toks := tk, heap := h₅ })) E { s₁ with heap := h₃, toks := tk₃ } := by
    intro code h₃ tk₃ k₃ hsz₃ M₃
    have kk : ∀ b o, b ≠ P → s₁.heap.get? b = some o → h₃.get? b = some o := fun b o hb e => k₃ b o hb (up b o e)
    obtain ⟨ps, htP⟩ := M.at
    have notP : ∀ {b : Addr} {o : Obj}, s₁.heap.get? b = some o → o.data ≠ .fields ps → b ≠ P := fun e hd q => by
      rw [q, htP] at e; cases e; exact hd rfl
    have nsP : ∀ {b : Addr} {mm : Str → Option Value}, s₁.heap.Ns b mm → h₃.Ns b mm := fun n => by
      obtain ⟨o, es, ep, ho, hd, r⟩ := n
      exact ⟨o, es, ep, kk _ _ (notP ho (by rw [hd]; exact fun q => by cases q)) ho, hd, r⟩
    have bmP : h₃.get? bm = some ob := kk _ _ (notP BM.obj (by rw [BM.data]; exact fun q => by cases q)) BM.obj
    have hl₃ : h₃.NoLimit := by
      obtain ⟨mc, h1, h2⟩ := hlim
      exact ⟨mc, nsP h1, h2⟩
    refine wpAny_builtinsFor (nsP BM.ns) BM.name BM.ne bmP BM.cls BM.dict BM.data ?_
    have hcs : cStatics < s₁.heap.objs.size := let ⟨_, hn, _⟩ := hlim; hn.lt
    refine ⟨s₁.heap.objs.size, [s₁.heap.objs.size], [s₁.heap.objs.size], z.cps.size, SignAt z, (fun i h => h.IsStrIter s₁.heap.objs.size "str_ascii_iterator" z t i), (fun _ => true), (fun _ y => y = .bool b), rfl, (fun A' hA => Walks.strAscii hA _ z t), ?_, ?_, hl₃, ?_, ?_, ?_⟩
    · exact ⟨_, k₃ _ _ (Nat.ne_of_gt hPlt) (Heap.get?_push_size _ rfl), rfl, rfl⟩
    · intro b hb
      rw [List.mem_singleton.mp hb]
      exact hsz₃
    · intro hm
      rw [List.mem_singleton.mp hm] at hcs
      exact Nat.lt_irrefl _ hcs
    · intro href hhref
      refine ⟨fun A' E' i v s₂ m₂ hA hP hn hm hk => wpAny_tests_nil ⟨rfl, _, _, rfl, fun _ _ e => e⟩, fun A' E' i v s₂ m₂ hA hP _ hn hm hk => ?_⟩
      obtain ⟨ch, u, hc, rfl⟩ := hP
      refine hq h₃.objs.size code A' E' i ch u s₂ m₂ hA hc hn hm (Nat.le_of_succ_le hsz₃) fun b o hb e => ?_
      refine hk b (List.mem_range.mpr (Nat.lt_of_lt_of_le (Heap.lt_size e) (Nat.le_of_succ_le hsz₃))) ?_ o (hhref b o (kk b o hb e))
      intro hm'
      rw [List.mem_singleton.mp hm'] at e
      exact Nat.lt_irrefl _ (Heap.lt_size e)
    · intro a h₅ tk gs hgb hag hsz₅ hk₅ W hat
      have hall : passing (fun _ : Nat => true) z.cps.size 0 = List.range z.cps.size := by simp [passing]
      rw [hall, List.length_range] at W
      refine hQ a _ (fun b o hb e => hk₅ b o (kk b o hb e)) (M₃.keeps hk₅) (G.push hgb) rfl ⟨_, _, _, _, W.imp (fun j y hy => ?_), hat, fun y hy => ?_⟩
      · obtain ⟨i, _, q⟩ := hy
        exact q
      · rcases List.mem_cons.mp hy with rfl | hy
        · exact Nat.le_of_succ_le hsz₃
        · rw [List.mem_singleton.mp hy]
          exact Nat.le_refl _
  obtain ⟨ps, hIC, hTA, hok⟩ := M
  have hIC' := hIC.keeps up
  have hTA' := hTA.keeps up
  rcases hok pos with hnf | ⟨c', hf⟩
  · refine wpAny_genexprCodeX hcode hIC' hTA' hnf fun c' h₃ tk₃ hx₃ hge hlt hcode₃ _ htab₃ _ => ?_
    refine go _ h₃ tk₃ hx₃ (by have := Nat.lt_of_le_of_lt hge hlt; rw [hsz1] at this; omega) ⟨_, hcode₃, htab₃, ?_⟩
    obtain ⟨_, _, _, _, _, _, _, _, _, _, _, _, _, _, _, _, _, _, _, htr, _⟩ := hIC
    have := memoOk_snoc (p := pos) (c := c') htr hok
    simpa using this
  · refine wpAny_genexprCode_hit hcode hIC' hf ?_
    exact go _ _ _ (fun b o _ e => e) (by rw [hsz1]; exact Nat.le_refl _) ⟨ps, hIC', hTA', hok⟩
end
/-- the two tables of codes that the calls may fill -/
abbrev hid (h : Heap) : Heap := hideAll h [45, 115]
structure Later (s s' : Shared) : Prop where
  heap : ∀ b o, b ≠ 45 → b ≠ 115 → s.heap.get? b = some o → s'.heap.get? b = some o
  os : s'.os = s.os
structure Inv (mg : Str → Option Value) (bm : Addr) (ob : Obj) (s : Shared) : Prop where
  m1 : Memo 47 45 s.heap
  m2 : Memo 117 115 s.heap
  bare : AllBare s.gens
  bmod : BMod s.heap mainGlobals mg bm ob
theorem Later.refl (s : Shared) : Later s s := ⟨fun _ _ _ _ e => e, rfl⟩
theorem Later.trans {s s' s'' : Shared} (a : Later s s') (b : Later s' s'') : Later s s'' := ⟨fun x o h1 h2 e => b.heap x o h1 h2 (a.heap x o h1 h2 e), b.os.trans a.os⟩
theorem Later.of_stays {s : Shared} {h' : Heap} {tk' : Nat} (st : s.heap.StaysIn h') : Later s { s with heap := h', toks := tk' } := ⟨fun x o _ _ e => st x o e, rfl⟩
section
variable {mg : Str → Option Value} {bm : Addr} {ob : Obj} {s s' : Shared}
theorem BMod.keep {h h' : Heap} {g : Addr} (x : BMod h g mg bm ob) (k : ∀ b o, h.get? b = some o → h'.get? b = some o) : BMod h' g mg bm ob :=
  ⟨x.ns.keeps k, x.name, x.ne, k _ _ x.obj, x.cls, x.dict, x.data⟩
theorem Inv.of_stays {h' : Heap} {tk' : Nat} (I : Inv mg bm ob s) (st : s.heap.StaysIn h') : Inv mg bm ob { s with heap := h', toks := tk' } :=
  ⟨I.m1.keeps st, I.m2.keeps st, I.bare, BMod.keep I.bmod st⟩
theorem Inv.ne45 (I : Inv mg bm ob s) {b : Addr} {o : Obj} (e : s.heap.get? b = some o) (hd : ∀ ps, o.data ≠ .fields ps) : b ≠ 45 := by
  rintro rfl
  obtain ⟨ps, h⟩ := I.m1.at
  rw [h] at e; cases e
  exact hd ps rfl
theorem Inv.ne115 (I : Inv mg bm ob s) {b : Addr} {o : Obj} (e : s.heap.get? b = some o) (hd : ∀ ps, o.data ≠ .fields ps) : b ≠ 115 := by
  rintro rfl
  obtain ⟨ps, h⟩ := I.m2.at
  rw [h] at e; cases e
  exact hd ps rfl
theorem hid_get (I : Inv mg bm ob s) {b : Addr} {o : Obj} (e : s.heap.get? b = some o) (hd : ∀ ps, o.data ≠ .fields ps) : (hid s.heap).get? b = some o :=
  hideAll_get [45, 115] e fun hm => by
    rcases List.mem_cons.mp hm with h | hm
    · exact I.ne45 e hd h
    · exact I.ne115 e hd (List.mem_singleton.mp hm)
theorem ns_hid (I : Inv mg bm ob s) {a : Addr} {m : Str → Option Value} (n : s.heap.Ns a m) : (hid s.heap).Ns a m := by
  obtain ⟨o, es, ep, ho, hd, r⟩ := n
  exact ⟨o, es, ep, hid_get I ho (by rw [hd]; intro ps q; cases q), hd, r⟩
theorem top_hid {p : Program} {loose : List Str} {mb : Str → Option Value} {mg' : Str → Option Value} (I : Inv mg bm ob s) (T : TopRead p loose mg' mb s.heap) : TopRead p loose mg' mb (hid s.heap) := by
  obtain ⟨mc, h1, h2⟩ := T.nolimit
  exact ⟨ns_hid I T.g, ns_hid I T.b, ⟨mc, ns_hid I h1, h2⟩, T.builtins, T.free⟩
theorem in_hid {K : Frag} {h : Heap} (X : K.In h) (h1 : K.lookup 45 = none) (h2 : K.lookup 115 = none) : K.In (hid h) := fun a o e =>
  hideAll_get [45, 115] (X a o e) fun hm => by
    rcases List.mem_cons.mp hm with q | hm
    · rw [q, h1] at e; cases e
    · rw [List.mem_singleton.mp hm, h2] at e; cases e
theorem fr_hid {h₀ h : Heap} {L : Addr} {m : Str → Option Value} (F : Fr h₀ L h m) : Fr (hid h₀) L h m :=
  ⟨F.ns, fun b o e => F.keep b o (of_hideAll _ e), by rw [hideAll_size]; exact F.above⟩
theorem hid_ne {h : Heap} {b : Addr} {o : Obj} (e : (hid h).get? b = some o) : b ≠ 45 ∧ b ≠ 115 := by
  refine ⟨fun q => ?_, fun q => ?_⟩
  · rw [q, hideAll_none [45, 115] (by decide)] at e; cases e
  · rw [q, hideAll_none [45, 115] (by decide)] at e; cases e
theorem hid_keep {h : Heap} (l : Later s s') (k : ∀ b o, (hid h).get? b = some o → s.heap.get? b = some o) : ∀ b o, (hid h).get? b = some o → s'.heap.get? b = some o := fun b o e =>
  l.heap b o (hid_ne e).1 (hid_ne e).2 (k b o e)
theorem fr_later {h₀ : Heap} {L : Addr} {m : Str → Option Value} (I : Inv mg bm ob s) (F : Fr (hid h₀) L s.heap m) (l : Later s s') : Fr (hid h₀) L s'.heap m := by
  refine ⟨?_, hid_keep l F.keep, F.above⟩
  obtain ⟨o, es, ep, ho, hd, r⟩ := F.ns
  have hd' : ∀ ps, o.data ≠ .fields ps := by rw [hd]; intro ps q; cases q
  exact ⟨o, es, ep, l.heap _ _ (I.ne45 ho hd') (I.ne115 ho hd') ho, hd, r⟩
theorem news_later {h₀ : Heap} {L : Addr} {news : List (Addr × Obj)} (I : Inv mg bm ob s) (N : News h₀ L s.heap news) (l : Later s s') (hn : ∀ p ∈ news, ∀ ps, p.2.data ≠ .fields ps) : News h₀ L s'.heap news := fun p hp =>
  ⟨l.heap _ _ (I.ne45 (N p hp).1 (hn p hp)) (I.ne115 (N p hp).1 (hn p hp)) (N p hp).1, (N p hp).2⟩
theorem news_addL {h₀ : Heap} {L r : Addr} {o : Obj} {m : Str → Option Value} {news : List (Addr × Obj)} (F : Fr h₀ L s.heap m) (N' : News h₀ L s'.heap news) (hn : s.heap.get? r = none) (hl : s'.heap.get? r = some o) : News h₀ L s'.heap ((r, o) :: news) := by
  intro p hp
  rcases List.mem_cons.mp hp with rfl | hp
  · refine ⟨hl, ?_, ?_⟩
    · rintro rfl
      obtain ⟨oL, _, _, hL, _⟩ := F.ns
      rw [hL] at hn; cases hn
    · cases q : h₀.get? r with
      | none => rfl
      | some o' => rw [F.keep _ _ q] at hn; cases hn
  · exact N' p hp
/-- what is new over the hidden heap is new over the heap -/
theorem new_of_hid {h : Heap} {b : Addr} {o : Obj} (I : Inv mg bm ob s') (e : s'.heap.get? b = some o) (hd : ∀ ps, o.data ≠ .fields ps) (hn : (hid h).get? b = none) : h.get? b = none := by
  cases q : h.get? b with
  | none => rfl
  | some x =>
    have := hideAll_get [45, 115] q fun hm => by
      rcases List.mem_cons.mp hm with z | hm
      · exact I.ne45 e hd z
      · exact I.ne115 e hd (List.mem_singleton.mp hm)
    rw [hn] at this; cases this
theorem isList_hid {l : Addr} {vs : Array Value} (I : Inv mg bm ob s) (h : s.heap.IsList l vs) : (hid s.heap).IsList l vs := by
  obtain ⟨o, e, hc, n, hd⟩ := h
  exact ⟨o, hid_get I e (by rw [hd]; intro ps q; cases q), hc, n, hd⟩
theorem genS_new {N : Nat} {h : Heap} (hN : h.objs.size ≤ N) : ∀ b o, (hid h).get? b = some o → b < N := fun b o e => Nat.lt_of_lt_of_le (by have := Heap.lt_size e; rwa [hideAll_size] at this) hN
theorem inv_gen45 {s₁ s₂ s₃ : Shared} (I : Inv mg bm ob s₁) (kk : ∀ b o, b ≠ 45 → s₁.heap.get? b = some o → s₂.heap.get? b = some o) (M : Memo 47 45 s₂.heap) (o2 : s₂.os = s₁.os)
    (k : ∀ x o, x < s₁.heap.objs.size → s₂.heap.get? x = some o → s₃.heap.get? x = some o) (G : AllBare s₃.gens) (o3 : s₃.os = s₂.os) : Later s₁ s₃ ∧ Inv mg bm ob s₃ := by
  have hb : ∀ b o, b ≠ 45 → s₁.heap.get? b = some o → s₃.heap.get? b = some o := fun b o h e => k b o (Heap.lt_size e) (kk b o h e)
  have hlt : ∀ {c P : Addr}, Memo c P s₁.heap → c < s₁.heap.objs.size ∧ P < s₁.heap.objs.size := fun m => by
    obtain ⟨_, _, ⟨⟨_, _, e, _⟩, t⟩, _⟩ := m
    exact ⟨Heap.lt_size e, Heap.lt_size t⟩
  refine ⟨⟨fun b o h _ e => hb b o h e, o3.trans o2⟩, ?_, ?_, G, ?_⟩
  · exact M.keeps2 (fun o e => k _ _ (hlt I.m1).1 e) (fun o e => k _ _ (hlt I.m1).2 e)
  · exact I.m2.keeps2 (fun o e => hb _ _ (by decide) e) (fun o e => hb _ _ (by decide) e)
  · have B := I.bmod
    obtain ⟨o, es, ep, ho, hd, r⟩ := B.ns
    exact ⟨⟨o, es, ep, hb _ _ (by decide) ho, hd, r⟩, B.name, B.ne, hb _ _ (I.ne45 B.obj (by rw [B.data]; intro ps q; cases q)) B.obj, B.cls, B.dict, B.data⟩
theorem inv_gen115 {s₁ s₂ s₃ : Shared} (I : Inv mg bm ob s₁) (kk : ∀ b o, b ≠ 115 → s₁.heap.get? b = some o → s₂.heap.get? b = some o) (M : Memo 117 115 s₂.heap) (o2 : s₂.os = s₁.os)
    (k : ∀ x o, x < s₁.heap.objs.size → s₂.heap.get? x = some o → s₃.heap.get? x = some o) (G : AllBare s₃.gens) (o3 : s₃.os = s₂.os) : Later s₁ s₃ ∧ Inv mg bm ob s₃ := by
  have hb : ∀ b o, b ≠ 115 → s₁.heap.get? b = some o → s₃.heap.get? b = some o := fun b o h e => k b o (Heap.lt_size e) (kk b o h e)
  have hlt : ∀ {c P : Addr}, Memo c P s₁.heap → c < s₁.heap.objs.size ∧ P < s₁.heap.objs.size := fun m => by
    obtain ⟨_, _, ⟨⟨_, _, e, _⟩, t⟩, _⟩ := m
    exact ⟨Heap.lt_size e, Heap.lt_size t⟩
  refine ⟨⟨fun b o _ h e => hb b o h e, o3.trans o2⟩, ?_, ?_, G, ?_⟩
  · exact I.m1.keeps2 (fun o e => hb _ _ (by decide) e) (fun o e => hb _ _ (by decide) e)
  · exact M.keeps2 (fun o e => k _ _ (hlt I.m2).1 e) (fun o e => k _ _ (hlt I.m2).2 e)
  · have B := I.bmod
    obtain ⟨o, es, ep, ho, hd, r⟩ := B.ns
    exact ⟨⟨o, es, ep, hb _ _ (by decide) ho, hd, r⟩, B.name, B.ne, hb _ _ (I.ne115 B.obj (by rw [B.data]; intro ps q; cases q)) B.obj, B.cls, B.dict, B.data⟩
end
/-- a heap cut down to its first places -/
def cut (h : Heap) (n : Nat) : Heap := ⟨h.objs.extract 0 n, h.life⟩
theorem cut_at (h : Heap) (n b : Nat) (hb : b < n) : (cut h n).objs[b]? = h.objs[b]? := by
  show (h.objs.extract 0 n)[b]? = _
  rw [Array.getElem?_extract]
  by_cases hs : b < h.objs.size
  · rw [if_pos (by omega), Nat.zero_add]
  · rw [if_neg (by omega), Array.getElem?_eq_none (by omega)]
theorem of_cut {h : Heap} {n : Nat} {b : Addr} {o : Obj} (e : (cut h n).get? b = some o) : h.get? b = some o := by
  have hb : b < (cut h n).objs.size := Heap.lt_size e
  have hb' : b < n := Nat.lt_of_lt_of_le hb (by simp [cut]; omega)
  unfold Heap.get? at e ⊢
  rw [cut_at h n b hb'] at e
  exact e
theorem in_cut {h : Heap} {n : Nat} {b : Addr} {o : Obj} (e : h.get? b = some o) (hb : b < n) : (cut h n).get? b = some o := by
  unfold Heap.get? at e ⊢
  rw [cut_at h n b hb]
  exact e
theorem cut_size (h : Heap) (n : Nat) : (cut h n).objs.size ≤ n := by simp [cut]; omega
section
variable {mg : Str → Option Value} {bm : Addr} {ob : Obj} {s s' : Shared}
theorem Later.of_keep (k : ∀ b o, s.heap.get? b = some o → s'.heap.get? b = some o) (o : s'.os = s.os) : Later s s' := ⟨fun x o _ _ e => k x o e, o⟩
theorem Inv.of_keep (I : Inv mg bm ob s) (k : ∀ b o, s.heap.get? b = some o → s'.heap.get? b = some o) (g : s'.gens = s.gens) : Inv mg bm ob s' :=
  ⟨I.m1.keeps k, I.m2.keeps k, g ▸ I.bare, BMod.keep I.bmod k⟩
theorem Memo.lt {c P : Addr} {h : Heap} (m : Memo c P h) : c < h.objs.size ∧ P < h.objs.size := by
  obtain ⟨_, _, ⟨⟨_, _, e, _⟩, t⟩, _⟩ := m
  exact ⟨Heap.lt_size e, Heap.lt_size t⟩
theorem mem_gone {h : Heap} {n : Nat} {b : Addr} {o : Obj} (e : h.get? b = some o) : b ∉ (List.range n).filter (fun b => (h.get? b).isNone) := by
  intro hm
  have := (List.mem_filter.mp hm).2
  rw [e] at this
  cases this
theorem rebase (I : Inv mg bm ob s) (l : Later s s') (I' : Inv mg bm ob s') : ∃ B : Heap, (∀ b o, B.get? b = some o → s'.heap.get? b = some o) ∧ B.objs.size ≤ s.heap.objs.size ∧ Later s { s' with heap := B } ∧ Inv mg bm ob { s' with heap := B } ∧ ∀ b, s.heap.get? b = none → B.get? b = none := by
  let gone := (List.range s.heap.objs.size).filter (fun b => (s.heap.get? b).isNone)
  have into : ∀ {b : Addr} {o o' : Obj}, s.heap.get? b = some o → s'.heap.get? b = some o' → (hideAll (cut s'.heap s.heap.objs.size) gone).get? b = some o' := fun e e' =>
    hideAll_get gone (in_cut e' (Heap.lt_size e)) (mem_gone e)
  refine ⟨hideAll (cut s'.heap s.heap.objs.size) gone, fun b o e => of_cut (of_hideAll _ e), by rw [hideAll_size]; exact cut_size _ _, ⟨fun b o h1 h2 e => into e (l.heap b o h1 h2 e), l.os⟩, ?_, ?_⟩
  · refine ⟨?_, ?_, I'.bare, ?_⟩
    · obtain ⟨_, _, ⟨⟨_, _, e, _⟩, t⟩, _⟩ := I.m1
      exact I'.m1.keeps2 (fun o q => into e q) (fun o q => into t q)
    · obtain ⟨_, _, ⟨⟨_, _, e, _⟩, t⟩, _⟩ := I.m2
      exact I'.m2.keeps2 (fun o q => into e q) (fun o q => into t q)
    · have B := I'.bmod
      obtain ⟨o, es, ep, ho, hd, r⟩ := B.ns
      obtain ⟨o', _, _, ho', _⟩ := I.bmod.ns
      exact ⟨⟨o, es, ep, into ho' ho, hd, r⟩, B.name, B.ne, into I.bmod.obj B.obj, B.cls, B.dict, B.data⟩
  · intro b hb
    by_cases hs : b < s.heap.objs.size
    · exact hideAll_none gone (List.mem_filter.mpr ⟨List.mem_range.mpr hs, by rw [hb]; rfl⟩)
    · cases q : (hideAll (cut s'.heap s.heap.objs.size) gone).get? b with
      | none => rfl
      | some o =>
        have := Heap.lt_size q
        rw [hideAll_size] at this
        exact absurd (Nat.lt_of_lt_of_le this (cut_size s'.heap s.heap.objs.size)) hs
/-- what is new over the base is new over the heap of before -/
theorem new_later {B : Heap} {s₀ : Shared} (I' : Inv mg bm ob s') (l : Later s { s₀ with heap := B }) {b : Addr} {o : Obj} (e : s'.heap.get? b = some o) (hd : ∀ ps, o.data ≠ .fields ps) (hn : B.get? b = none) : s.heap.get? b = none := by
  cases q : s.heap.get? b with
  | none => rfl
  | some x =>
    have := l.heap b x (I'.ne45 e hd) (I'.ne115 e hd) q
    have h : B.get? b = some x := this
    rw [hn] at h; cases h
theorem ns_later (I : Inv mg bm ob s) (l : Later s s') {a : Addr} {m : Str → Option Value} (n : s.heap.Ns a m) : s'.heap.Ns a m := by
  obtain ⟨o, es, ep, ho, hd, r⟩ := n
  have hd' : ∀ ps, o.data ≠ .fields ps := by rw [hd]; intro ps q; cases q
  exact ⟨o, es, ep, l.heap _ _ (I.ne45 ho hd') (I.ne115 ho hd') ho, hd, r⟩
theorem top_later {p : Program} {loose : List Str} {mb : Str → Option Value} {mg' : Str → Option Value} (I : Inv mg bm ob s) (l : Later s s') (T : TopRead p loose mg' mb s.heap) : TopRead p loose mg' mb s'.heap := by
  obtain ⟨mc, h1, h2⟩ := T.nolimit
  exact ⟨ns_later I l T.g, ns_later I l T.b, ⟨mc, ns_later I l h1, h2⟩, T.builtins, T.free⟩
theorem in_later {K : Frag} (X : K.In s.heap) (h1 : K.lookup 45 = none) (h2 : K.lookup 115 = none) (l : Later s s') : K.In s'.heap := fun a o e =>
  l.heap _ _ (fun q => by rw [q, h1] at e; cases e) (fun q => by rw [q, h2] at e; cases e) (X a o e)
theorem isList_later {a : Addr} {vs : Array Value} (I : Inv mg bm ob s) (l : Later s s') (h : s.heap.IsList a vs) : s'.heap.IsList a vs := by
  obtain ⟨o, e, hc, n, hd⟩ := h
  have hd' : ∀ ps, o.data ≠ .fields ps := by rw [hd]; intro ps q; cases q
  exact ⟨o, l.heap _ _ (I.ne45 e hd') (I.ne115 e hd') e, hc, n, hd⟩
/-- the call's own frame over the new base -/
theorem fr_re {B B' : Heap} {L : Addr} {m : Str → Option Value} (I : Inv mg bm ob s) (F : Fr B L s.heap m) (l : Later s s') (hk : ∀ b o, B'.get? b = some o → s'.heap.get? b = some o) (hsz : B'.objs.size ≤ B.objs.size) : Fr B' L s'.heap m :=
  ⟨ns_later I l F.ns, hk, Nat.le_trans hsz F.above⟩
end
abbrev tupo (vs : List Value) : Obj := Obj.mk (Value.type "tuple") none (Data.seq vs.toArray) #[]
/-- what the first maker's reader of texts hands back -/
def Dec1 (x : Str) (ds : List Nat) (s : Shared) (v : Value) (s' : Shared) : Prop :=
  ∃ a, v = .ref a ∧ s.heap.get? a = none ∧
    ((pm (hrpX x.cps.toList ++ ds) = 1 ∧ ∃ l t vs, s'.heap.get? a = some (tupo [.str x t, .ref l]) ∧ s.heap.get? l = none ∧ s'.heap.get? l = some (PySem.W.listOf vs.toArray 0) ∧ NatsAre vs (ds.take (ds.length - 6))) ∨
     (pm (hrpX x.cps.toList ++ ds) ≠ 1 ∧ s'.heap.get? a = some (tupo [.none, .none])))
/-- what the second maker's reader of texts hands back -/
def Dec2 (x : Str) (ds : List Nat) (s : Shared) (v : Value) (s' : Shared) : Prop :=
  ∃ a, v = .ref a ∧ s.heap.get? a = none ∧
    ((∃ e : Int, ((pm (hrpX x.cps.toList ++ ds) = 1 ∧ e = 1) ∨ (pm (hrpX x.cps.toList ++ ds) ≠ 1 ∧ pm (hrpX x.cps.toList ++ ds) = 734539939 ∧ e = 2)) ∧
      ∃ te l t vs, s'.heap.get? a = some (tupo [.int e te, .str x t, .ref l]) ∧ s.heap.get? l = none ∧ s'.heap.get? l = some (PySem.W.listOf vs.toArray 0) ∧ NatsAre vs (ds.take (ds.length - 6))) ∨
     (pm (hrpX x.cps.toList ++ ds) ≠ 1 ∧ pm (hrpX x.cps.toList ++ ds) ≠ 734539939 ∧ s'.heap.get? a = some (tupo [.none, .none, .none])))
theorem fin_new {mg : Str → Option Value} {bm : Addr} {ob : Obj} {s s₈ : Shared} {B h : Heap} {L b : Addr} {o : Obj} {m : Str → Option Value} {news : List (Addr × Obj)} (IB : Inv mg bm ob { s₈ with heap := B }) (F : Fr B L h m) (l : Later s { s₈ with heap := B }) (N : News B L h news) (hm : (b, o) ∈ news) (hd : ∀ ps, o.data ≠ .fields ps) : s.heap.get? b = none :=
  new_later (s₀ := s₈) (IB.of_keep (s' := { s₈ with heap := h }) F.keep rfl) l (N _ hm).1 hd (N _ hm).2.2
theorem nats_take {ws : List Value} {ds : List Nat} (h : IntsAre ws (List.take ((List.map (fun n : Nat => (n : Int)) ds).length - 6) (List.map (fun n : Nat => (n : Int)) ds))) : NatsAre ws (ds.take (ds.length - 6)) := by
  show IntsAre ws (List.map (fun n : Nat => (n : Int)) (ds.take (ds.length - 6)))
  rw [List.map_take]
  simpa using h
theorem Assign_ListComp_F {prog : Program} {w : World} {A : Around} {E : Value → Shared → Prop} {s : Shared} {h₀ hh : Heap} {L : Addr} {m : Str → Option Value} {env : Env} (F₀ : Fr h₀ L hh m) {elt iter : Expr} {x y : Str} {px py : Pos} {scope : Scope} {cl : List (Str × Addr)} {pos spos : Pos} {Q : Flow → Shared → Prop} (hLe : env.locals = L)
    (hsw : swapsWith (.ListComp elt [⟨.Name x px, iter, [], 0⟩] scope pos) (some (.Name y py)) spos.line env = pure true)
    (hclos : closureFor scope env = pure cl) (hcell : ∀ z ∈ scope.names, z.2 ≠ .cell) (hkind : scope.kind = .function)
    (hnames : ∀ z ∈ scope.names, z.2 = .local → scope.names.lookup z.1 = some .local) (hx : scope.names.lookup x = some .local)
    (hy : env.kindOf y = some .local) (hp : (env.scope.kind == .class || (env.scope.kind == .module && env.locals != env.globals)) = false)
    (h : wpAny (model prog w) A (eval iter env) (SrcS prog w A h₀ L m env elt x scope cl (fun s₂ => LCg.FinA h₀ L m s₂ y Q)) E s)
    (hs : ∀ x, foldedSetIterable iter env x = pure x := by intro _; rfl) :
    wpAny (model prog w) A (exec (.Assign [.Name y py] (.ListComp elt [⟨.Name x px, iter, [], 0⟩] scope pos) spos) env) Q E s :=
  Assign_ListComp_S hLe hsw hclos hcell hkind hnames hx hy hp h hs
theorem cs_at2 {ds : List Nat} {i ch : Nat} (h : (⟨(csOf ds).toArray⟩ : Str).cps[i]? = some ch) : ∃ d, ds[i]? = some d ∧ ch = CS.getD d 0 := by
  have h' : (csOf ds)[i]? = some ch := by simpa using h
  rw [List.getElem?_map] at h'
  obtain ⟨d, hd, rfl⟩ := Option.map_eq_some_iff.mp h'
  exact ⟨d, hd, rfl⟩
theorem cs_ascii (ds : List Nat) (hd : ∀ n ∈ ds, n < 32) : (⟨(csOf ds).toArray⟩ : Str).cps.all (· < 128) = true := by
  have h : ∀ n, n < 32 → CS.getD n 0 < 128 := by decide +kernel
  simp
  exact fun n hn => h n (hd n hn)
theorem cs_at {ds : List Nat} {i ch : Nat} (h : (⟨(csOf ds).toArray⟩ : Str).cps[i]? = some ch) : ∃ d, d ∈ ds ∧ ch = CS.getD d 0 := by
  have h' : (csOf ds)[i]? = some ch := by simpa using h
  rw [List.getElem?_map] at h'
  obtain ⟨d, hd, rfl⟩ := Option.map_eq_some_iff.mp h'
  exact ⟨d, List.mem_of_getElem? hd, rfl⟩

set_option maxRecDepth 100000 in
set_option maxHeartbeats 1000000 in
theorem bde1 {w : World} {p : Program} {loose : List Str} {mg mb : Str → Option Value} {s : Shared} {Q E : Value → Shared → Prop}
  (KX : (Mine.hd.heap_39 w.params).In s.heap) (T : TopRead p loose mg mb s.heap)
  {bm : Addr} {ob : Obj} {z x : Str} {t : Tok} {ds : List Nat}
  (hlow : Txt.lower z = bstr x ds) (hcase : Txt.lower z = z ∨ Txt.upper z = z) (hd : ∀ n ∈ ds, n < 32) (hx1 : 1 ≤ x.length ∧ x.length ≤ 5) (hxa : x.cps.all (· < 128) = true) (hds : 7 ≤ ds.length ∧ ds.length ≤ 84) (I : Inv mg bm ob s) (hlen : z.length ≤ 5592405) (ha : z.cps.all (· < 128) = true) (hz1 : ∀ (i c : Nat), z.cps[i]? = some c → 33 ≤ c ∧ c ≤ 126)
  (hret : ∀ (v : Value) (s' : Shared), Later s s' → Inv mg bm ob s' → Dec1 x ds s v s' → Q v s') :
  wpAny (model prog w) (lvl 700 7000) (call (.ref 48) [.str z t]) Q E s := by
  k_dflt (refine' enter (binds := [(Str.ofString "bech", Value.str z t)]) KX T.nolimit ?k6 ?k7 ?k8 ?k9 ?kB ?_ ?c2 ?c3 ?c4 ?c5; (case k6 => k_is); (case k7 => k_is); (case k8 => decide); (case k9 => exact BindsTo.of_eq rfl); (case kB => exact locs rfl); (case c2 => rfl); (case c3 => rfl); (case c4 => rfl); (case c5 => decide))
  intro h₁ L tk F N
  simp only [List.reverse_cons, List.reverse_nil, List.nil_append, List.cons_append, bmap] at F
  (try dsimp only)
  (try k_fold)
  have I₁ := I.of_stays (tk' := tk) F.keep
  have KXh := in_hid KX (by rfl) (by rfl)
  have Th := top_hid I T
  replace N : News s.heap L h₁ [] := News.nil
  walk_at "mine"
  refine genexp_S (c := 47) (P := 45) (b := false) rfl rfl rfl (by with_unfolding_all rfl) (by decide) (by rfl) (by rfl) (by rfl) (Nat.lt_of_succ_le (Nat.le_of_ble_eq_true rfl)) ?_ (by intro _; with_unfolding_all rfl)
  walk_at "mine"
  refine ⟨z, t, bm, ob, mg, rfl, ha, I₁.m1, I₁.bare, T.nolimit.keeps F.keep, I₁.bmod, ?_, ?_⟩
  · intro C code A' E' i ch u s₂ m₂ hA hc hn hm hC hk
    have F₂ : Fr (hid s.heap) C s₂.heap m₂ := ⟨hn, fun b o e => hk b o (hid_ne e).1 (F.keep b o (of_hideAll _ e)), by rw [hideAll_size]; exact Nat.le_trans F.above (Nat.le_trans (Nat.le_of_lt F.ns.lt) hC)⟩
    have hch := hz1 i ch hc
    clear F N
    walk_at "mine"
    exact ⟨by congr 1; exact decide_eq_false (by omega), _, _, rfl, fun _ _ e => e⟩
  intro a s₂ kk M₂ G₂ os₂ X
  have F₂ : Fr (hid s.heap) L s₂.heap _ := fr_later I₁ (fr_hid F) ⟨fun b o h _ e => kk b o h e, os₂⟩
  have N₂ : News (hid s.heap) L s₂.heap [] := News.nil
  have hF := F
  clear F N
  walk_at "mine"
  refine any_S G₂ X ?_
  intro s₃ k₃ G₃ os₃
  obtain ⟨l₃, I₃⟩ := inv_gen45 I₁ kk M₂ os₂ k₃ G₃ os₃
  obtain ⟨B₃, hk₃, hz₃, lB₃, IB₃, hB₃⟩ := rebase I ((Later.of_stays hF.keep).trans l₃) I₃
  have F : Fr B₃ L s₃.heap _ := fr_re I₁ hF l₃ hk₃ hz₃
  have N : News B₃ L s₃.heap [] := News.nil
  have KB : (Mine.hd.heap_39 w.params).In B₃ := in_later KX (by rfl) (by rfl) lB₃
  have TB : TopRead p loose mg mb B₃ := top_later I lB₃ T
  clear k₃ X kk M₂ G₂ F₂ N₂ KXh Th hF l₃ I₃ I₁ KX T
  walk_at "mine"
  refine SCL.lower hlen fun _ => ?_
  walk_at "mine"
  · refine SCL.upper hlen fun _ => ?_
    walk_at "mine"
    · have q1 := ‹(Txt.lower z != z) = true›
      have q2 := ‹(Txt.upper z != z) = true›
      rcases hcase with q | q
      · rw [q] at q1; simp at q1
      · rw [q] at q2; simp at q2
    · clear hcase
      refine SCL.lower hlen fun _ => ?_
      rw [hlow]
      walk_at "mine"
      refine SC.rfind ?_
      rw [rfind_bstr x ds hd]
      walk_at "mine"
      refine SBL.len (by rw [bstr_len]; omega) ?_
      rw [bstr_len]
      walk_at "mine"
      refine genexp_S (c := 47) (P := 45) (b := true) rfl rfl rfl (by with_unfolding_all rfl) (by decide) (by rfl) (by rfl) (by rfl) (Nat.lt_of_succ_le (Nat.le_of_ble_eq_true rfl)) ?_ (by intro _; with_unfolding_all rfl)
      walk_at "mine"
      rename Fr _ _ _ _ => F₅
      rename News _ _ _ _ => N₅
      refine slice_strN_sn F₅ N₅ (fun h₆ t₆ k₆ F₆ N₆ => ?_) (hsz := by rw [bstr_len, PySem.sizeLine_eq]; omega)
      rw [slice_tail]
      have I₆ := IB₃.of_keep (s' := { heap := h₆, gens := s₃.gens, drawn := s₃.drawn, toks := k₆, os := s₃.os }) F₆.keep rfl
      have KXh := in_hid KB (by rfl) (by rfl)
      have Th := top_hid IB₃ TB
      refine ⟨_, _, bm, ob, mg, rfl, cs_ascii ds hd, I₆.m1, I₆.bare, TB.nolimit.keeps F₆.keep, I₆.bmod, ?_, ?_⟩
      · intro C code A' E' i ch u s₂ m₂ hA hc hn hm hC hk
        have F₂ : Fr (hid B₃) C s₂.heap m₂ := ⟨hn, fun b o e => hk b o (hid_ne e).1 (F₆.keep b o (of_hideAll _ e)), by rw [hideAll_size]; exact Nat.le_trans F₆.above (Nat.le_trans (Nat.le_of_lt F₆.ns.lt) hC)⟩
        obtain ⟨d, hd', rfl⟩ := cs_at hc
        have hd32 := hd d hd'
        try clear F₅
        try clear F₆
        try clear N₅
        try clear N₆
        try clear N
        try clear F
        walk_at "mine"
        exact ⟨congrArg Value.bool (contains_CS d hd32), _, _, rfl, fun _ _ e => e⟩
      intro a s₇ kk M₇ G₇ os₇ X
      have F₇ : Fr (hid B₃) L s₇.heap _ := fr_later I₆ (fr_hid F₆) ⟨fun b o h _ e => kk b o h e, os₇⟩
      have N₇ : News (hid B₃) L s₇.heap [] := News.nil
      try clear F₅
      try clear N₅
      try clear N₆
      try clear N
      try clear F
      have hF₆ := F₆
      clear F₆
      walk_at "mine"
      refine all_S G₇ X ?_
      intro s₈ k₈ G₈ os₈
      obtain ⟨l₈, I₈⟩ := inv_gen45 I₆ kk M₇ os₇ k₈ G₈ os₈
      have l68 := (Later.of_keep (s := { s₃ with heap := B₃ }) (s' := { heap := h₆, gens := s₃.gens, drawn := s₃.drawn, toks := k₆, os := s₃.os }) hF₆.keep rfl).trans l₈
      obtain ⟨B₈, hk₈, hz₈, lB₈, IB₈, hB₈⟩ := rebase IB₃ l68 I₈
      have F : Fr B₈ L s₈.heap _ := fr_re I₆ hF₆ l₈ hk₈ hz₈
      have N : News B₈ L s₈.heap [] := News.nil
      have KC : (Mine.hd.heap_39 w.params).In B₈ := in_later (s := { s₃ with heap := B₃ }) KB (by rfl) (by rfl) lB₈
      have TC : TopRead p loose mg mb B₈ := top_later IB₃ lB₈ TB
      have l08 : Later s { s₈ with heap := B₈ } := lB₃.trans lB₈
      clear KXh Th F₇ N₇ X kk M₇ G₇ k₈ G₈ I₆ hF₆ l₈ I₈ l68 KB TB IB₃ lB₃ lB₈
      walk_at "mine"
      rename Fr _ _ _ _ => F₉
      rename News _ _ _ _ => N₉
      refine slice_strN_ns F₉ N₉ (fun h₁₀ t₁₀ k₁₀ F₁₀ N₁₀ => ?_) (hsz := by rw [bstr_len, PySem.sizeLine_eq]; omega)
      rw [slice_name]
      walk_at "mine"
      rename Fr _ _ _ _ => F₁₁
      refine Assign_ListComp_F F₁₁ rfl (by with_unfolding_all rfl) (by with_unfolding_all rfl) (by decide) (by rfl) (by decide) (by rfl) (by rfl) (by rfl) ?_
      walk_at "mine"
      rename Fr _ _ _ _ => F₁₁
      rename News _ _ _ _ => N₁₁
      refine slice_strN_sn F₁₁ N₁₁ (fun h₁₂ t₁₂ k₁₂ F₁₂ N₁₂ => ?_) (hsz := by rw [bstr_len, PySem.sizeLine_eq]; omega)
      rw [slice_tail]
      refine ⟨_, _, _, rfl, rfl, cs_ascii ds hd, (by rw [PySem.sizeLine_eq]; simp; omega), F₁₂, N₁₂, ?_⟩
      rintro s₂ ⟨g, rfl⟩
      refine rest_of (G := fun i v => ∃ t, v = Value.int ((ds.getD i 0 : Nat) : Int) t) trivial ?_ ?_
      · intro i v I oI C oC D m₂ ys h tk E' hi hP hC hx F N off ne
        obtain ⟨c, u, hc, rfl⟩ := hP
        obtain ⟨d, hdi, rfl⟩ := cs_at2 hc
        have hd32 := hd d (List.mem_of_getElem? hdi)
        walk_at "mine"
        refine SC.find ?_
        rw [find_CS d hd32]
        walk_at "mine"
        refine ⟨_, _, rfl, fun _ _ e => e, ?_⟩
        rw [show ds.getD i 0 = d from by simp [List.getD, hdi]]
        exact ⟨_, rfl⟩
      · intro ys hl hG D h tk F' N' off
        have hy := natsAre_of ys ds (by simpa using hl) hG
        walk_at "mine"
        rename Fr _ _ _ _ => F₁₃
        rename News _ _ _ _ => N₁₃
        refine weaken (ver1 (KC.keeps F₁₃.keep) (TC.keeps F₁₃.keep) hxa (Nat.le_trans hx1.2 (by decide)) (news_list N₁₃ (.head _)) hy (by omega) ?_) rfl (Nat.le_of_ble_eq_true rfl) rfl rfl (Nat.le_of_ble_eq_true rfl)
        intro h₁₄ tk₁₄ st
        have F₁₄ := F₁₃.keeps st
        have N₁₄ := N₁₃.grown st
        walk_at "mine"
        · rename Fr _ _ _ _ => Fz
          rename News _ _ _ _ => Nz
          have hI := ‹IntsAre _ (List.take _ _)›
          refine hret _ _ (l08.trans (Later.of_keep Fz.keep rfl)) (IB₈.of_keep Fz.keep rfl) ⟨_, rfl, fin_new IB₈ Fz l08 Nz (.head _) (by intro ps q; cases q), .inl ⟨by omega, _, _, _, (Nz _ (.head _)).1, fin_new IB₈ Fz l08 Nz (.tail _ (.head _)) (by intro ps q; cases q), (Nz _ (.tail _ (.head _))).1, nats_take hI⟩⟩
        · rename Fr _ _ _ _ => Fz
          rename News _ _ _ _ => Nz
          refine hret _ _ (l08.trans (Later.of_keep Fz.keep rfl)) (IB₈.of_keep Fz.keep rfl) ⟨_, rfl, fin_new IB₈ Fz l08 Nz (.head _) (by intro ps q; cases q), .inr ⟨by omega, (Nz _ (.head _)).1⟩⟩
  · clear hcase
    refine SCL.lower hlen fun _ => ?_
    rw [hlow]
    walk_at "mine"
    refine SC.rfind ?_
    rw [rfind_bstr x ds hd]
    walk_at "mine"
    refine SBL.len (by rw [bstr_len]; omega) ?_
    rw [bstr_len]
    walk_at "mine"
    refine genexp_S (c := 47) (P := 45) (b := true) rfl rfl rfl (by with_unfolding_all rfl) (by decide) (by rfl) (by rfl) (by rfl) (Nat.lt_of_succ_le (Nat.le_of_ble_eq_true rfl)) ?_ (by intro _; with_unfolding_all rfl)
    walk_at "mine"
    rename Fr _ _ _ _ => F₅
    rename News _ _ _ _ => N₅
    refine slice_strN_sn F₅ N₅ (fun h₆ t₆ k₆ F₆ N₆ => ?_) (hsz := by rw [bstr_len, PySem.sizeLine_eq]; omega)
    rw [slice_tail]
    have I₆ := IB₃.of_keep (s' := { heap := h₆, gens := s₃.gens, drawn := s₃.drawn, toks := k₆, os := s₃.os }) F₆.keep rfl
    have KXh := in_hid KB (by rfl) (by rfl)
    have Th := top_hid IB₃ TB
    refine ⟨_, _, bm, ob, mg, rfl, cs_ascii ds hd, I₆.m1, I₆.bare, TB.nolimit.keeps F₆.keep, I₆.bmod, ?_, ?_⟩
    · intro C code A' E' i ch u s₂ m₂ hA hc hn hm hC hk
      have F₂ : Fr (hid B₃) C s₂.heap m₂ := ⟨hn, fun b o e => hk b o (hid_ne e).1 (F₆.keep b o (of_hideAll _ e)), by rw [hideAll_size]; exact Nat.le_trans F₆.above (Nat.le_trans (Nat.le_of_lt F₆.ns.lt) hC)⟩
      obtain ⟨d, hd', rfl⟩ := cs_at hc
      have hd32 := hd d hd'
      try clear F₅
      try clear F₆
      try clear N₅
      try clear N₆
      try clear N
      try clear F
      walk_at "mine"
      exact ⟨congrArg Value.bool (contains_CS d hd32), _, _, rfl, fun _ _ e => e⟩
    intro a s₇ kk M₇ G₇ os₇ X
    have F₇ : Fr (hid B₃) L s₇.heap _ := fr_later I₆ (fr_hid F₆) ⟨fun b o h _ e => kk b o h e, os₇⟩
    have N₇ : News (hid B₃) L s₇.heap [] := News.nil
    try clear F₅
    try clear N₅
    try clear N₆
    try clear N
    try clear F
    have hF₆ := F₆
    clear F₆
    walk_at "mine"
    refine all_S G₇ X ?_
    intro s₈ k₈ G₈ os₈
    obtain ⟨l₈, I₈⟩ := inv_gen45 I₆ kk M₇ os₇ k₈ G₈ os₈
    have l68 := (Later.of_keep (s := { s₃ with heap := B₃ }) (s' := { heap := h₆, gens := s₃.gens, drawn := s₃.drawn, toks := k₆, os := s₃.os }) hF₆.keep rfl).trans l₈
    obtain ⟨B₈, hk₈, hz₈, lB₈, IB₈, hB₈⟩ := rebase IB₃ l68 I₈
    have F : Fr B₈ L s₈.heap _ := fr_re I₆ hF₆ l₈ hk₈ hz₈
    have N : News B₈ L s₈.heap [] := News.nil
    have KC : (Mine.hd.heap_39 w.params).In B₈ := in_later (s := { s₃ with heap := B₃ }) KB (by rfl) (by rfl) lB₈
    have TC : TopRead p loose mg mb B₈ := top_later IB₃ lB₈ TB
    have l08 : Later s { s₈ with heap := B₈ } := lB₃.trans lB₈
    clear KXh Th F₇ N₇ X kk M₇ G₇ k₈ G₈ I₆ hF₆ l₈ I₈ l68 KB TB IB₃ lB₃ lB₈
    walk_at "mine"
    rename Fr _ _ _ _ => F₉
    rename News _ _ _ _ => N₉
    refine slice_strN_ns F₉ N₉ (fun h₁₀ t₁₀ k₁₀ F₁₀ N₁₀ => ?_) (hsz := by rw [bstr_len, PySem.sizeLine_eq]; omega)
    rw [slice_name]
    walk_at "mine"
    rename Fr _ _ _ _ => F₁₁
    refine Assign_ListComp_F F₁₁ rfl (by with_unfolding_all rfl) (by with_unfolding_all rfl) (by decide) (by rfl) (by decide) (by rfl) (by rfl) (by rfl) ?_
    walk_at "mine"
    rename Fr _ _ _ _ => F₁₁
    rename News _ _ _ _ => N₁₁
    refine slice_strN_sn F₁₁ N₁₁ (fun h₁₂ t₁₂ k₁₂ F₁₂ N₁₂ => ?_) (hsz := by rw [bstr_len, PySem.sizeLine_eq]; omega)
    rw [slice_tail]
    refine ⟨_, _, _, rfl, rfl, cs_ascii ds hd, (by rw [PySem.sizeLine_eq]; simp; omega), F₁₂, N₁₂, ?_⟩
    rintro s₂ ⟨g, rfl⟩
    refine rest_of (G := fun i v => ∃ t, v = Value.int ((ds.getD i 0 : Nat) : Int) t) trivial ?_ ?_
    · intro i v I oI C oC D m₂ ys h tk E' hi hP hC hx F N off ne
      obtain ⟨c, u, hc, rfl⟩ := hP
      obtain ⟨d, hdi, rfl⟩ := cs_at2 hc
      have hd32 := hd d (List.mem_of_getElem? hdi)
      walk_at "mine"
      refine SC.find ?_
      rw [find_CS d hd32]
      walk_at "mine"
      refine ⟨_, _, rfl, fun _ _ e => e, ?_⟩
      rw [show ds.getD i 0 = d from by simp [List.getD, hdi]]
      exact ⟨_, rfl⟩
    · intro ys hl hG D h tk F' N' off
      have hy := natsAre_of ys ds (by simpa using hl) hG
      walk_at "mine"
      rename Fr _ _ _ _ => F₁₃
      rename News _ _ _ _ => N₁₃
      refine weaken (ver1 (KC.keeps F₁₃.keep) (TC.keeps F₁₃.keep) hxa (Nat.le_trans hx1.2 (by decide)) (news_list N₁₃ (.head _)) hy (by omega) ?_) rfl (Nat.le_of_ble_eq_true rfl) rfl rfl (Nat.le_of_ble_eq_true rfl)
      intro h₁₄ tk₁₄ st
      have F₁₄ := F₁₃.keeps st
      have N₁₄ := N₁₃.grown st
      walk_at "mine"
      · rename Fr _ _ _ _ => Fz
        rename News _ _ _ _ => Nz
        have hI := ‹IntsAre _ (List.take _ _)›
        refine hret _ _ (l08.trans (Later.of_keep Fz.keep rfl)) (IB₈.of_keep Fz.keep rfl) ⟨_, rfl, fin_new IB₈ Fz l08 Nz (.head _) (by intro ps q; cases q), .inl ⟨by omega, _, _, _, (Nz _ (.head _)).1, fin_new IB₈ Fz l08 Nz (.tail _ (.head _)) (by intro ps q; cases q), (Nz _ (.tail _ (.head _))).1, nats_take hI⟩⟩
      · rename Fr _ _ _ _ => Fz
        rename News _ _ _ _ => Nz
        refine hret _ _ (l08.trans (Later.of_keep Fz.keep rfl)) (IB₈.of_keep Fz.keep rfl) ⟨_, rfl, fin_new IB₈ Fz l08 Nz (.head _) (by intro ps q; cases q), .inr ⟨by omega, (Nz _ (.head _)).1⟩⟩

set_option maxRecDepth 100000 in
set_option maxHeartbeats 1000000 in
theorem bde2 {w : World} {p : Program} {loose : List Str} {mg mb : Str → Option Value} {s : Shared} {Q E : Value → Shared → Prop}
  (KX : (Mine.hd.heap_39 w.params).In s.heap) (T : TopRead p loose mg mb s.heap)
  {bm : Addr} {ob : Obj} {z x : Str} {t : Tok} {ds : List Nat}
  (hlow : Txt.lower z = bstr x ds) (hcase : Txt.lower z = z ∨ Txt.upper z = z) (hd : ∀ n ∈ ds, n < 32) (hx1 : 1 ≤ x.length ∧ x.length ≤ 5) (hxa : x.cps.all (· < 128) = true) (hds : 7 ≤ ds.length ∧ ds.length ≤ 84) (I : Inv mg bm ob s) (hlen : z.length ≤ 5592405) (ha : z.cps.all (· < 128) = true) (hz1 : ∀ (i c : Nat), z.cps[i]? = some c → 33 ≤ c ∧ c ≤ 126)
  (hret : ∀ (v : Value) (s' : Shared), Later s s' → Inv mg bm ob s' → Dec2 x ds s v s' → Q v s') :
  wpAny (model prog w) (lvl 700 7000) (call (.ref 118) [.str z t]) Q E s := by
  k_dflt (refine' enter (binds := [(Str.ofString "bech", Value.str z t)]) KX T.nolimit ?k6 ?k7 ?k8 ?k9 ?kB ?_ ?c2 ?c3 ?c4 ?c5; (case k6 => k_is); (case k7 => k_is); (case k8 => decide); (case k9 => exact BindsTo.of_eq rfl); (case kB => exact locs rfl); (case c2 => rfl); (case c3 => rfl); (case c4 => rfl); (case c5 => decide))
  intro h₁ L tk F N
  simp only [List.reverse_cons, List.reverse_nil, List.nil_append, List.cons_append, bmap] at F
  (try dsimp only)
  (try k_fold)
  have I₁ := I.of_stays (tk' := tk) F.keep
  have KXh := in_hid KX (by rfl) (by rfl)
  have Th := top_hid I T
  replace N : News s.heap L h₁ [] := News.nil
  walk_at "mine"
  refine genexp_S (c := 117) (P := 115) (b := false) rfl rfl rfl (by with_unfolding_all rfl) (by decide) (by rfl) (by rfl) (by rfl) (Nat.lt_of_succ_le (Nat.le_of_ble_eq_true rfl)) ?_ (by intro _; with_unfolding_all rfl)
  walk_at "mine"
  refine ⟨z, t, bm, ob, mg, rfl, ha, I₁.m2, I₁.bare, T.nolimit.keeps F.keep, I₁.bmod, ?_, ?_⟩
  · intro C code A' E' i ch u s₂ m₂ hA hc hn hm hC hk
    have F₂ : Fr (hid s.heap) C s₂.heap m₂ := ⟨hn, fun b o e => hk b o (hid_ne e).2 (F.keep b o (of_hideAll _ e)), by rw [hideAll_size]; exact Nat.le_trans F.above (Nat.le_trans (Nat.le_of_lt F.ns.lt) hC)⟩
    have hch := hz1 i ch hc
    clear F N
    walk_at "mine"
    exact ⟨by congr 1; exact decide_eq_false (by omega), _, _, rfl, fun _ _ e => e⟩
  intro a s₂ kk M₂ G₂ os₂ X
  have F₂ : Fr (hid s.heap) L s₂.heap _ := fr_later I₁ (fr_hid F) ⟨fun b o _ h e => kk b o h e, os₂⟩
  have N₂ : News (hid s.heap) L s₂.heap [] := News.nil
  have hF := F
  clear F N
  walk_at "mine"
  refine any_S G₂ X ?_
  intro s₃ k₃ G₃ os₃
  obtain ⟨l₃, I₃⟩ := inv_gen115 I₁ kk M₂ os₂ k₃ G₃ os₃
  obtain ⟨B₃, hk₃, hz₃, lB₃, IB₃, hB₃⟩ := rebase I ((Later.of_stays hF.keep).trans l₃) I₃
  have F : Fr B₃ L s₃.heap _ := fr_re I₁ hF l₃ hk₃ hz₃
  have N : News B₃ L s₃.heap [] := News.nil
  have KB : (Mine.hd.heap_39 w.params).In B₃ := in_later KX (by rfl) (by rfl) lB₃
  have TB : TopRead p loose mg mb B₃ := top_later I lB₃ T
  clear k₃ X kk M₂ G₂ F₂ N₂ KXh Th hF l₃ I₃ I₁ KX T
  walk_at "mine"
  refine SCL.lower hlen fun _ => ?_
  walk_at "mine"
  · refine SCL.upper hlen fun _ => ?_
    walk_at "mine"
    · have q1 := ‹(Txt.lower z != z) = true›
      have q2 := ‹(Txt.upper z != z) = true›
      rcases hcase with q | q
      · rw [q] at q1; simp at q1
      · rw [q] at q2; simp at q2
    · clear hcase
      refine SCL.lower hlen fun _ => ?_
      rw [hlow]
      walk_at "mine"
      refine SC.rfind ?_
      rw [rfind_bstr x ds hd]
      walk_at "mine"
      refine SBL.len (by rw [bstr_len]; omega) ?_
      rw [bstr_len]
      walk_at "mine"
      refine SBL.len (by rw [bstr_len]; omega) ?_
      rw [bstr_len]
      walk_at "mine"
      refine genexp_S (c := 117) (P := 115) (b := true) rfl rfl rfl (by with_unfolding_all rfl) (by decide) (by rfl) (by rfl) (by rfl) (Nat.lt_of_succ_le (Nat.le_of_ble_eq_true rfl)) ?_ (by intro _; with_unfolding_all rfl)
      walk_at "mine"
      rename Fr _ _ _ _ => F₅
      rename News _ _ _ _ => N₅
      refine slice_strN_sn F₅ N₅ (fun h₆ t₆ k₆ F₆ N₆ => ?_) (hsz := by rw [bstr_len, PySem.sizeLine_eq]; omega)
      rw [slice_tail]
      have I₆ := IB₃.of_keep (s' := { heap := h₆, gens := s₃.gens, drawn := s₃.drawn, toks := k₆, os := s₃.os }) F₆.keep rfl
      have KXh := in_hid KB (by rfl) (by rfl)
      have Th := top_hid IB₃ TB
      refine ⟨_, _, bm, ob, mg, rfl, cs_ascii ds hd, I₆.m2, I₆.bare, TB.nolimit.keeps F₆.keep, I₆.bmod, ?_, ?_⟩
      · intro C code A' E' i ch u s₂ m₂ hA hc hn hm hC hk
        have F₂ : Fr (hid B₃) C s₂.heap m₂ := ⟨hn, fun b o e => hk b o (hid_ne e).2 (F₆.keep b o (of_hideAll _ e)), by rw [hideAll_size]; exact Nat.le_trans F₆.above (Nat.le_trans (Nat.le_of_lt F₆.ns.lt) hC)⟩
        obtain ⟨d, hd', rfl⟩ := cs_at hc
        have hd32 := hd d hd'
        try clear F₅
        try clear F₆
        try clear N₅
        try clear N₆
        try clear N
        try clear F
        walk_at "mine"
        exact ⟨congrArg Value.bool (contains_CS d hd32), _, _, rfl, fun _ _ e => e⟩
      intro a s₇ kk M₇ G₇ os₇ X
      have F₇ : Fr (hid B₃) L s₇.heap _ := fr_later I₆ (fr_hid F₆) ⟨fun b o _ h e => kk b o h e, os₇⟩
      have N₇ : News (hid B₃) L s₇.heap [] := News.nil
      try clear F₅
      try clear N₅
      try clear N₆
      try clear N
      try clear F
      have hF₆ := F₆
      clear F₆
      walk_at "mine"
      refine all_S G₇ X ?_
      intro s₈ k₈ G₈ os₈
      obtain ⟨l₈, I₈⟩ := inv_gen115 I₆ kk M₇ os₇ k₈ G₈ os₈
      have l68 := (Later.of_keep (s := { s₃ with heap := B₃ }) (s' := { heap := h₆, gens := s₃.gens, drawn := s₃.drawn, toks := k₆, os := s₃.os }) hF₆.keep rfl).trans l₈
      obtain ⟨B₈, hk₈, hz₈, lB₈, IB₈, hB₈⟩ := rebase IB₃ l68 I₈
      have F : Fr B₈ L s₈.heap _ := fr_re I₆ hF₆ l₈ hk₈ hz₈
      have N : News B₈ L s₈.heap [] := News.nil
      have KC : (Mine.hd.heap_39 w.params).In B₈ := in_later (s := { s₃ with heap := B₃ }) KB (by rfl) (by rfl) lB₈
      have TC : TopRead p loose mg mb B₈ := top_later IB₃ lB₈ TB
      have l08 : Later s { s₈ with heap := B₈ } := lB₃.trans lB₈
      clear KXh Th F₇ N₇ X kk M₇ G₇ k₈ G₈ I₆ hF₆ l₈ I₈ l68 KB TB IB₃ lB₃ lB₈
      walk_at "mine"
      rename Fr _ _ _ _ => F₉
      rename News _ _ _ _ => N₉
      refine slice_strN_ns F₉ N₉ (fun h₁₀ t₁₀ k₁₀ F₁₀ N₁₀ => ?_) (hsz := by rw [bstr_len, PySem.sizeLine_eq]; omega)
      rw [slice_name]
      walk_at "mine"
      rename Fr _ _ _ _ => F₁₁
      refine Assign_ListComp_F F₁₁ rfl (by with_unfolding_all rfl) (by with_unfolding_all rfl) (by decide) (by rfl) (by decide) (by rfl) (by rfl) (by rfl) ?_
      walk_at "mine"
      rename Fr _ _ _ _ => F₁₁
      rename News _ _ _ _ => N₁₁
      refine slice_strN_sn F₁₁ N₁₁ (fun h₁₂ t₁₂ k₁₂ F₁₂ N₁₂ => ?_) (hsz := by rw [bstr_len, PySem.sizeLine_eq]; omega)
      rw [slice_tail]
      refine ⟨_, _, _, rfl, rfl, cs_ascii ds hd, (by rw [PySem.sizeLine_eq]; simp; omega), F₁₂, N₁₂, ?_⟩
      rintro s₂ ⟨g, rfl⟩
      refine rest_of (G := fun i v => ∃ t, v = Value.int ((ds.getD i 0 : Nat) : Int) t) trivial ?_ ?_
      · intro i v I oI C oC D m₂ ys h tk E' hi hP hC hx F N off ne
        obtain ⟨c, u, hc, rfl⟩ := hP
        obtain ⟨d, hdi, rfl⟩ := cs_at2 hc
        have hd32 := hd d (List.mem_of_getElem? hdi)
        walk_at "mine"
        refine SC.find ?_
        rw [find_CS d hd32]
        walk_at "mine"
        refine ⟨_, _, rfl, fun _ _ e => e, ?_⟩
        rw [show ds.getD i 0 = d from by simp [List.getD, hdi]]
        exact ⟨_, rfl⟩
      · intro ys hl hG D h tk F' N' off
        have hy := natsAre_of ys ds (by simpa using hl) hG
        walk_at "mine"
        rename Fr _ _ _ _ => F₁₃
        rename News _ _ _ _ => N₁₃
        refine weaken (ver2 (KC.keeps F₁₃.keep) (TC.keeps F₁₃.keep) hxa (Nat.le_trans hx1.2 (by decide)) (news_list N₁₃ (.head _)) hy (by omega) ?_) rfl (Nat.le_of_ble_eq_true rfl) rfl rfl (Nat.le_of_ble_eq_true rfl)
        intro ev h₁₄ tk₁₄ st hev
        have F₁₄ := F₁₃.keeps st
        have N₁₄ := N₁₃.grown st
        rcases hev with ⟨hp, te, rfl⟩ | ⟨hp1, hp, te, rfl⟩ | ⟨hp1, hp, rfl⟩
        · walk_at "mine"
          rename Fr _ _ _ _ => Fz
          rename News _ _ _ _ => Nz
          have hI := ‹IntsAre _ (List.take _ _)›
          refine hret _ _ (l08.trans (Later.of_keep Fz.keep rfl)) (IB₈.of_keep Fz.keep rfl) ⟨_, rfl, fin_new IB₈ Fz l08 Nz (.head _) (by intro ps q; cases q), .inl ⟨_, .inl ⟨hp, rfl⟩, _, _, _, _, (Nz _ (.head _)).1, fin_new IB₈ Fz l08 Nz (.tail _ (.head _)) (by intro ps q; cases q), (Nz _ (.tail _ (.head _))).1, nats_take hI⟩⟩
        · walk_at "mine"
          rename Fr _ _ _ _ => Fz
          rename News _ _ _ _ => Nz
          have hI := ‹IntsAre _ (List.take _ _)›
          refine hret _ _ (l08.trans (Later.of_keep Fz.keep rfl)) (IB₈.of_keep Fz.keep rfl) ⟨_, rfl, fin_new IB₈ Fz l08 Nz (.head _) (by intro ps q; cases q), .inl ⟨_, .inr ⟨hp1, hp, rfl⟩, _, _, _, _, (Nz _ (.head _)).1, fin_new IB₈ Fz l08 Nz (.tail _ (.head _)) (by intro ps q; cases q), (Nz _ (.tail _ (.head _))).1, nats_take hI⟩⟩
        · walk_at "mine"
          rename Fr _ _ _ _ => Fz
          rename News _ _ _ _ => Nz
          refine hret _ _ (l08.trans (Later.of_keep Fz.keep rfl)) (IB₈.of_keep Fz.keep rfl) ⟨_, rfl, fin_new IB₈ Fz l08 Nz (.head _) (by intro ps q; cases q), .inr ⟨hp1, hp, (Nz _ (.head _)).1⟩⟩
  · clear hcase
    refine SCL.lower hlen fun _ => ?_
    rw [hlow]
    walk_at "mine"
    refine SC.rfind ?_
    rw [rfind_bstr x ds hd]
    walk_at "mine"
    refine SBL.len (by rw [bstr_len]; omega) ?_
    rw [bstr_len]
    walk_at "mine"
    refine SBL.len (by rw [bstr_len]; omega) ?_
    rw [bstr_len]
    walk_at "mine"
    refine genexp_S (c := 117) (P := 115) (b := true) rfl rfl rfl (by with_unfolding_all rfl) (by decide) (by rfl) (by rfl) (by rfl) (Nat.lt_of_succ_le (Nat.le_of_ble_eq_true rfl)) ?_ (by intro _; with_unfolding_all rfl)
    walk_at "mine"
    rename Fr _ _ _ _ => F₅
    rename News _ _ _ _ => N₅
    refine slice_strN_sn F₅ N₅ (fun h₆ t₆ k₆ F₆ N₆ => ?_) (hsz := by rw [bstr_len, PySem.sizeLine_eq]; omega)
    rw [slice_tail]
    have I₆ := IB₃.of_keep (s' := { heap := h₆, gens := s₃.gens, drawn := s₃.drawn, toks := k₆, os := s₃.os }) F₆.keep rfl
    have KXh := in_hid KB (by rfl) (by rfl)
    have Th := top_hid IB₃ TB
    refine ⟨_, _, bm, ob, mg, rfl, cs_ascii ds hd, I₆.m2, I₆.bare, TB.nolimit.keeps F₆.keep, I₆.bmod, ?_, ?_⟩
    · intro C code A' E' i ch u s₂ m₂ hA hc hn hm hC hk
      have F₂ : Fr (hid B₃) C s₂.heap m₂ := ⟨hn, fun b o e => hk b o (hid_ne e).2 (F₆.keep b o (of_hideAll _ e)), by rw [hideAll_size]; exact Nat.le_trans F₆.above (Nat.le_trans (Nat.le_of_lt F₆.ns.lt) hC)⟩
      obtain ⟨d, hd', rfl⟩ := cs_at hc
      have hd32 := hd d hd'
      try clear F₅
      try clear F₆
      try clear N₅
      try clear N₆
      try clear N
      try clear F
      walk_at "mine"
      exact ⟨congrArg Value.bool (contains_CS d hd32), _, _, rfl, fun _ _ e => e⟩
    intro a s₇ kk M₇ G₇ os₇ X
    have F₇ : Fr (hid B₃) L s₇.heap _ := fr_later I₆ (fr_hid F₆) ⟨fun b o _ h e => kk b o h e, os₇⟩
    have N₇ : News (hid B₃) L s₇.heap [] := News.nil
    try clear F₅
    try clear N₅
    try clear N₆
    try clear N
    try clear F
    have hF₆ := F₆
    clear F₆
    walk_at "mine"
    refine all_S G₇ X ?_
    intro s₈ k₈ G₈ os₈
    obtain ⟨l₈, I₈⟩ := inv_gen115 I₆ kk M₇ os₇ k₈ G₈ os₈
    have l68 := (Later.of_keep (s := { s₃ with heap := B₃ }) (s' := { heap := h₆, gens := s₃.gens, drawn := s₃.drawn, toks := k₆, os := s₃.os }) hF₆.keep rfl).trans l₈
    obtain ⟨B₈, hk₈, hz₈, lB₈, IB₈, hB₈⟩ := rebase IB₃ l68 I₈
    have F : Fr B₈ L s₈.heap _ := fr_re I₆ hF₆ l₈ hk₈ hz₈
    have N : News B₈ L s₈.heap [] := News.nil
    have KC : (Mine.hd.heap_39 w.params).In B₈ := in_later (s := { s₃ with heap := B₃ }) KB (by rfl) (by rfl) lB₈
    have TC : TopRead p loose mg mb B₈ := top_later IB₃ lB₈ TB
    have l08 : Later s { s₈ with heap := B₈ } := lB₃.trans lB₈
    clear KXh Th F₇ N₇ X kk M₇ G₇ k₈ G₈ I₆ hF₆ l₈ I₈ l68 KB TB IB₃ lB₃ lB₈
    walk_at "mine"
    rename Fr _ _ _ _ => F₉
    rename News _ _ _ _ => N₉
    refine slice_strN_ns F₉ N₉ (fun h₁₀ t₁₀ k₁₀ F₁₀ N₁₀ => ?_) (hsz := by rw [bstr_len, PySem.sizeLine_eq]; omega)
    rw [slice_name]
    walk_at "mine"
    rename Fr _ _ _ _ => F₁₁
    refine Assign_ListComp_F F₁₁ rfl (by with_unfolding_all rfl) (by with_unfolding_all rfl) (by decide) (by rfl) (by decide) (by rfl) (by rfl) (by rfl) ?_
    walk_at "mine"
    rename Fr _ _ _ _ => F₁₁
    rename News _ _ _ _ => N₁₁
    refine slice_strN_sn F₁₁ N₁₁ (fun h₁₂ t₁₂ k₁₂ F₁₂ N₁₂ => ?_) (hsz := by rw [bstr_len, PySem.sizeLine_eq]; omega)
    rw [slice_tail]
    refine ⟨_, _, _, rfl, rfl, cs_ascii ds hd, (by rw [PySem.sizeLine_eq]; simp; omega), F₁₂, N₁₂, ?_⟩
    rintro s₂ ⟨g, rfl⟩
    refine rest_of (G := fun i v => ∃ t, v = Value.int ((ds.getD i 0 : Nat) : Int) t) trivial ?_ ?_
    · intro i v I oI C oC D m₂ ys h tk E' hi hP hC hx F N off ne
      obtain ⟨c, u, hc, rfl⟩ := hP
      obtain ⟨d, hdi, rfl⟩ := cs_at2 hc
      have hd32 := hd d (List.mem_of_getElem? hdi)
      walk_at "mine"
      refine SC.find ?_
      rw [find_CS d hd32]
      walk_at "mine"
      refine ⟨_, _, rfl, fun _ _ e => e, ?_⟩
      rw [show ds.getD i 0 = d from by simp [List.getD, hdi]]
      exact ⟨_, rfl⟩
    · intro ys hl hG D h tk F' N' off
      have hy := natsAre_of ys ds (by simpa using hl) hG
      walk_at "mine"
      rename Fr _ _ _ _ => F₁₃
      rename News _ _ _ _ => N₁₃
      refine weaken (ver2 (KC.keeps F₁₃.keep) (TC.keeps F₁₃.keep) hxa (Nat.le_trans hx1.2 (by decide)) (news_list N₁₃ (.head _)) hy (by omega) ?_) rfl (Nat.le_of_ble_eq_true rfl) rfl rfl (Nat.le_of_ble_eq_true rfl)
      intro ev h₁₄ tk₁₄ st hev
      have F₁₄ := F₁₃.keeps st
      have N₁₄ := N₁₃.grown st
      rcases hev with ⟨hp, te, rfl⟩ | ⟨hp1, hp, te, rfl⟩ | ⟨hp1, hp, rfl⟩
      · walk_at "mine"
        rename Fr _ _ _ _ => Fz
        rename News _ _ _ _ => Nz
        have hI := ‹IntsAre _ (List.take _ _)›
        refine hret _ _ (l08.trans (Later.of_keep Fz.keep rfl)) (IB₈.of_keep Fz.keep rfl) ⟨_, rfl, fin_new IB₈ Fz l08 Nz (.head _) (by intro ps q; cases q), .inl ⟨_, .inl ⟨hp, rfl⟩, _, _, _, _, (Nz _ (.head _)).1, fin_new IB₈ Fz l08 Nz (.tail _ (.head _)) (by intro ps q; cases q), (Nz _ (.tail _ (.head _))).1, nats_take hI⟩⟩
      · walk_at "mine"
        rename Fr _ _ _ _ => Fz
        rename News _ _ _ _ => Nz
        have hI := ‹IntsAre _ (List.take _ _)›
        refine hret _ _ (l08.trans (Later.of_keep Fz.keep rfl)) (IB₈.of_keep Fz.keep rfl) ⟨_, rfl, fin_new IB₈ Fz l08 Nz (.head _) (by intro ps q; cases q), .inl ⟨_, .inr ⟨hp1, hp, rfl⟩, _, _, _, _, (Nz _ (.head _)).1, fin_new IB₈ Fz l08 Nz (.tail _ (.head _)) (by intro ps q; cases q), (Nz _ (.tail _ (.head _))).1, nats_take hI⟩⟩
      · walk_at "mine"
        rename Fr _ _ _ _ => Fz
        rename News _ _ _ _ => Nz
        refine hret _ _ (l08.trans (Later.of_keep Fz.keep rfl)) (IB₈.of_keep Fz.keep rfl) ⟨_, rfl, fin_new IB₈ Fz l08 Nz (.head _) (by intro ps q; cases q), .inr ⟨hp1, hp, (Nz _ (.head _)).1⟩⟩
theorem Later.start {s s₁ s' : Shared} (l : Later s₁ s') (k : ∀ b o, s.heap.get? b = some o → s₁.heap.get? b = some o) (o : s₁.os = s.os) : Later s s' := (Later.of_keep k o).trans l
theorem fr_re' {mg : Str → Option Value} {bm : Addr} {ob : Obj} {s s' : Shared} {B B' : Heap} {L : Addr} {m : Str → Option Value} (l : Later s s') (I : Inv mg bm ob s) (F : Fr B L s.heap m) (hk : ∀ b o, B'.get? b = some o → s'.heap.get? b = some o) (hsz : B'.objs.size ≤ B.objs.size) : Fr B' L s'.heap m := fr_re I F l hk hsz
theorem news_re {h₀ h₁ B h' : Heap} {L b : Addr} {o : Obj} {m : Str → Option Value} {news : List (Addr × Obj)} (F : Fr h₀ L h₁ m) (hn : h₁.get? b = none) (hB : ∀ b, h₀.get? b = none → B.get? b = none) (e : h'.get? b = some o) (N : News B L h' news) : News B L h' ((b, o) :: news) := by
  intro p hp
  rcases List.mem_cons.mp hp with rfl | hp
  · refine ⟨e, ?_, hB _ ?_⟩
    · rintro rfl
      obtain ⟨oL, _, _, hL, _⟩ := F.ns
      rw [hL] at hn; cases hn
    · cases q : h₀.get? b with
      | none => rfl
      | some o' => rw [F.keep _ _ q] at hn; cases hn
  · exact N p hp
/-- what a reader of addresses hands back -/
def DecR (good : Prop) (d0 : Nat) (out : List Nat) (s : Shared) (v : Value) (s' : Shared) : Prop :=
  ∃ a, v = .ref a ∧ s.heap.get? a = none ∧
    ((good ∧ ∃ t l vs n, s'.heap.get? a = some (tupo [.int (d0 : Int) t, .ref l]) ∧ s.heap.get? l = none ∧ s'.heap.get? l = some (PySem.W.listOf vs.toArray n) ∧ NatsAre vs out) ∨
     (¬ good ∧ s'.heap.get? a = some (tupo [.none, .none])))
def Fits (d0 : Nat) (out : List Nat) : Prop := 2 ≤ out.length ∧ out.length ≤ 40 ∧ d0 ≤ 16 ∧ (d0 = 0 → out.length = 20 ∨ out.length = 32)
theorem take_front (d0 : Nat) (rest c6 : List Nat) (h6 : c6.length = 6) : (d0 :: rest ++ c6).take ((d0 :: rest ++ c6).length - 6) = d0 :: rest := by
  rw [show (d0 :: rest ++ c6).length - 6 = (d0 :: rest).length from by simp [h6]]
  exact List.take_left' rfl

set_option maxRecDepth 100000 in
set_option maxHeartbeats 2000000 in
theorem decode1 {w : World} {p : Program} {loose : List Str} {mg mb : Str → Option Value} {s : Shared} {Q E : Value → Shared → Prop}
  (KX : (Mine.hd.heap_39 w.params).In s.heap) (T : TopRead p loose mg mb s.heap)
  {bm : Addr} {ob : Obj} {h z x : Str} {th t : Tok} {d0 : Nat} {rest c6 : List Nat}
  (hlow : Txt.lower z = bstr x (d0 :: rest ++ c6)) (hcase : Txt.lower z = z ∨ Txt.upper z = z) (hd : ∀ n ∈ d0 :: rest ++ c6, n < 32) (hx1 : 1 ≤ x.length ∧ x.length ≤ 5) (hxa : x.cps.all (· < 128) = true) (h6 : c6.length = 6) (hrl : rest.length ≤ 77) (hol : (cbRun 5 8 rest).out.length ≤ 100) (hok1 : (cbRun 5 8 rest).bits < 5) (hok2 : ((cbRun 5 8 rest).acc <<< (8 - (cbRun 5 8 rest).bits)) &&& ((1 <<< 8) - 1) = 0) (I : Inv mg bm ob s) (hlen : z.length ≤ 5592405) (ha : z.cps.all (· < 128) = true) (hz1 : ∀ (i c : Nat), z.cps[i]? = some c → 33 ≤ c ∧ c ≤ 126)
  (hret : ∀ (v : Value) (s' : Shared), Later s s' → Inv mg bm ob s' → DecR (pm (hrpX x.cps.toList ++ (d0 :: rest ++ c6)) = 1 ∧ x = h ∧ Fits d0 (cbRun 5 8 rest).out) d0 (cbRun 5 8 rest).out s v s' → Q v s') :
  wpAny (model prog w) (lvl 600 6000) (call (.ref 63) [.str h th, .str z t]) Q E s := by
  k_dflt (refine' enter (binds := [(Str.ofString "hrp", Value.str h th), (Str.ofString "addr", Value.str z t)]) KX T.nolimit ?k6 ?k7 ?k8 ?k9 ?kB ?_ ?c2 ?c3 ?c4 ?c5; (case k6 => k_is); (case k7 => k_is); (case k8 => decide); (case k9 => exact BindsTo.of_eq rfl); (case kB => exact locs rfl); (case c2 => rfl); (case c3 => rfl); (case c4 => rfl); (case c5 => decide))
  intro h₁ L tk F N
  simp only [List.reverse_cons, List.reverse_nil, List.nil_append, List.cons_append, bmap] at F
  (try dsimp only)
  (try k_fold)
  walk_at "mine"
  rename Fr _ _ _ _ => F₂
  refine weaken (bde1 (KX.keeps F₂.keep) (T.keeps F₂.keep) hlow hcase hd hx1 hxa (by simp [h6]; omega) (I.of_keep F₂.keep rfl) hlen ha hz1 ?_) rfl (Nat.le_of_ble_eq_true rfl) rfl rfl (Nat.le_of_ble_eq_true rfl)
  intro v s₃ l₃ I₃ D₃
  obtain ⟨B, hk, hz, lB, IB, hB⟩ := rebase I (l₃.start F₂.keep rfl) I₃
  have F := fr_re' l₃ (I.of_keep F₂.keep rfl) F₂ hk hz
  have KB : (Mine.hd.heap_39 w.params).In B := in_later KX (by rfl) (by rfl) lB
  have TB : TopRead p loose mg mb B := top_later I lB T
  obtain ⟨a, rfl, hna, hD⟩ := D₃
  rcases hD with ⟨hp, l, t', vs, ea, hnl, el, hvs⟩ | ⟨hp, ea⟩
  · rw [take_front d0 rest c6 h6] at hvs
    have N : News B L s₃.heap [(l, PySem.W.listOf vs.toArray 0), (a, tupo [.str x t', .ref l])] := news_re F₂ hnl hB el (news_re F₂ hna hB ea News.nil)
    clear F₂ KX T
    walk_at "mine"
    · rename Fr _ _ _ _ => Fz
      rename News _ _ _ _ => Nz
      have hxh := ‹(x != h) = true›
      refine hret _ _ (lB.trans (Later.of_keep Fz.keep rfl)) (IB.of_keep Fz.keep rfl) ⟨_, rfl, fin_new IB Fz lB Nz (.head _) (by intro ps q; cases q), .inr ⟨fun g => ?_, (Nz _ (.head _)).1⟩⟩
      rw [g.2.1] at hxh; simp at hxh
    · have hxh : x = h := by have q := ‹(x != h) = false›; simpa using q
      rename Fr _ _ _ _ => Fz
      rename News _ _ _ _ => Nz
      have hI : NatsAre _ rest := ‹IntsAre _ (List.drop 1 _)›
      refine weaken (cb58a (KB.keeps Fz.keep) (TB.keeps Fz.keep) hok1 hok2 (news_list Nz (.head _)) hI (by omega) (fun n hn => hd n (.tail _ (List.mem_append_left _ hn))) ?_) rfl (Nat.le_of_ble_eq_true rfl) rfl rfl (Nat.le_of_ble_eq_true rfl)
      intro l₄ us n₄ h₅ tk₅ st₅ hn₅ hg₅ hus
      have F₅ := Fz.keeps st₅
      have N₅ := news_add Fz Nz st₅ hn₅ hg₅
      clear Fz Nz
      have hlo : (List.map (fun n : Nat => (n : Int)) (cbRun 5 8 rest).out).length = (cbRun 5 8 rest).out.length := List.length_map _
      have hgd : (List.map (fun n : Nat => (n : Int)) (d0 :: rest)).getD (Int.toNat 0) 0 = (d0 : Int) := rfl
      walk_at "mine"
      all_goals
        rename Fr _ _ _ _ => Fz
        rename News _ _ _ _ => Nz
        refine hret _ _ (lB.trans (Later.of_keep Fz.keep rfl)) (IB.of_keep Fz.keep rfl) ⟨_, rfl, fin_new IB Fz lB Nz (.head _) (by intro ps q; cases q), ?_⟩
        first
          | exact .inr ⟨fun g => by obtain ⟨g0, _, g1, g2, g3, g4⟩ := g; omega, (Nz _ (.head _)).1⟩
          | exact .inl ⟨⟨by omega, hxh, by unfold Fits; omega⟩, _, _, _, _, (Nz _ (.head _)).1, fin_new IB Fz lB Nz (.tail _ (.head _)) (by intro ps q; cases q), (Nz _ (.tail _ (.head _))).1, hus⟩
  · have N : News B L s₃.heap [(a, tupo [.none, .none])] := news_re F₂ hna hB ea News.nil
    clear F₂ KX T
    walk_at "mine"
    rename Fr _ _ _ _ => Fz
    rename News _ _ _ _ => Nz
    exact hret _ _ (lB.trans (Later.of_keep Fz.keep rfl)) (IB.of_keep Fz.keep rfl) ⟨_, rfl, fin_new IB Fz lB Nz (.head _) (by intro ps q; cases q), .inr ⟨fun g => hp g.1, (Nz _ (.head _)).1⟩⟩

set_option maxRecDepth 100000 in
set_option maxHeartbeats 2000000 in
theorem decode2 {w : World} {p : Program} {loose : List Str} {mg mb : Str → Option Value} {s : Shared} {Q E : Value → Shared → Prop}
  (KX : (Mine.hd.heap_39 w.params).In s.heap) (T : TopRead p loose mg mb s.heap)
  {bm : Addr} {ob : Obj} {h z x : Str} {th t : Tok} {d0 : Nat} {rest c6 : List Nat}
  (hlow : Txt.lower z = bstr x (d0 :: rest ++ c6)) (hcase : Txt.lower z = z ∨ Txt.upper z = z) (hd : ∀ n ∈ d0 :: rest ++ c6, n < 32) (hx1 : 1 ≤ x.length ∧ x.length ≤ 5) (hxa : x.cps.all (· < 128) = true) (h6 : c6.length = 6) (hrl : rest.length ≤ 77) (hol : (cbRun 5 8 rest).out.length ≤ 100) (hok1 : (cbRun 5 8 rest).bits < 5) (hok2 : ((cbRun 5 8 rest).acc <<< (8 - (cbRun 5 8 rest).bits)) &&& ((1 <<< 8) - 1) = 0) (I : Inv mg bm ob s) (hlen : z.length ≤ 5592405) (ha : z.cps.all (· < 128) = true) (hz1 : ∀ (i c : Nat), z.cps[i]? = some c → 33 ≤ c ∧ c ≤ 126)
  (hret : ∀ (v : Value) (s' : Shared), Later s s' → Inv mg bm ob s' → DecR (((d0 = 0 ∧ pm (hrpX x.cps.toList ++ (d0 :: rest ++ c6)) = 1) ∨ (d0 ≠ 0 ∧ pm (hrpX x.cps.toList ++ (d0 :: rest ++ c6)) = 734539939)) ∧ x = h ∧ Fits d0 (cbRun 5 8 rest).out) d0 (cbRun 5 8 rest).out s v s' → Q v s') :
  wpAny (model prog w) (lvl 600 6000) (call (.ref 133) [.str h th, .str z t]) Q E s := by
  k_dflt (refine' enter (binds := [(Str.ofString "hrp", Value.str h th), (Str.ofString "addr", Value.str z t)]) KX T.nolimit ?k6 ?k7 ?k8 ?k9 ?kB ?_ ?c2 ?c3 ?c4 ?c5; (case k6 => k_is); (case k7 => k_is); (case k8 => decide); (case k9 => exact BindsTo.of_eq rfl); (case kB => exact locs rfl); (case c2 => rfl); (case c3 => rfl); (case c4 => rfl); (case c5 => decide))
  intro h₁ L tk F N
  simp only [List.reverse_cons, List.reverse_nil, List.nil_append, List.cons_append, bmap] at F
  (try dsimp only)
  (try k_fold)
  walk_at "mine"
  rename Fr _ _ _ _ => F₂
  refine weaken (bde2 (KX.keeps F₂.keep) (T.keeps F₂.keep) hlow hcase hd hx1 hxa (by simp [h6]; omega) (I.of_keep F₂.keep rfl) hlen ha hz1 ?_) rfl (Nat.le_of_ble_eq_true rfl) rfl rfl (Nat.le_of_ble_eq_true rfl)
  intro v s₃ l₃ I₃ D₃
  obtain ⟨B, hk, hz, lB, IB, hB⟩ := rebase I (l₃.start F₂.keep rfl) I₃
  have F := fr_re' l₃ (I.of_keep F₂.keep rfl) F₂ hk hz
  have KB : (Mine.hd.heap_39 w.params).In B := in_later KX (by rfl) (by rfl) lB
  have TB : TopRead p loose mg mb B := top_later I lB T
  obtain ⟨a, rfl, hna, hD⟩ := D₃
  rcases hD with ⟨e, he, te, l, t', vs, ea, hnl, el, hvs⟩ | ⟨hp1, hp, ea⟩
  · rw [take_front d0 rest c6 h6] at hvs
    have N : News B L s₃.heap [(l, PySem.W.listOf vs.toArray 0), (a, tupo [.int e te, .str x t', .ref l])] := news_re F₂ hnl hB el (news_re F₂ hna hB ea News.nil)
    rcases he with ⟨hp, rfl⟩ | ⟨hp1, hp, rfl⟩
    all_goals
      clear F₂ KX T
      walk_at "mine"
      · rename Fr _ _ _ _ => Fz
        rename News _ _ _ _ => Nz
        have hxh := ‹(x != h) = true›
        refine hret _ _ (lB.trans (Later.of_keep Fz.keep rfl)) (IB.of_keep Fz.keep rfl) ⟨_, rfl, fin_new IB Fz lB Nz (.head _) (by intro ps q; cases q), .inr ⟨fun g => ?_, (Nz _ (.head _)).1⟩⟩
        rw [g.2.1] at hxh; simp at hxh
      · have hxh : x = h := by have q := ‹(x != h) = false›; simpa using q
        rename Fr _ _ _ _ => Fz
        rename News _ _ _ _ => Nz
        have hI : NatsAre _ rest := ‹IntsAre _ (List.drop 1 _)›
        refine weaken (cb58b (KB.keeps Fz.keep) (TB.keeps Fz.keep) hok1 hok2 (news_list Nz (.head _)) hI (by omega) (fun n hn => hd n (.tail _ (List.mem_append_left _ hn))) ?_) rfl (Nat.le_of_ble_eq_true rfl) rfl rfl (Nat.le_of_ble_eq_true rfl)
        intro l₄ us n₄ h₅ tk₅ st₅ hn₅ hg₅ hus
        have F₅ := Fz.keeps st₅
        have N₅ := news_add Fz Nz st₅ hn₅ hg₅
        clear Fz Nz
        have hlo : (List.map (fun n : Nat => (n : Int)) (cbRun 5 8 rest).out).length = (cbRun 5 8 rest).out.length := List.length_map _
        have hgd : (List.map (fun n : Nat => (n : Int)) (d0 :: rest)).getD (Int.toNat 0) 0 = (d0 : Int) := rfl
        walk_at "mine"
        all_goals
          rename Fr _ _ _ _ => Fz
          rename News _ _ _ _ => Nz
          refine hret _ _ (lB.trans (Later.of_keep Fz.keep rfl)) (IB.of_keep Fz.keep rfl) ⟨_, rfl, fin_new IB Fz lB Nz (.head _) (by intro ps q; cases q), ?_⟩
          first
            | exact .inr ⟨fun g => by obtain ⟨g0, _, g1, g2, g3, g4⟩ := g; omega, (Nz _ (.head _)).1⟩
            | exact .inl ⟨⟨by omega, hxh, by unfold Fits; omega⟩, _, _, _, _, (Nz _ (.head _)).1, fin_new IB Fz lB Nz (.tail _ (.head _)) (by intro ps q; cases q), (Nz _ (.tail _ (.head _))).1, hus⟩
  · have N : News B L s₃.heap [(a, tupo [.none, .none, .none])] := news_re F₂ hna hB ea News.nil
    clear F₂ KX T
    walk_at "mine"
    rename Fr _ _ _ _ => Fz
    rename News _ _ _ _ => Nz
    exact hret _ _ (lB.trans (Later.of_keep Fz.keep rfl)) (IB.of_keep Fz.keep rfl) ⟨_, rfl, fin_new IB Fz lB Nz (.head _) (by intro ps q; cases q), .inr ⟨fun g => by omega, (Nz _ (.head _)).1⟩⟩
theorem shaped_pair (k : Int) (ns : List Int) : PySem.SeqAt.shaped (.tuple [.int k, .list (ns.map PyData.int)]) = true := by
  simp [PySem.SeqAt.shaped, PyData.canLay0, PyData.canLayAll0, PyData.depth, PyData.depthAll, ke_canLayAll0, ke_depthAll]
theorem shaped_none2 : PySem.SeqAt.shaped (.tuple [.none, .none]) = true := by
  simp [PySem.SeqAt.shaped, PyData.canLay0, PyData.canLayAll0, PyData.depth, PyData.depthAll]
theorem eqv_pair_none (k : Int) (ns : List Int) : PyData.eqv (.tuple [.int k, .list (ns.map PyData.int)]) (.tuple [.none, .none]) = false := by
  simp [PyData.eqv, PyData.eqvAll]
theorem eqv_none_pair (k : Int) (ns : List Int) : PyData.eqv (.tuple [.none, .none]) (.tuple [.int k, .list (ns.map PyData.int)]) = false := by
  simp [PyData.eqv, PyData.eqvAll]
theorem eqv_none_none : PyData.eqv (.tuple [.none, .none]) (.tuple [.none, .none]) = true := by
  simp [PyData.eqv, PyData.eqvAll]
theorem eqv_pair_pair (k : Int) (ns : List Int) : PyData.eqv (.tuple [.int k, .list (ns.map PyData.int)]) (.tuple [.int k, .list (ns.map PyData.int)]) = true := by
  simp [PyData.eqv, PyData.eqvAll, ked_eqvAll]
/-- the numbers that an address spells out: the version, the regrouped program and the six of the checksum -/
def adr (K : Nat) (x : Str) (v0 : Nat) (pg : List Nat) : List Nat := (v0 :: cb85 pg) ++ chk6 (pm (hrpX x.cps.toList ++ (v0 :: cb85 pg) ++ [0, 0, 0, 0, 0, 0]) ^^^ K)
/-- what regrouping there and back gives -/
structure RT (pg : List Nat) : Prop where
  out : (cbRun 5 8 (cb85 pg)).out = pg
  bits : (cbRun 5 8 (cb85 pg)).bits < 5
  left : ((cbRun 5 8 (cb85 pg)).acc <<< (8 - (cbRun 5 8 (cb85 pg)).bits)) &&& ((1 <<< 8) - 1) = 0
  len : (cb85 pg).length ≤ 77
  lt : ∀ n ∈ cb85 pg, n < 32
/-- what a maker of addresses hands back -/
def EncR (good : Prop) (z : Str) (v : Value) : Prop := (good ∧ ∃ t, v = .str z t) ∨ (¬ good ∧ v = .none)
theorem adr_lt {K : Nat} {x : Str} {v0 : Nat} {pg : List Nat} (hv : v0 < 32) (R : RT pg) : ∀ n ∈ adr K x v0 pg, n < 32 := by
  intro n hn
  rcases List.mem_append.mp hn with h | h
  · rcases List.mem_cons.mp h with rfl | h
    · exact hv
    · exact R.lt n h
  · exact chk6_lt _ n h
theorem small_ascii (x : Str) (hx : ∀ c ∈ x.cps.toList, 97 ≤ c ∧ c ≤ 122) : x.cps.all (· < 128) = true :=
  (all_of_mem x fun c hc => by have := hx c hc; omega).1

set_option maxRecDepth 100000 in
set_option maxHeartbeats 2000000 in
theorem encode1 {w : World} {p : Program} {loose : List Str} {mg mb : Str → Option Value} {s : Shared} {Q E : Value → Shared → Prop}
  (KX : (Mine.hd.heap_39 w.params).In s.heap) (T : TopRead p loose mg mb s.heap)
  {bm : Addr} {ob : Obj} {x : Str} {t tv : Tok} {v0 : Nat} {d : Addr} {vs : List Value} {pg : List Nat}
  (hx1 : 1 ≤ x.length ∧ x.length ≤ 5) (hx : ∀ c ∈ x.cps.toList, 97 ≤ c ∧ c ≤ 122) (hv : v0 < 32) (hd : s.heap.IsList d vs.toArray) (hi : NatsAre vs pg) (hpl : pg.length ≤ 41) (hpr : ∀ n ∈ pg, n < 256) (R : RT pg) (hpm : pm (hrpX x.cps.toList ++ adr 1 x v0 pg) = 1) (I : Inv mg bm ob s)
  (hret : ∀ (v : Value) (s' : Shared), Later s s' → Inv mg bm ob s' → EncR (Fits v0 pg) (bstr x (adr 1 x v0 pg)) v → Q v s') :
  wpAny (model prog w) (lvl 500 5000) (call (.ref 70) [.str x t, .int (v0 : Int) tv, .ref d]) Q E s := by
  k_dflt (refine' enter (binds := [(Str.ofString "hrp", Value.str x t), (Str.ofString "witver", Value.int (v0 : Int) tv), (Str.ofString "witprog", Value.ref d)]) KX T.nolimit ?k6 ?k7 ?k8 ?k9 ?kB ?_ ?c2 ?c3 ?c4 ?c5; (case k6 => k_is); (case k7 => k_is); (case k8 => decide); (case k9 => exact BindsTo.of_eq rfl); (case kB => exact locs rfl); (case c2 => rfl); (case c3 => rfl); (case c4 => rfl); (case c5 => decide))
  intro h₁ L tk F N
  simp only [List.reverse_cons, List.reverse_nil, List.nil_append, List.cons_append, bmap] at F
  (try dsimp only)
  (try k_fold)
  walk_at "mine"
  rename Fr _ _ _ _ => F₂
  rename News _ _ _ _ => N₂
  refine weaken (cb85a (KX.keeps F₂.keep) (T.keeps F₂.keep) (hd.at fun o e => F₂.keep _ o e) hi (by omega) hpr ?_) rfl (Nat.le_of_ble_eq_true rfl) rfl rfl (Nat.le_of_ble_eq_true rfl)
  intro l₃ us n₃ h₃ tk₃ st₃ hn₃ hg₃ hus
  have F₃ := F₂.keeps st₃
  have N₃ := news_add F₂ N₂ st₃ hn₃ hg₃
  clear F₂ N₂
  walk_at "mine"
  rename Fr _ _ _ _ => F₄
  rename News _ _ _ _ => N₄
  refine kmk_add_ints F₄ N₄ (news_list (vs := [Value.int (v0 : Int) tv]) N₄ (.head _)) (news_list N₄ (.tail _ (.head _))) (.cons _ _ .nil) hus ?_ (by have := natsAre_length hus; have := R.len; simp; rw [PySem.sizeLine_eq]; omega)
  intro D₄ us₄ h₄ F₄ N₄ _ hI
  have hus₄ : NatsAre us₄ (v0 :: cb85 pg) := hI
  clear hI
  walk_at "mine"
  rename Fr _ _ _ _ => F₅
  rename News _ _ _ _ => N₅
  refine weaken (ben1 (ds := v0 :: cb85 pg) (KX.keeps F₅.keep) (T.keeps F₅.keep) (small_ascii x hx) (Nat.le_trans hx1.2 (by decide)) (news_list N₅ (.head _)) hus₄ (by simp; have := R.len; omega) (fun n hn => by rcases List.mem_cons.mp hn with rfl | h; exact hv; exact R.lt n h) ?_) rfl (Nat.le_of_ble_eq_true rfl) rfl rfl (Nat.le_of_ble_eq_true rfl)
  intro t₆ h₆ tk₆ st₆
  have F₆ := F₅.keeps st₆
  have N₆ := N₅.grown st₆
  walk_at "mine"
  rename Fr _ _ _ _ => F₇
  refine weaken (decode1 (x := x) (d0 := v0) (rest := cb85 pg) (c6 := chk6 (pm (hrpX x.cps.toList ++ (v0 :: cb85 pg) ++ [0, 0, 0, 0, 0, 0]) ^^^ 1)) (KX.keeps F₇.keep) (T.keeps F₇.keep) (lower_bstr hx (adr_lt (K := 1) hv R)) (.inl (lower_bstr hx (adr_lt (K := 1) hv R))) (adr_lt (K := 1) hv R) hx1 (small_ascii x hx) (chk6_length _) R.len (by rw [R.out]; omega) R.bits R.left (I.of_keep F₇.keep rfl) (by rw [bstr_len]; have := R.len; simp [chk6_length]; omega) (bstr_plain hx (adr_lt (K := 1) hv R)).1 (bstr_plain hx (adr_lt (K := 1) hv R)).2 ?_) rfl (Nat.le_of_ble_eq_true rfl) rfl rfl (Nat.le_of_ble_eq_true rfl)
  intro v s₈ l₈ I₈ D₈
  rw [R.out] at D₈
  obtain ⟨B, hk, hz, lB, IB, hB⟩ := rebase I (l₈.start F₇.keep rfl) I₈
  have F := fr_re' l₈ (I.of_keep F₇.keep rfl) F₇ hk hz
  have KB : (Mine.hd.heap_39 w.params).In B := in_later KX (by rfl) (by rfl) lB
  have TB : TopRead p loose mg mb B := top_later I lB T
  obtain ⟨a, rfl, hna, hD⟩ := D₈
  rcases hD with ⟨hg, t', l, ws, n', ea, hnl, el, hws⟩ | ⟨hg, ea⟩
  · have N : News B L s₈.heap [(l, PySem.W.listOf ws.toArray n'), (a, tupo [.int (v0 : Int) t', .ref l])] := news_re F₇ hnl hB el (news_re F₇ hna hB ea News.nil)
    have hI : IntsAre ws (pg.map (fun (n : Nat) => (n : Int))) := hws
    clear F₇ KX T
    walk_at "mine3"
    rename News _ _ _ _ => Nc
    refine eq_dataH (reads_tuple_at (Nc _ (.tail _ (.tail _ (.head _)))).1 rfl rfl (.cons (.int _ _) (.cons (reads_newData (news_list Nc (.tail _ (.head _))) (ke_carried hI)) .nil))) (reads_tuple_at (Nc _ (.head _)).1 rfl rfl (.cons .none (.cons .none .nil))) (shaped_pair _ _) shaped_none2 (by ke_room) ?_
    rw [eqv_pair_none]
    walk_at "mine"
    rename Fr _ _ _ _ => Fz
    exact hret _ _ (lB.trans (Later.of_keep Fz.keep rfl)) (IB.of_keep Fz.keep rfl) (.inl ⟨hg.2.2, _, rfl⟩)
  · have N : News B L s₈.heap [(a, tupo [.none, .none])] := news_re F₇ hna hB ea News.nil
    clear F₇ KX T
    walk_at "mine3"
    rename News _ _ _ _ => Nc
    refine eq_dataH (reads_tuple_at (Nc _ (.tail _ (.head _))).1 rfl rfl (.cons .none (.cons .none .nil))) (reads_tuple_at (Nc _ (.head _)).1 rfl rfl (.cons .none (.cons .none .nil))) shaped_none2 shaped_none2 (by ke_room) ?_
    rw [eqv_none_none]
    walk_at "mine"
    rename Fr _ _ _ _ => Fz
    exact hret _ _ (lB.trans (Later.of_keep Fz.keep rfl)) (IB.of_keep Fz.keep rfl) (.inr ⟨fun g => hg (⟨hpm, rfl, g⟩), rfl⟩)

set_option maxRecDepth 100000 in
set_option maxHeartbeats 2000000 in
theorem encode2 {w : World} {p : Program} {loose : List Str} {mg mb : Str → Option Value} {s : Shared} {Q E : Value → Shared → Prop}
  (KX : (Mine.hd.heap_39 w.params).In s.heap) (T : TopRead p loose mg mb s.heap)
  {bm : Addr} {ob : Obj} {x : Str} {t tv : Tok} {v0 : Nat} {d : Addr} {vs : List Value} {pg : List Nat}
  (hx1 : 1 ≤ x.length ∧ x.length ≤ 5) (hx : ∀ c ∈ x.cps.toList, 97 ≤ c ∧ c ≤ 122) (hv : v0 < 32) (hd : s.heap.IsList d vs.toArray) (hi : NatsAre vs pg) (hpl : pg.length ≤ 41) (hpr : ∀ n ∈ pg, n < 256) (R : RT pg) (hpm : pm (hrpX x.cps.toList ++ adr (if v0 = 0 then 1 else 734539939) x v0 pg) = (if v0 = 0 then 1 else 734539939)) (I : Inv mg bm ob s)
  (hret : ∀ (v : Value) (s' : Shared), Later s s' → Inv mg bm ob s' → EncR (Fits v0 pg) (bstr x (adr (if v0 = 0 then 1 else 734539939) x v0 pg)) v → Q v s') :
  wpAny (model prog w) (lvl 500 5000) (call (.ref 140) [.str x t, .int (v0 : Int) tv, .ref d]) Q E s := by
  k_dflt (refine' enter (binds := [(Str.ofString "hrp", Value.str x t), (Str.ofString "witver", Value.int (v0 : Int) tv), (Str.ofString "witprog", Value.ref d)]) KX T.nolimit ?k6 ?k7 ?k8 ?k9 ?kB ?_ ?c2 ?c3 ?c4 ?c5; (case k6 => k_is); (case k7 => k_is); (case k8 => decide); (case k9 => exact BindsTo.of_eq rfl); (case kB => exact locs rfl); (case c2 => rfl); (case c3 => rfl); (case c4 => rfl); (case c5 => decide))
  intro h₁ L tk F N
  simp only [List.reverse_cons, List.reverse_nil, List.nil_append, List.cons_append, bmap] at F
  (try dsimp only)
  (try k_fold)
  walk_at "mine"
  · have hv0 : v0 = 0 := by omega
    rw [if_pos hv0] at hpm hret
    rename Fr _ _ _ _ => F₂
    rename News _ _ _ _ => N₂
    refine weaken (cb85b (KX.keeps F₂.keep) (T.keeps F₂.keep) (hd.at fun o e => F₂.keep _ o e) hi (by omega) hpr ?_) rfl (Nat.le_of_ble_eq_true rfl) rfl rfl (Nat.le_of_ble_eq_true rfl)
    intro l₃ us n₃ h₃ tk₃ st₃ hn₃ hg₃ hus
    have F₃ := F₂.keeps st₃
    have N₃ := news_add F₂ N₂ st₃ hn₃ hg₃
    clear F₂ N₂
    walk_at "mine"
    rename Fr _ _ _ _ => F₄
    rename News _ _ _ _ => N₄
    refine kmk_add_ints F₄ N₄ (news_list (vs := [Value.int (v0 : Int) tv]) N₄ (.tail _ (.head _))) (news_list N₄ (.head _)) (.cons _ _ .nil) hus ?_ (by have := natsAre_length hus; have := R.len; simp; rw [PySem.sizeLine_eq]; omega)
    intro D₄ us₄ h₄ F₄ N₄ _ hI
    have hus₄ : NatsAre us₄ (v0 :: cb85 pg) := hI
    clear hI
    walk_at "mine"
    rename Fr _ _ _ _ => F₅
    rename News _ _ _ _ => N₅
    refine weaken (ben2a (ds := v0 :: cb85 pg) (KX.keeps F₅.keep) (T.keeps F₅.keep) (small_ascii x hx) (Nat.le_trans hx1.2 (by decide)) (news_list N₅ (.head _)) hus₄ (by simp; have := R.len; omega) (fun n hn => by rcases List.mem_cons.mp hn with rfl | h; exact hv; exact R.lt n h) ?_) rfl (Nat.le_of_ble_eq_true rfl) rfl rfl (Nat.le_of_ble_eq_true rfl)
    intro t₆ h₆ tk₆ st₆
    have F₆ := F₅.keeps st₆
    have N₆ := N₅.grown st₆
    walk_at "mine"
    rename Fr _ _ _ _ => F₇
    refine weaken (decode2 (x := x) (d0 := v0) (rest := cb85 pg) (c6 := chk6 (pm (hrpX x.cps.toList ++ (v0 :: cb85 pg) ++ [0, 0, 0, 0, 0, 0]) ^^^ 1)) (KX.keeps F₇.keep) (T.keeps F₇.keep) (lower_bstr hx (adr_lt (K := 1) hv R)) (.inl (lower_bstr hx (adr_lt (K := 1) hv R))) (adr_lt (K := 1) hv R) hx1 (small_ascii x hx) (chk6_length _) R.len (by rw [R.out]; omega) R.bits R.left (I.of_keep F₇.keep rfl) (by rw [bstr_len]; have := R.len; simp [chk6_length]; omega) (bstr_plain hx (adr_lt (K := 1) hv R)).1 (bstr_plain hx (adr_lt (K := 1) hv R)).2 ?_) rfl (Nat.le_of_ble_eq_true rfl) rfl rfl (Nat.le_of_ble_eq_true rfl)
    intro v s₈ l₈ I₈ D₈
    rw [R.out] at D₈
    obtain ⟨B, hk, hz, lB, IB, hB⟩ := rebase I (l₈.start F₇.keep rfl) I₈
    have F := fr_re' l₈ (I.of_keep F₇.keep rfl) F₇ hk hz
    have KB : (Mine.hd.heap_39 w.params).In B := in_later KX (by rfl) (by rfl) lB
    have TB : TopRead p loose mg mb B := top_later I lB T
    obtain ⟨a, rfl, hna, hD⟩ := D₈
    rcases hD with ⟨hg, t', l, ws, n', ea, hnl, el, hws⟩ | ⟨hg, ea⟩
    · have N : News B L s₈.heap [(l, PySem.W.listOf ws.toArray n'), (a, tupo [.int (v0 : Int) t', .ref l])] := news_re F₇ hnl hB el (news_re F₇ hna hB ea News.nil)
      have hI : IntsAre ws (pg.map (fun (n : Nat) => (n : Int))) := hws
      clear F₇ KX T
      walk_at "mine3"
      rename News _ _ _ _ => Nc
      refine eq_dataH (reads_tuple_at (Nc _ (.tail _ (.tail _ (.head _)))).1 rfl rfl (.cons (.int _ _) (.cons (reads_newData (news_list Nc (.tail _ (.head _))) (ke_carried hI)) .nil))) (reads_tuple_at (Nc _ (.head _)).1 rfl rfl (.cons .none (.cons .none .nil))) (shaped_pair _ _) shaped_none2 (by ke_room) ?_
      rw [eqv_pair_none]
      walk_at "mine"
      rename Fr _ _ _ _ => Fz
      exact hret _ _ (lB.trans (Later.of_keep Fz.keep rfl)) (IB.of_keep Fz.keep rfl) (.inl ⟨hg.2.2, _, rfl⟩)
    · have N : News B L s₈.heap [(a, tupo [.none, .none])] := news_re F₇ hna hB ea News.nil
      clear F₇ KX T
      walk_at "mine3"
      rename News _ _ _ _ => Nc
      refine eq_dataH (reads_tuple_at (Nc _ (.tail _ (.head _))).1 rfl rfl (.cons .none (.cons .none .nil))) (reads_tuple_at (Nc _ (.head _)).1 rfl rfl (.cons .none (.cons .none .nil))) shaped_none2 shaped_none2 (by ke_room) ?_
      rw [eqv_none_none]
      walk_at "mine"
      rename Fr _ _ _ _ => Fz
      exact hret _ _ (lB.trans (Later.of_keep Fz.keep rfl)) (IB.of_keep Fz.keep rfl) (.inr ⟨fun g => hg (⟨.inl ⟨hv0, hpm⟩, rfl, g⟩), rfl⟩)
  · have hv0 : v0 ≠ 0 := by omega
    rw [if_neg hv0] at hpm hret
    rename Fr _ _ _ _ => F₂
    rename News _ _ _ _ => N₂
    refine weaken (cb85b (KX.keeps F₂.keep) (T.keeps F₂.keep) (hd.at fun o e => F₂.keep _ o e) hi (by omega) hpr ?_) rfl (Nat.le_of_ble_eq_true rfl) rfl rfl (Nat.le_of_ble_eq_true rfl)
    intro l₃ us n₃ h₃ tk₃ st₃ hn₃ hg₃ hus
    have F₃ := F₂.keeps st₃
    have N₃ := news_add F₂ N₂ st₃ hn₃ hg₃
    clear F₂ N₂
    walk_at "mine"
    rename Fr _ _ _ _ => F₄
    rename News _ _ _ _ => N₄
    refine kmk_add_ints F₄ N₄ (news_list (vs := [Value.int (v0 : Int) tv]) N₄ (.tail _ (.head _))) (news_list N₄ (.head _)) (.cons _ _ .nil) hus ?_ (by have := natsAre_length hus; have := R.len; simp; rw [PySem.sizeLine_eq]; omega)
    intro D₄ us₄ h₄ F₄ N₄ _ hI
    have hus₄ : NatsAre us₄ (v0 :: cb85 pg) := hI
    clear hI
    walk_at "mine"
    rename Fr _ _ _ _ => F₅
    rename News _ _ _ _ => N₅
    refine weaken (ben2b (ds := v0 :: cb85 pg) (KX.keeps F₅.keep) (T.keeps F₅.keep) (small_ascii x hx) (Nat.le_trans hx1.2 (by decide)) (news_list N₅ (.head _)) hus₄ (by simp; have := R.len; omega) (fun n hn => by rcases List.mem_cons.mp hn with rfl | h; exact hv; exact R.lt n h) ?_) rfl (Nat.le_of_ble_eq_true rfl) rfl rfl (Nat.le_of_ble_eq_true rfl)
    intro t₆ h₆ tk₆ st₆
    have F₆ := F₅.keeps st₆
    have N₆ := N₅.grown st₆
    walk_at "mine"
    rename Fr _ _ _ _ => F₇
    refine weaken (decode2 (x := x) (d0 := v0) (rest := cb85 pg) (c6 := chk6 (pm (hrpX x.cps.toList ++ (v0 :: cb85 pg) ++ [0, 0, 0, 0, 0, 0]) ^^^ 734539939)) (KX.keeps F₇.keep) (T.keeps F₇.keep) (lower_bstr hx (adr_lt (K := 734539939) hv R)) (.inl (lower_bstr hx (adr_lt (K := 734539939) hv R))) (adr_lt (K := 734539939) hv R) hx1 (small_ascii x hx) (chk6_length _) R.len (by rw [R.out]; omega) R.bits R.left (I.of_keep F₇.keep rfl) (by rw [bstr_len]; have := R.len; simp [chk6_length]; omega) (bstr_plain hx (adr_lt (K := 734539939) hv R)).1 (bstr_plain hx (adr_lt (K := 734539939) hv R)).2 ?_) rfl (Nat.le_of_ble_eq_true rfl) rfl rfl (Nat.le_of_ble_eq_true rfl)
    intro v s₈ l₈ I₈ D₈
    rw [R.out] at D₈
    obtain ⟨B, hk, hz, lB, IB, hB⟩ := rebase I (l₈.start F₇.keep rfl) I₈
    have F := fr_re' l₈ (I.of_keep F₇.keep rfl) F₇ hk hz
    have KB : (Mine.hd.heap_39 w.params).In B := in_later KX (by rfl) (by rfl) lB
    have TB : TopRead p loose mg mb B := top_later I lB T
    obtain ⟨a, rfl, hna, hD⟩ := D₈
    rcases hD with ⟨hg, t', l, ws, n', ea, hnl, el, hws⟩ | ⟨hg, ea⟩
    · have N : News B L s₈.heap [(l, PySem.W.listOf ws.toArray n'), (a, tupo [.int (v0 : Int) t', .ref l])] := news_re F₇ hnl hB el (news_re F₇ hna hB ea News.nil)
      have hI : IntsAre ws (pg.map (fun (n : Nat) => (n : Int))) := hws
      clear F₇ KX T
      walk_at "mine3"
      rename News _ _ _ _ => Nc
      refine eq_dataH (reads_tuple_at (Nc _ (.tail _ (.tail _ (.head _)))).1 rfl rfl (.cons (.int _ _) (.cons (reads_newData (news_list Nc (.tail _ (.head _))) (ke_carried hI)) .nil))) (reads_tuple_at (Nc _ (.head _)).1 rfl rfl (.cons .none (.cons .none .nil))) (shaped_pair _ _) shaped_none2 (by ke_room) ?_
      rw [eqv_pair_none]
      walk_at "mine"
      rename Fr _ _ _ _ => Fz
      exact hret _ _ (lB.trans (Later.of_keep Fz.keep rfl)) (IB.of_keep Fz.keep rfl) (.inl ⟨hg.2.2, _, rfl⟩)
    · have N : News B L s₈.heap [(a, tupo [.none, .none])] := news_re F₇ hna hB ea News.nil
      clear F₇ KX T
      walk_at "mine3"
      rename News _ _ _ _ => Nc
      refine eq_dataH (reads_tuple_at (Nc _ (.tail _ (.head _))).1 rfl rfl (.cons .none (.cons .none .nil))) (reads_tuple_at (Nc _ (.head _)).1 rfl rfl (.cons .none (.cons .none .nil))) shaped_none2 shaped_none2 (by ke_room) ?_
      rw [eqv_none_none]
      walk_at "mine"
      rename Fr _ _ _ _ => Fz
      exact hret _ _ (lB.trans (Later.of_keep Fz.keep rfl)) (IB.of_keep Fz.keep rfl) (.inr ⟨fun g => hg (⟨.inr ⟨hv0, hpm⟩, rfl, g⟩), rfl⟩)
/-- the checksum's step is linear over xor -/
theorem innerN_xor (a b t u : Nat) : ∀ n, innerN (a ^^^ b) (t ^^^ u) n = innerN a t n ^^^ innerN b u n
  | 0 => rfl
  | n + 1 => by
    simp only [innerN]
    rw [innerN_xor a b t u n]
    have e : ∀ (t n : Nat), (t >>> n &&& 1 ≠ 0) ↔ t.testBit n = true := by
      intro t n
      simp [Nat.testBit]
    simp only [e, Nat.testBit_xor]
    have tw : ∀ A B g : Nat, A ^^^ B = A ^^^ g ^^^ (B ^^^ g) := by
      intro A B g
      rw [Nat.xor_comm B g, Nat.xor_assoc, ← Nat.xor_assoc g g, Nat.xor_self, Nat.zero_xor]
    cases t.testBit n <;> cases u.testBit n <;> simp <;> first | exact tw _ _ _ | ac_rfl
theorem pmStep_xor (a b v w : Nat) : pmStep (a ^^^ b) (v ^^^ w) = pmStep a v ^^^ pmStep b w := by
  unfold pmStep
  rw [Nat.shiftRight_xor_distrib, ← innerN_xor]
  congr 1
  rw [Nat.and_xor_distrib_right, Nat.shiftLeft_xor_distrib]
  ac_rfl
theorem innerN_zero : ∀ n c, innerN c 0 n = c
  | 0, c => rfl
  | n + 1, c => by simp [innerN, innerN_zero n c]
theorem pmStep_small (a v : Nat) (h : a < 33554432) : pmStep a v = (a <<< 5) ^^^ v := by
  unfold pmStep
  have e : a >>> 25 = 0 := by rw [Nat.shiftRight_eq_div_pow]; exact Nat.div_eq_of_lt h
  have e2 : a &&& 33554431 = a := by
    have := Nat.and_two_pow_sub_one_of_lt_two_pow (x := a) (n := 25) h
    exact this
  rw [e, e2, innerN_zero]
theorem gen_lt (k : Nat) : genAt k < 2 ^ 30 := by
  unfold genAt
  repeat' split
  all_goals decide
theorem innerN_lt (c t : Nat) (h : c < 2 ^ 30) : ∀ n, innerN c t n < 2 ^ 30
  | 0 => h
  | n + 1 => by
    simp only [innerN]
    refine Nat.xor_lt_two_pow (innerN_lt c t h n) ?_
    split
    · exact gen_lt n
    · decide
theorem pmStep_lt (a v : Nat) (h : v < 32) : pmStep a v < 2 ^ 30 := by
  refine innerN_lt _ _ (Nat.xor_lt_two_pow ?_ (Nat.lt_of_lt_of_le h (by decide))) 5
  rw [Nat.shiftLeft_eq]
  have : a &&& 33554431 ≤ 33554431 := Nat.and_le_right
  omega
theorem foldl_lt : ∀ (ns : List Nat) (a : Nat), a < 2 ^ 30 → (∀ n ∈ ns, n < 32) → ns.foldl pmStep a < 2 ^ 30
  | [], a, h, _ => h
  | n :: ns, a, h, hn => foldl_lt ns _ (pmStep_lt a n (hn n (.head _))) fun m hm => hn m (.tail _ hm)
theorem chk6_eq (p : Nat) : chk6 p = [p >>> 25 &&& 31, p >>> 20 &&& 31, p >>> 15 &&& 31, p >>> 10 &&& 31, p >>> 5 &&& 31, p >>> 0 &&& 31] := by
  simp [chk6, List.range_succ]
/-- six numbers behind, alone -/
theorem six_alone (x : Nat) (hx : x < 2 ^ 30) : (chk6 x).foldl pmStep 0 = x := by
  rw [chk6_eq]
  simp only [List.foldl_cons, List.foldl_nil]
  have l31 : ∀ y, y &&& 31 < 32 := fun y => Nat.lt_of_le_of_lt Nat.and_le_right (by decide)
  have step : ∀ k, k + 5 ≤ 30 → 5 ≤ k → pmStep (x >>> k) (x >>> (k - 5) &&& 31) = x >>> (k - 5) := by
    intro k hk h5
    have hlt : x >>> k < 33554432 := by
      rw [Nat.shiftRight_eq_div_pow]
      refine Nat.lt_of_le_of_lt (Nat.div_le_div_left (Nat.pow_le_pow_right (by decide) h5) (by decide)) ?_
      exact Nat.div_lt_of_lt_mul (Nat.lt_of_lt_of_le hx (by decide))
    rw [pmStep_small _ _ hlt]
    apply Nat.eq_of_testBit_eq
    intro i
    rw [Nat.testBit_xor, Nat.testBit_shiftLeft, Nat.testBit_and, Nat.testBit_shiftRight, Nat.testBit_shiftRight]
    by_cases hi : 5 ≤ i
    · have h31 : Nat.testBit 31 i = false := Nat.testBit_lt_two_pow (Nat.lt_of_lt_of_le (by decide : (31 : Nat) < 2 ^ 5) (Nat.pow_le_pow_right (by decide) hi))
      rw [h31]
      simp [hi]
      congr 1
      omega
    · have h31 : Nat.testBit 31 i = true := by
        have : ∀ i, i < 5 → Nat.testBit 31 i = true := by decide
        exact this i (by omega)
      rw [h31]
      simp [hi]
  have s0 : pmStep 0 (x >>> 25 &&& 31) = x >>> 25 := by
    rw [pmStep_small 0 _ (by decide)]
    have hlt : x >>> 25 < 32 := by
      rw [Nat.shiftRight_eq_div_pow]
      exact Nat.div_lt_of_lt_mul (Nat.lt_of_lt_of_le hx (by decide))
    have := Nat.and_two_pow_sub_one_of_lt_two_pow (x := x >>> 25) (n := 5) hlt
    simp only [Nat.zero_shiftLeft, Nat.zero_xor]
    exact this
  rw [s0, step 25 (by decide) (by decide), step 20 (by decide) (by decide), step 15 (by decide) (by decide), step 10 (by decide) (by decide), step 5 (by decide) (by decide)]
  rfl
theorem six_xor : ∀ (cs : List Nat) (a : Nat), cs.foldl pmStep a = (cs.map fun _ => 0).foldl pmStep a ^^^ cs.foldl pmStep 0
  | cs, a => by
    have key : ∀ (cs : List Nat) (a b : Nat), cs.foldl pmStep (a ^^^ b) = (cs.map fun _ => 0).foldl pmStep a ^^^ cs.foldl pmStep b := by
      intro cs
      induction cs with
      | nil => intro a b; rfl
      | cons c cs ih =>
        intro a b
        simp only [List.foldl_cons, List.map_cons]
        have e : pmStep (a ^^^ b) c = pmStep a 0 ^^^ pmStep b c := by
          have := pmStep_xor a b 0 c
          rwa [Nat.zero_xor] at this
        rw [e]
        exact ih _ _
    have := key cs a 0
    rwa [Nat.xor_zero] at this
theorem hrpX_lt (cs : List Nat) (h : ∀ c ∈ cs, c < 128) : ∀ n ∈ hrpX cs, n < 32 := by
  intro n hn
  unfold hrpX at hn
  rcases List.mem_append.mp hn with hn | hn
  · rcases List.mem_append.mp hn with hn | hn
    · obtain ⟨c, hc, rfl⟩ := List.mem_map.mp hn
      have := h c hc
      rw [Nat.shiftRight_eq_div_pow]
      omega
    · rw [List.mem_singleton.mp hn]; decide
  · obtain ⟨c, _, rfl⟩ := List.mem_map.mp hn
    exact Nat.lt_of_le_of_lt Nat.and_le_right (by decide)
/-- the checksum closes -/
theorem pm_closes (K : Nat) (hs ds : List Nat) (hK : K < 2 ^ 30) (hh : ∀ n ∈ hs, n < 32) (hd : ∀ n ∈ ds, n < 32) : pm (hs ++ (ds ++ chk6 (pm (hs ++ ds ++ [0, 0, 0, 0, 0, 0]) ^^^ K))) = K := by
  have hb : ∀ n ∈ hs ++ ds, n < 32 := fun n hn => (List.mem_append.mp hn).elim (hh n) (hd n)
  have hP : pm (hs ++ ds ++ [0, 0, 0, 0, 0, 0]) < 2 ^ 30 := foldl_lt _ _ (by decide) fun n hn => by
    rcases List.mem_append.mp hn with h | h
    · exact hb n h
    · simp at h; omega
  generalize hC : pm (hs ++ ds ++ [0, 0, 0, 0, 0, 0]) = P at *
  have hx : P ^^^ K < 2 ^ 30 := Nat.xor_lt_two_pow hP hK
  rw [← List.append_assoc]
  unfold pm at *
  rw [List.foldl_append, six_xor, six_alone _ hx]
  rw [List.foldl_append] at hC
  have e : (chk6 (P ^^^ K)).map (fun _ => 0) = [0, 0, 0, 0, 0, 0] := rfl
  rw [e, hC]
  rw [← Nat.xor_assoc, Nat.xor_self, Nat.zero_xor]
/-- the number that digits spell, most significant first -/
def V (t : Nat) (ns : List Nat) : Nat := ns.foldl (fun a d => a * 2 ^ t + d) 0
theorem V_snoc (t : Nat) (ns : List Nat) (d : Nat) : V t (ns ++ [d]) = V t ns * 2 ^ t + d := by
  unfold V
  rw [List.foldl_append]
  rfl
theorem V_inj (t : Nat) : ∀ (n : Nat) (a b : List Nat), a.length = n → b.length = n → (∀ d ∈ a, d < 2 ^ t) → (∀ d ∈ b, d < 2 ^ t) → V t a = V t b → a = b
  | 0, a, b, ha, hb, _, _, _ => by rw [List.length_eq_zero_iff.mp ha, List.length_eq_zero_iff.mp hb]
  | n + 1, a, b, ha, hb, la, lb, h => by
    rcases List.eq_nil_or_concat a with rfl | ⟨a', x, rfl⟩
    · simp at ha
    rcases List.eq_nil_or_concat b with rfl | ⟨b', y, rfl⟩
    · simp at hb
    rw [List.concat_eq_append, List.concat_eq_append] at *
    have hx := la x (by simp)
    have hy := lb y (by simp)
    rw [V_snoc, V_snoc] at h
    have hp : 0 < 2 ^ t := Nat.two_pow_pos t
    have h1 : x = y := by
      have := congrArg (· % 2 ^ t) h
      simpa [Nat.mul_add_mod', Nat.mod_eq_of_lt hx, Nat.mod_eq_of_lt hy] using this
    have h2 : V t a' = V t b' := by
      subst h1
      exact Nat.eq_of_mul_eq_mul_right hp (Nat.add_right_cancel h)
    have := V_inj t n a' b' (by simpa using ha) (by simpa using hb) (fun d hd => la d (by simp [hd])) (fun d hd => lb d (by simp [hd])) h2
    rw [this, h1]
theorem emit_ok (t acc : Nat) (ht : 0 < t) : ∀ (k bits : Nat) (out : List Nat), bits < t * (k + 1) → (∀ d ∈ out, d < 2 ^ t) →
    (cbEmit t acc k bits out).1 < t ∧ t * (cbEmit t acc k bits out).2.length + (cbEmit t acc k bits out).1 = t * out.length + bits ∧
    V t (cbEmit t acc k bits out).2 * 2 ^ (cbEmit t acc k bits out).1 + acc % 2 ^ (cbEmit t acc k bits out).1 = V t out * 2 ^ bits + acc % 2 ^ bits ∧
    ∀ d ∈ (cbEmit t acc k bits out).2, d < 2 ^ t
  | 0, bits, out, hb, hl => ⟨by rw [Nat.zero_add, Nat.mul_one] at hb; exact hb, rfl, rfl, hl⟩
  | k + 1, bits, out, hb, hl => by
    unfold cbEmit
    by_cases hc : t ≤ bits
    · rw [if_pos hc]
      have hd : (acc >>> (bits - t)) &&& ((1 <<< t) - 1) = acc / 2 ^ (bits - t) % 2 ^ t := by
        rw [Nat.one_shiftLeft, Nat.and_two_pow_sub_one_eq_mod, Nat.shiftRight_eq_div_pow]
      rw [hd]
      have hdl : acc / 2 ^ (bits - t) % 2 ^ t < 2 ^ t := Nat.mod_lt _ (Nat.two_pow_pos t)
      have := emit_ok t acc ht k (bits - t) (out ++ [acc / 2 ^ (bits - t) % 2 ^ t]) (by
        have : t * (k + 1 + 1) = t * (k + 1) + t := by rw [Nat.mul_succ]
        omega) (fun d h => by
        rcases List.mem_append.mp h with h | h
        · exact hl d h
        · rw [List.mem_singleton.mp h]; exact hdl)
      obtain ⟨r1, r2, r3, r4⟩ := this
      refine ⟨r1, ?_, ?_, r4⟩
      · rw [r2, List.length_append, List.length_singleton, Nat.mul_add]
        omega
      · rw [r3, V_snoc]
        obtain ⟨b, hb'⟩ : ∃ b, bits = b + t := ⟨bits - t, by omega⟩
        subst hb'
        rw [Nat.add_sub_cancel, Nat.pow_add, Nat.mod_mul, Nat.add_mul, Nat.mul_assoc, Nat.mul_comm (2 ^ t) (2 ^ b), Nat.mul_comm (acc / 2 ^ b % 2 ^ t)]
        omega
    · rw [if_neg hc]
      exact ⟨by omega, rfl, rfl, hl⟩
structure CbInv (f t : Nat) (ns : List Nat) (c : CbSt) : Prop where
  bits : c.bits < t
  len : t * c.out.length + c.bits = f * ns.length
  val : V t c.out * 2 ^ c.bits + c.acc % 2 ^ c.bits = V f ns
  lt : ∀ d ∈ c.out, d < 2 ^ t
theorem step_ok (f t : Nat) (ht : 0 < t) (hft : t + f ≤ t * 4) (ns : List Nat) (c : CbSt) (v : Nat) (hv : v < 2 ^ f) (I : CbInv f t ns c) : CbInv f t (ns ++ [v]) (cbStep f t c v) := by
  have hacc : ((c.acc <<< f) ||| v) &&& ((1 <<< (f + t - 1)) - 1) = (c.acc * 2 ^ f + v) % 2 ^ (f + t - 1) := by
    rw [Nat.one_shiftLeft, Nat.and_two_pow_sub_one_eq_mod, ← Nat.shiftLeft_add_eq_or_of_lt hv, Nat.shiftLeft_eq]
  have hb := I.bits
  have hmod : (c.acc * 2 ^ f + v) % 2 ^ (f + t - 1) % 2 ^ (c.bits + f) = (c.acc % 2 ^ c.bits) * 2 ^ f + v := by
    rw [Nat.mod_mod_of_dvd _ (Nat.pow_dvd_pow 2 (by omega))]
    rw [Nat.add_comm c.bits f, Nat.pow_add, Nat.mod_mul]
    have e1 : (c.acc * 2 ^ f + v) % 2 ^ f = v := by
      rw [Nat.mul_add_mod', Nat.mod_eq_of_lt hv]
    have e2 : (c.acc * 2 ^ f + v) / 2 ^ f = c.acc := by
      rw [Nat.mul_comm, Nat.mul_add_div (Nat.two_pow_pos f), Nat.div_eq_of_lt hv, Nat.add_zero]
    rw [e1, e2, Nat.mul_comm, Nat.add_comm]
  obtain ⟨r1, r2, r3, r4⟩ := emit_ok t (((c.acc <<< f) ||| v) &&& ((1 <<< (f + t - 1)) - 1)) ht 3 (c.bits + f) c.out (by omega) I.lt
  refine ⟨r1, ?_, ?_, r4⟩
  · show t * (cbEmit t _ 3 (c.bits + f) c.out).2.length + (cbEmit t _ 3 (c.bits + f) c.out).1 = _
    rw [r2, List.length_append, List.length_singleton, Nat.mul_add, ← I.len]
    omega
  · refine Eq.trans r3 ?_
    rw [hacc, hmod, V_snoc, ← I.val, Nat.pow_add, Nat.add_mul, Nat.mul_assoc]
    omega
theorem run_ok (f t : Nat) (ht : 0 < t) (hft : t + f ≤ t * 4) (ns : List Nat) (hn : ∀ n ∈ ns, n < 2 ^ f) : CbInv f t ns (cbRun f t ns) := by
  have key : ∀ (k : Nat) (ns : List Nat), ns.length = k → (∀ n ∈ ns, n < 2 ^ f) → CbInv f t ns (cbRun f t ns) := by
    intro k
    induction k with
    | zero =>
      intro ns h _
      rw [List.length_eq_zero_iff.mp h]
      exact ⟨ht, rfl, by simp [cbRun, V, Nat.mod_one], fun d hd => nomatch hd⟩
    | succ k ih =>
      intro ns h hl
      rcases List.eq_nil_or_concat ns with rfl | ⟨ms, v, rfl⟩
      · simp at h
      rw [List.concat_eq_append] at *
      rw [cbRun_snoc]
      exact step_ok f t ht hft ms _ v (hl v (by simp)) (ih ms (by simpa using h) fun n hn => hl n (by simp [hn]))
  exact key _ ns rfl hn
/-- the regrouped program, padded -/
theorem cb85_ok (pg : List Nat) (hp : ∀ n ∈ pg, n < 256) : ∃ pad, pad < 5 ∧ 5 * (cb85 pg).length = 8 * pg.length + pad ∧ V 5 (cb85 pg) = V 8 pg * 2 ^ pad ∧ ∀ d ∈ cb85 pg, d < 32 := by
  have I := run_ok 8 5 (by decide) (by decide) pg hp
  generalize hc : cbRun 8 5 pg = c at I
  unfold cb85
  rw [hc]
  dsimp only
  have hb := I.bits
  have hlen := I.len
  have hval := I.val
  by_cases h0 : c.bits = 0
  · rw [if_neg (by simpa using h0)]
    refine ⟨0, by decide, by omega, ?_, I.lt⟩
    rw [h0] at hval
    simp [Nat.mod_one] at hval
    omega
  · rw [if_pos h0]
    have hd : (c.acc <<< (5 - c.bits)) &&& ((1 <<< 5) - 1) = (c.acc % 2 ^ c.bits) * 2 ^ (5 - c.bits) := by
      rw [Nat.one_shiftLeft, Nat.and_two_pow_sub_one_eq_mod, Nat.shiftLeft_eq]
      have e : 2 ^ 5 = 2 ^ c.bits * 2 ^ (5 - c.bits) := by rw [← Nat.pow_add]; congr 1; omega
      rw [e, Nat.mul_mod_mul_right]
    rw [hd]
    have hdl : (c.acc % 2 ^ c.bits) * 2 ^ (5 - c.bits) < 32 := by
      have e : 32 = 2 ^ c.bits * 2 ^ (5 - c.bits) := by rw [← Nat.pow_add, show c.bits + (5 - c.bits) = 5 by omega]
      rw [e]
      exact Nat.mul_lt_mul_of_pos_right (Nat.mod_lt _ (Nat.two_pow_pos _)) (Nat.two_pow_pos _)
    refine ⟨5 - c.bits, by omega, ?_, ?_, ?_⟩
    · rw [List.length_append, List.length_singleton]
      omega
    · rw [V_snoc, ← hval, Nat.add_mul, Nat.mul_assoc, ← Nat.pow_add, show c.bits + (5 - c.bits) = 5 by omega]
    · intro d h
      rcases List.mem_append.mp h with h | h
      · exact I.lt d h
      · rw [List.mem_singleton.mp h]; exact hdl
theorem rt_ok (pg : List Nat) (hl : pg.length ≤ 41) (hp : ∀ n ∈ pg, n < 256) : RT pg := by
  obtain ⟨pad, hpad, hlen, hval, hlt⟩ := cb85_ok pg hp
  have I := run_ok 5 8 (by decide) (by decide) (cb85 pg) hlt
  generalize hc : cbRun 5 8 (cb85 pg) = c at I
  have hb := I.bits
  have hl2 := I.len
  have hv2 := I.val
  have hbits : c.bits = pad := by omega
  have hol : c.out.length = pg.length := by omega
  rw [hval, hbits] at hv2
  have hp2 : 0 < 2 ^ pad := Nat.two_pow_pos pad
  have hm : c.acc % 2 ^ pad = 0 := by
    have := congrArg (· % 2 ^ pad) hv2
    simpa [Nat.mul_add_mod'] using this
  have hV : V 8 c.out = V 8 pg := by
    rw [hm, Nat.add_zero] at hv2
    exact Nat.eq_of_mul_eq_mul_right hp2 hv2
  refine ⟨?_, ?_, ?_, by omega, hlt⟩
  · rw [hc]
    exact V_inj 8 _ _ _ hol rfl I.lt hp hV
  · rw [hc]; omega
  · rw [hc, Nat.one_shiftLeft, Nat.and_two_pow_sub_one_eq_mod, Nat.shiftLeft_eq, hbits]
    have e : 2 ^ 8 = 2 ^ pad * 2 ^ (8 - pad) := by rw [← Nat.pow_add]; congr 1; omega
    rw [e, Nat.mul_mod_mul_right, hm, Nat.zero_mul]
theorem pm_ok (K : Nat) (x : Str) (v0 : Nat) (pg : List Nat) (hK : K = 1 ∨ K = 734539939) (hx : ∀ c ∈ x.cps.toList, 97 ≤ c ∧ c ≤ 122) (hv : v0 < 32) (R : RT pg) : pm (hrpX x.cps.toList ++ adr K x v0 pg) = K :=
  pm_closes K _ _ (by rcases hK with rfl | rfl <;> decide) (hrpX_lt _ fun c hc => by have := hx c hc; omega) fun n hn => by
    rcases List.mem_cons.mp hn with rfl | h
    · exact hv
    · exact R.lt n h
theorem CS_inj : ∀ m, m < 32 → ∀ n, n < 32 → CS.getD m 0 = CS.getD n 0 → m = n := by decide +kernel
theorem csOf_inj : ∀ (a b : List Nat), (∀ n ∈ a, n < 32) → (∀ n ∈ b, n < 32) → csOf a = csOf b → a = b
  | [], [], _, _, _ => rfl
  | [], b :: bs, _, _, h => by simp [csOf] at h
  | a :: as, [], _, _, h => by simp [csOf] at h
  | a :: as, b :: bs, ha, hb, h => by
    simp only [csOf, List.map_cons, List.cons.injEq] at h
    rw [CS_inj a (ha a (.head _)) b (hb b (.head _)) h.1, csOf_inj as bs (fun n hn => ha n (.tail _ hn)) (fun n hn => hb n (.tail _ hn)) h.2]
theorem one_other {x : Str} {v0 : Nat} {pg : List Nat} (hv32 : v0 < 32) (R : RT pg) : (bstr x (adr 1 x v0 pg) == bstr x (adr (if v0 = 0 then 1 else 734539939) x v0 pg)) = decide (v0 = 0) := by
  by_cases hv : v0 = 0
  · rw [if_pos hv, decide_eq_true hv]
    exact beq_self_eq_true _
  · rw [if_neg hv, decide_eq_false hv, beq_eq_false_iff_ne]
    intro e
    have e1 : (bstr x (adr 1 x v0 pg)).cps.toList = (bstr x (adr 734539939 x v0 pg)).cps.toList := by rw [e]
    rw [bstr_cps, bstr_cps] at e1
    have e2 := List.append_cancel_left e1
    rw [List.cons.injEq] at e2
    have e3 := csOf_inj _ _ (adr_lt hv32 R) (adr_lt hv32 R) e2.2
    have e4 := List.append_cancel_left e3
    rw [chk6_eq, chk6_eq] at e4
    simp only [List.cons.injEq] at e4
    have e5 := e4.2.2.2.2.2.1
    generalize pm (hrpX x.cps.toList ++ (v0 :: cb85 pg) ++ [0, 0, 0, 0, 0, 0]) = P at e5
    have h1 := congrArg (fun n => Nat.testBit n 1) e5
    simp [Nat.testBit_and, Nat.testBit_xor, Nat.testBit_shiftRight] at h1
    revert h1
    cases Nat.testBit P 1 <;> decide
theorem ints_of : ∀ (ys : List Value), (∀ (i : Nat) (y : Value), ys[i]? = some y → ∃ (k : Int) (t : Tok), y = Value.int k t) → ∃ dg : List Int, dg.length = ys.length ∧ IntsAre ys dg
  | [], _ => ⟨[], rfl, .nil⟩
  | y :: ys, h => by
    obtain ⟨k, t, rfl⟩ := h 0 y rfl
    obtain ⟨dg, hl, hi⟩ := ints_of ys fun i z hz => h (i + 1) z (by simpa using hz)
    exact ⟨k :: dg, by simp [hl], .cons _ t hi⟩

set_option maxRecDepth 100000 in
set_option maxHeartbeats 4000000 in
theorem lawnum {w : World} {p : Program} {loose : List Str} {mg mb : Str → Option Value} {s : Shared} {Q E : Value → Shared → Prop}
  (KX : (Mine.hd.heap_39 w.params).In s.heap) (T : TopRead p loose mg mb s.heap)
  {sc : Addr} {tc : Tok} {vs : List Value} {ns : List Int}
  (hd : s.heap.IsList sc vs.toArray) (hi : IntsAre vs ns) (hl : ns.length ≤ 63)
  (hret : ∀ (l : Addr) (us : List Value) (n : Nat) (h' : Heap) (tk' : Nat), s.heap.StaysIn h' → s.heap.get? l = none → h'.get? l = some (PySem.W.listOf us.toArray n) → (∃ dg : List Int, dg.length = 5 ∧ IntsAre us dg) → Q (.ref l) { s with heap := h', toks := tk' }) :
  wpAny (model prog w) (lvl 900 9000) (call (.ref 145) [.ref sc, .int 5 tc]) Q E s := by
  k_dflt (refine' enterC (binds := [(Str.ofString "script", Value.ref sc), (Str.ofString "count", Value.int 5 tc)]) KX T.nolimit ?k6 ?k7 ?k8 ?k9 ?kB ?kD ?_ ?c2 ?c3 ?c4; (case k6 => k_is); (case k7 => k_is); (case k8 => decide); (case k9 => exact BindsTo.of_eq rfl); (case kB => exact rfl); (case kD => decide +kernel); (case c2 => rfl); (case c3 => rfl); (case c4 => rfl))
  intro h₁ L tk cells F N Y
  k_cells Y
  replace F : Fr s.heap L h₁ (fun y => if y = (Str.ofString "count") then some (Value.int 5 tc) else none) := by with_unfolding_all exact F
  rename Obj => oc
  rename oc.data = _ => d1
  replace d1 : oc.data = .cell (some (.ref sc)) := by with_unfolding_all exact d1
  (try dsimp only)
  (try k_fold)
  walk_at "mine"
  rename Fr _ _ _ _ => F₉
  refine LCg.ListComp_U (F₀ := F₉) (by with_unfolding_all rfl) (by decide) (by rfl) (by decide) (by rfl) ?_
  walk_at "mine"
  rename IsRange _ _ _ _ _ _ _ _ => hr
  rename Fr _ _ _ _ => F₉
  rename News _ _ _ _ => N₉
  refine LCg.CompSrc.range rfl F₉ N₉ hr (by decide) rfl (Nat.le_of_ble_eq_true rfl) ?_
  intro g
  refine rest_of (G := fun i v => ∃ (k : Int) (t : Tok), v = Value.int k t) trivial ?_ ?_
  · intro i v I oI C oC D m₂ ys h tk E' hi' hV hC hx F N off ne
    obtain ⟨ti, rfl⟩ := hV
    rw [Int.zero_add] at hx
    have hi6 : i < 5 := hi'
    walk_at "mine"
    all_goals exact ⟨_, _, rfl, fun _ _ e => e, _, _, rfl⟩
  · intro ys hl hG D h tk F' N' off
    exact hret D ys _ h tk F'.keep (N' _ (.head _)).2.2 (N' _ (.head _)).1 (by obtain ⟨dg, hdl, hdi⟩ := ints_of ys hG; exact ⟨dg, hdl.trans hl, hdi⟩)
theorem ver_flag (v0 : Nat) : ((v0 : Int) == 0) = decide (v0 = 0) := by
  rw [Bool.eq_iff_iff, beq_iff_eq, decide_eq_true_eq]
  omega
theorem name_ne (x : Str) : ¬ x = x ++ Str.ofString "x" := fun e => by
  have h := congrArg Str.length e
  rw [Str.length_append, show (Str.ofString "x").length = 1 from by decide +kernel] at h
  omega
theorem slice6a (K : Nat) (x : Str) (v0 : Nat) (pg : List Nat) : Txt.slice (bstr x (adr K x v0 pg)) none (some (-6)) = bstr x (v0 :: cb85 pg) := slice6 _ _ _ (chk6_length _)
theorem keep13 {B h : Heap} {L : Addr} {a b c : Addr × Obj} (N : News B L h [a, b, c]) : News B L h [a, c] := fun p hp => N p (by
  simp only [List.mem_cons, List.not_mem_nil, or_false] at hp ⊢
  rcases hp with h | h
  · exact .inl h
  · exact .inr (.inr h))
theorem keep34 {B h : Heap} {L : Addr} {a b c d : Addr × Obj} (N : News B L h [a, b, c, d]) : News B L h [c, d] := fun p hp => N p (.tail _ (.tail _ hp))
theorem good2 {v0 p : Nat} (h : p = (if v0 = 0 then 1 else 734539939)) : (v0 = 0 ∧ p = 1) ∨ (v0 ≠ 0 ∧ p = 734539939) := by
  by_cases hv : v0 = 0
  · exact .inl ⟨hv, by rw [h, if_pos hv]⟩
  · exact .inr ⟨hv, by rw [h, if_neg hv]⟩
theorem name_ok (x : Str) (h : x = Str.ofString "bc" ∨ x = Str.ofString "tb" ∨ x = Str.ofString "ltc") : (1 ≤ x.length ∧ x.length ≤ 5) ∧ ∀ c ∈ x.cps.toList, 97 ≤ c ∧ c ≤ 122 := by
  rcases h with rfl | rfl | rfl <;> decide +kernel
theorem adr_len {K : Nat} {x : Str} {v0 : Nat} {pg : List Nat} (R : RT pg) : (adr K x v0 pg).length ≤ 84 := by
  have := R.len
  simp [adr, chk6_length]
  omega
theorem pow7 : ∀ i : Nat, i < 42 → 0 < (7 : Int) ^ (Int.fdiv (i : Int) 2).toNat ∧ ((7 : Int) ^ (Int.fdiv (i : Int) 2).toNat).natAbs.log2 < 9000 := by decide +kernel
theorem news_re2 {mg : Str → Option Value} {bm : Addr} {ob : Obj} {s₁ s' : Shared} {B₀ B : Heap} {L : Addr} {news : List (Addr × Obj)} (l : Later s₁ s') (I : Inv mg bm ob s₁) (N : News B₀ L s₁.heap news) (hn : ∀ p ∈ news, ∀ ps, p.2.data ≠ .fields ps) (hB : ∀ b, B₀.get? b = none → B.get? b = none) : News B L s'.heap news := fun p hp =>
  ⟨l.heap _ _ (I.ne45 (N p hp).1 (hn p hp)) (I.ne115 (N p hp).1 (hn p hp)) (N p hp).1, (N p hp).2.1, hB _ (N p hp).2.2⟩
theorem fdiv2 (i : Nat) (h : i < 42) : 0 ≤ Int.fdiv (i : Int) 2 ∧ Int.fdiv (i : Int) 2 ≤ 1000000 := by
  rw [Int.fdiv_eq_ediv_of_nonneg _ (by decide)]
  omega
theorem nat_of_mod (X : Int) (t : Tok) : ∃ (k : Nat) (u : Tok), k < 256 ∧ Value.int (X.fmod 256) t = Value.int (k : Int) u := by
  have h0 := Int.fmod_nonneg_of_pos X (b := 256) (by decide)
  have h1 := Int.fmod_lt_of_pos X (b := 256) (by decide)
  obtain ⟨k, hk⟩ := Int.eq_ofNat_of_zero_le h0
  exact ⟨k, t, by omega, by rw [hk]⟩
abbrev SoundP (v0 sz : Nat) : Prop := v0 ≤ 16 ∧ 2 ≤ sz ∧ sz ≤ 40 ∧ (0 < v0 ∨ sz = 20 ∨ sz = 32)
theorem small_all : ∀ n : Nat, n < 42 → Builtin.Range.small 0 (n : Int) 1 = true := by decide +kernel
theorem nats_of : ∀ (ys : List Value) (h : ∀ (i : Nat) (y : Value), ys[i]? = some y → ∃ (k : Nat) (t : Tok), k < 256 ∧ y = Value.int (k : Int) t), ∃ pg : List Nat, pg.length = ys.length ∧ NatsAre ys pg ∧ ∀ n ∈ pg, n < 256
  | [], _ => ⟨[], rfl, .nil, fun _ h => nomatch h⟩
  | y :: ys, h => by
    obtain ⟨k, t, hk, rfl⟩ := h 0 y rfl
    obtain ⟨dg, hl, hi, hr⟩ := nats_of ys fun i z hz => h (i + 1) z (by simpa using hz)
    refine ⟨k :: dg, by simp [hl], .cons _ t hi, fun n hn => ?_⟩
    rcases List.mem_cons.mp hn with rfl | hn
    · exact hk
    · exact hr n hn
def LawJ (nm : Str) (P : Value → Prop) (s : Shared) (L : Addr) (m : Str → Option Value) (news : List (Addr × Obj)) (fl : Flow) (s' : Shared) : Prop :=
  fl = .next ∧ ∃ (v : Value) (h' : Heap) (tk' : Nat), s' = ⟨h', s.gens, s.drawn, tk', s.os⟩ ∧ Fr s.heap L h' (fun y => if y = nm then some v else m y) ∧ News s.heap L h' news ∧ P v
theorem fmod_in (a b : Int) (hb : 0 < b) : 0 ≤ a.fmod b ∧ a.fmod b < b := ⟨Int.fmod_nonneg_of_pos a hb, Int.fmod_lt_of_pos a hb⟩

set_option maxRecDepth 100000 in
set_option maxHeartbeats 4000000 in
theorem law1 {w : World} {p : Program} {loose : List Str} {mg mb : Str → Option Value} {s : Shared} {Q E : Value → Shared → Prop}
  (KX : (Mine.hd.heap_39 w.params).In s.heap) (T : TopRead p loose mg mb s.heap)
  {bm : Addr} {ob : Obj} {sc : Addr} {vs : List Value} {ns : List Int}
  (hd : s.heap.IsList sc vs.toArray) (hi : IntsAre vs ns) (hl : ns.length ≤ 63) (I : Inv mg bm ob s) (hRT : ∀ pg : List Nat, pg.length ≤ 41 → (∀ n ∈ pg, n < 256) → RT pg) (hPM : ∀ (K : Nat) (x : Str) (v0 : Nat) (pg : List Nat), K = 1 ∨ K = 734539939 → (∀ c ∈ x.cps.toList, 97 ≤ c ∧ c ≤ 122) → v0 < 32 → RT pg → pm (hrpX x.cps.toList ++ adr K x v0 pg) = K)
  (hret : ∀ (s' : Shared), Later s s' → Inv mg bm ob s' → Q (.bool true) s') :
  wpAny (model prog w) (lvl 400 4000) (call (.ref 150) [.ref sc]) Q E s := by
  k_dflt (refine' enterC (binds := [(Str.ofString "script", Value.ref sc)]) KX T.nolimit ?k6 ?k7 ?k8 ?k9 ?kB ?kD ?_ ?c2 ?c3 ?c4; (case k6 => k_is); (case k7 => k_is); (case k8 => decide); (case k9 => exact BindsTo.of_eq rfl); (case kB => exact rfl); (case kD => decide +kernel); (case c2 => rfl); (case c3 => rfl); (case c4 => rfl))
  intro h₁ L tk cells F N Y
  k_cells Y
  rename Obj => oc
  rename oc.data = _ => d1
  replace F : Fr s.heap L h₁ (fun y => if y = (Str.ofString "script") then some (Value.ref sc) else none) := by with_unfolding_all exact F
  replace d1 : oc.data = .cell none := by with_unfolding_all exact d1
  (try dsimp only)
  (try k_fold)
  walk_at "mine2"
  rename Fr _ _ _ _ => F₂
  rename News _ _ _ _ => N₂
  refine weaken (lawnum (KX.keeps F₂.keep) (T.keeps F₂.keep) (hd.at fun o e => F₂.keep _ o e) hi hl ?_) rfl (Nat.le_of_ble_eq_true rfl) rfl rfl (Nat.le_of_ble_eq_true rfl)
  intro l₃ us n₃ h₃ tk₃ st₃ hn₃ hg₃ hdg
  obtain ⟨dg, hdl, hus⟩ := hdg
  have F₃ := F₂.keeps st₃
  have N₃ := news_add F₂ N₂ st₃ hn₃ hg₃
  clear F₂ N₂
  walk_at "mine2"
  rename Obj => o₄
  have d₄ := ‹o₄.data = _›
  rename Fr _ _ _ _ => F₄
  rename News _ _ _ _ => N₄
  refine wpAny_mono (Q := LawJ (Str.ofString "name") (fun v => ∃ x t, v = Value.str x t ∧ (x = Str.ofString "bc" ∨ x = Str.ofString "tb" ∨ x = Str.ofString "ltc")) s L (fun y => if y = (Str.ofString "script") then some (Value.ref sc) else none) [(l₃, PySem.W.listOf us.toArray n₃), (L + 1, o₄)]) ?_ ?_ (fun _ _ e => e)
  · walk_at "mine"
    all_goals
      rename Fr _ _ _ _ => Fz
      rename News _ _ _ _ => Nz
      exact ⟨rfl, _, _, _, rfl, Fz, fun p hp => Nz p (by first | exact hp | exact .tail _ hp), _, _, rfl, by first | exact .inl rfl | exact .inr (.inl rfl) | exact .inr (.inr rfl)⟩
  rintro fl s' ⟨rfl, _, h₅, tk₅, rfl, F₅, N₅, x, tx, rfl, hx⟩
  dsimp only at F₅
  clear F₄ N₄
  walk_at "mine2"
  refine wpAny_mono (Q := LawJ (Str.ofString "version") (fun v => ∃ (k : Int) (t : Tok), v = Value.int k t ∧ 0 ≤ k ∧ k < 18) s L (fun y => if y = (Str.ofString "name") then some (Value.str x tx) else if y = (Str.ofString "script") then some (Value.ref sc) else none) [(l₃, PySem.W.listOf us.toArray n₃), (L + 1, o₄)]) ?_ ?_ (fun _ _ e => e)
  · walk_at "mine"
    all_goals
      rename Fr _ _ _ _ => Fz
      rename News _ _ _ _ => Nz
      exact ⟨rfl, _, _, _, rfl, Fz, fun p hp => Nz p (by first | exact hp | exact .tail _ hp), _, _, rfl, by first | exact ⟨by decide, by decide⟩ | exact fmod_in _ 18 (by decide)⟩
  rintro fl s' ⟨rfl, _, h₆, tk₆, rfl, F₆, N₆, k₆, tv, rfl, hk0, hk1⟩
  obtain ⟨v0, rfl⟩ := Int.eq_ofNat_of_zero_le hk0
  dsimp only at F₆
  clear F₅ N₅
  walk_at "mine2"
  refine wpAny_mono (Q := LawJ (Str.ofString "size") (fun v => ∃ (k : Int) (t : Tok), v = Value.int k t ∧ 0 ≤ k ∧ k < 42) s L (fun y => if y = (Str.ofString "version") then some (Value.int (v0 : Int) tv) else if y = (Str.ofString "name") then some (Value.str x tx) else if y = (Str.ofString "script") then some (Value.ref sc) else none) [(l₃, PySem.W.listOf us.toArray n₃), (L + 1, o₄)]) ?_ ?_ (fun _ _ e => e)
  · walk_at "mine"
    all_goals
      rename Fr _ _ _ _ => Fz
      rename News _ _ _ _ => Nz
      exact ⟨rfl, _, _, _, rfl, Fz, fun p hp => Nz p (by first | exact hp | exact .tail _ hp), _, _, rfl, by first | exact ⟨by decide, by decide⟩ | exact fmod_in _ 42 (by decide)⟩
  rintro fl s' ⟨rfl, _, h₇, tk₇, rfl, F₇, N₇, k₇, tz, rfl, hz0, hz1⟩
  obtain ⟨sz, rfl⟩ := Int.eq_ofNat_of_zero_le hz0
  dsimp only at F₇
  clear F₆ N₆
  walk_at "mine2"
  refine LCg.Assign_ListComp_U (F₀ := F₇) rfl (by with_unfolding_all rfl) (by with_unfolding_all rfl) (by decide) (by rfl) (by decide) (by rfl) (by rfl) (by rfl) ?_
  walk_at "mine2"
  rename IsRange _ _ _ _ _ _ _ _ => hr
  rename Fr _ _ _ _ => F₈
  rename News _ _ _ _ => N₈
  refine LCg.CompSrc.range (n := sz) rfl F₈ N₈ hr (small_all sz (by omega)) (by rw [rangeSize_nat]; simp) (by rw [PySem.sizeLine_eq]; omega) ?_
  intro g
  refine rest_of (G := fun i v => ∃ (k : Nat) (t : Tok), k < 256 ∧ v = Value.int (k : Int) t) trivial ?_ ?_
  · intro i v I oI C oC D m₂ ys h tk E' hi' hV hC hx' F N off ne
    obtain ⟨ti, rfl⟩ := hV
    rw [Int.zero_add] at hx'
    have hi41 : i < 42 := by omega
    dsimp only
    walk_at "mine2"
    refine pow_int_small (fdiv2 i hi41).1 (fdiv2 i hi41).2 (by decide) ?_
    obtain ⟨hP, hP2⟩ := pow7 i hi41
    generalize hPe : (7 : Int) ^ (_ : Nat) = P at hP hP2 ⊢
    clear hPe
    refine floordiv_int (by omega) ?_ (Or.inl (PyProof.noPylong_of_log2 hP2))
    walk_at "mine2"
    exact ⟨_, _, rfl, fun _ _ e => e, nat_of_mod _ _⟩
  · intro ys hly hG D h tk F' N' off
    obtain ⟨pg, hpl, hpg, hpr⟩ := nats_of ys hG
    have N₉ : News s.heap L h [(D, LCg.lst ys)] := fun p hp => N' p (by rw [List.mem_singleton.mp hp]; exact .head _)
    dsimp only at F'
    clear N'
    walk_at "mine2"
    refine wpAny_mono (Q := LawJ (Str.ofString "sound") (fun v => v = Value.bool (decide (SoundP v0 sz))) s L (fun y => if y = (Str.ofString "program") then some (Value.ref D) else if y = (Str.ofString "size") then some (Value.int (sz : Int) tz) else if y = (Str.ofString "version") then some (Value.int (v0 : Int) tv) else if y = (Str.ofString "name") then some (Value.str x tx) else if y = (Str.ofString "script") then some (Value.ref sc) else none) [(D, LCg.lst ys)]) ?_ ?_ (fun _ _ e => e)
    · walk_at "mine"
      all_goals
        rename Fr _ _ _ _ => Fz
        rename News _ _ _ _ => Nz
        exact ⟨rfl, _, _, _, rfl, Fz, fun p hp => Nz p (by first | exact hp | exact .tail _ hp | exact .tail _ (.tail _ hp)), congrArg Value.bool (by rw [Bool.eq_iff_iff]; simp; omega)⟩
    rintro fl s' ⟨rfl, _, h₁₀, tk₁₀, rfl, F₁₀, N₁₀, rfl⟩
    dsimp only at F₁₀
    have hlen : pg.length = sz := hpl.trans hly
    have hpl41 : pg.length ≤ 41 := by omega
    have hv32 : v0 < 32 := by omega
    have R := hRT pg hpl41 hpr
    have hfs : Fits v0 pg ↔ SoundP v0 sz := by unfold Fits SoundP; rw [hlen]; omega
    obtain ⟨hx1, hxl⟩ := name_ok x hx
    have hpm1 := hPM 1 x v0 pg (.inl rfl) hxl hv32 R
    have hpm2 : pm (hrpX x.cps.toList ++ adr (if v0 = 0 then 1 else 734539939) x v0 pg) = (if v0 = 0 then 1 else 734539939) := hPM _ x v0 pg (by split; exact .inl rfl; exact .inr rfl) hxl hv32 R
    generalize hsb : decide (SoundP v0 sz) = sb at F₁₀
    clear hG hr hus d₄ st₃ hn₃ hg₃
    walk_at "mine2"
    rename Fr _ _ _ _ => Fa1
    rename News _ _ _ _ => Na1
    have Nk1 := Na1
    refine weaken (encode1 (KX.keeps Fa1.keep) (T.keeps Fa1.keep) hx1 hxl hv32 (news_list Nk1 (.head _)) hpg hpl41 hpr R hpm1 (I.of_keep Fa1.keep rfl) ?_) rfl (Nat.le_of_ble_eq_true rfl) rfl rfl (Nat.le_of_ble_eq_true rfl)
    intro v1 S1 l1 I1 E1
    obtain ⟨B1, hk1, hz1, lC1, IB1, hB1⟩ := rebase I (l1.start Fa1.keep rfl) I1
    have F1 := fr_re' l1 (I.of_keep Fa1.keep rfl) Fa1 hk1 hz1
    have N1 := news_re2 l1 (I.of_keep Fa1.keep rfl) Nk1 (by intro p hp ps; rw [List.mem_singleton.mp hp]; intro q; cases q) hB1
    have KB1 : (Mine.hd.heap_39 w.params).In B1 := in_later KX (by rfl) (by rfl) lC1
    have TB1 : TopRead p loose mg mb B1 := top_later I lC1 T
    have lB1 := lC1
    walk_at "mine2"
    rename Fr _ _ _ _ => Fa2
    rename News _ _ _ _ => Na2
    have Nk2 := Na2
    refine weaken (encode2 (KB1.keeps Fa2.keep) (TB1.keeps Fa2.keep) hx1 hxl hv32 (news_list Nk2 (.head _)) hpg hpl41 hpr R hpm2 (IB1.of_keep Fa2.keep rfl) ?_) rfl (Nat.le_of_ble_eq_true rfl) rfl rfl (Nat.le_of_ble_eq_true rfl)
    intro v2 S2 l2 I2 E2
    obtain ⟨B2, hk2, hz2, lC2, IB2, hB2⟩ := rebase IB1 (l2.start Fa2.keep rfl) I2
    have F2 := fr_re' l2 (IB1.of_keep Fa2.keep rfl) Fa2 hk2 hz2
    have N2 := news_re2 l2 (IB1.of_keep Fa2.keep rfl) Nk2 (by intro p hp ps; rw [List.mem_singleton.mp hp]; intro q; cases q) hB2
    have KB2 : (Mine.hd.heap_39 w.params).In B2 := in_later KB1 (by rfl) (by rfl) lC2
    have TB2 : TopRead p loose mg mb B2 := top_later IB1 lC2 TB1
    have lB2 := lB1.trans lC2
    clear KB1 TB1 IB1 lB1 lC2 I2
    rcases E1 with ⟨hf, t1, rfl⟩ | ⟨hf, rfl⟩
    case inl =>
      rcases E2 with ⟨_, t2, rfl⟩ | ⟨hf2, rfl⟩
      case inr => exact absurd hf hf2
      have hS : SoundP v0 sz := hfs.mp hf
      obtain rfl : sb = true := by rw [← hsb]; exact decide_eq_true hS
      clear hsb
      walk_at "mine2"
      rename Fr _ _ _ _ => Fa3
      rename News _ _ _ _ => Na3
      have Nk3 := keep13 Na3
      refine weaken (decode1 (x := x) (z := (bstr x (adr 1 x v0 pg))) (d0 := v0) (rest := cb85 pg) (c6 := chk6 (pm (hrpX x.cps.toList ++ (v0 :: cb85 pg) ++ [0, 0, 0, 0, 0, 0]) ^^^ 1)) (KB2.keeps Fa3.keep) (TB2.keeps Fa3.keep) (lower_bstr hxl (adr_lt (K := 1) hv32 R)) (.inl (lower_bstr hxl (adr_lt (K := 1) hv32 R))) (adr_lt (K := 1) hv32 R) hx1 (small_ascii x hxl) (chk6_length _) R.len (by rw [R.out]; omega) R.bits R.left (IB2.of_keep Fa3.keep rfl) (by rw [bstr_len]; have := adr_len (K := 1) (x := x) (v0 := v0) R; omega) (bstr_plain hxl (adr_lt (K := 1) hv32 R)).1 (bstr_plain hxl (adr_lt (K := 1) hv32 R)).2 ?_) rfl (Nat.le_of_ble_eq_true rfl) rfl rfl (Nat.le_of_ble_eq_true rfl)
      intro v3 S3 l3 I3 E3
      obtain ⟨B3, hk3, hz3, lC3, IB3, hB3⟩ := rebase IB2 (l3.start Fa3.keep rfl) I3
      have F3 := fr_re' l3 (IB2.of_keep Fa3.keep rfl) Fa3 hk3 hz3
      have N3 := news_re2 l3 (IB2.of_keep Fa3.keep rfl) Nk3 (by intro p hp ps; simp only [List.mem_cons, List.not_mem_nil, or_false] at hp; rcases hp with rfl | rfl <;> (intro q; cases q)) hB3
      have KB3 : (Mine.hd.heap_39 w.params).In B3 := in_later KB2 (by rfl) (by rfl) lC3
      have TB3 : TopRead p loose mg mb B3 := top_later IB2 lC3 TB2
      have lB3 := lB2.trans lC3
      clear KB2 TB2 IB2 lB2 lC3 I3
      rw [R.out] at E3
      obtain ⟨a3, rfl, hna3, hD3⟩ := E3
      rcases hD3 with ⟨_, t3, m3, ws3, n3, ea3, hnl3, el3, hws3⟩ | ⟨hg, _⟩
      case inr => exact absurd ⟨hpm1, rfl, (hfs.mpr hS)⟩ hg
      replace N3 := news_re Fa3 hnl3 hB3 el3 (news_re Fa3 hna3 hB3 ea3 N3)
      have hI3 : IntsAre ws3 (pg.map (fun (n : Nat) => (n : Int))) := hws3
      clear Fa3 Na3 Nk3 hk3 hz3 hB3 l3
      walk_at "mine2"
      rename News _ _ _ _ => Nc
      refine ne_dataH (reads_tuple_at (Nc _ (.tail _ (.head _))).1 rfl rfl (.cons (.int _ _) (.cons (reads_newData (news_list Nc (.head _)) (ke_carried hI3)) .nil))) (reads_tuple_at (Nc _ (.tail _ (.tail _ (.head _)))).1 rfl rfl (.cons (.int _ _) (.cons (reads_newData (news_list Nc (.tail _ (.tail _ (.tail _ (.head _))))) (ke_carried hpg)) .nil))) (shaped_pair _ _) (shaped_pair _ _) (by ke_room) ?_
      rw [eqv_pair_pair]
      walk_at "mine2"
      rename Fr _ _ _ _ => Fa4
      rename News _ _ _ _ => Na4
      have Nk4 := keep34 Na4
      refine weaken (decode2 (x := x) (z := (bstr x (adr (if v0 = 0 then 1 else 734539939) x v0 pg))) (d0 := v0) (rest := cb85 pg) (c6 := chk6 (pm (hrpX x.cps.toList ++ (v0 :: cb85 pg) ++ [0, 0, 0, 0, 0, 0]) ^^^ (if v0 = 0 then 1 else 734539939))) (KB3.keeps Fa4.keep) (TB3.keeps Fa4.keep) (lower_bstr hxl (adr_lt (K := (if v0 = 0 then 1 else 734539939)) hv32 R)) (.inl (lower_bstr hxl (adr_lt (K := (if v0 = 0 then 1 else 734539939)) hv32 R))) (adr_lt (K := (if v0 = 0 then 1 else 734539939)) hv32 R) hx1 (small_ascii x hxl) (chk6_length _) R.len (by rw [R.out]; omega) R.bits R.left (IB3.of_keep Fa4.keep rfl) (by rw [bstr_len]; have := adr_len (K := (if v0 = 0 then 1 else 734539939)) (x := x) (v0 := v0) R; omega) (bstr_plain hxl (adr_lt (K := (if v0 = 0 then 1 else 734539939)) hv32 R)).1 (bstr_plain hxl (adr_lt (K := (if v0 = 0 then 1 else 734539939)) hv32 R)).2 ?_) rfl (Nat.le_of_ble_eq_true rfl) rfl rfl (Nat.le_of_ble_eq_true rfl)
      intro v4 S4 l4 I4 E4
      obtain ⟨B4, hk4, hz4, lC4, IB4, hB4⟩ := rebase IB3 (l4.start Fa4.keep rfl) I4
      have F4 := fr_re' l4 (IB3.of_keep Fa4.keep rfl) Fa4 hk4 hz4
      have N4 := news_re2 l4 (IB3.of_keep Fa4.keep rfl) Nk4 (by intro p hp ps; simp only [List.mem_cons, List.not_mem_nil, or_false] at hp; rcases hp with rfl | rfl <;> (intro q; cases q)) hB4
      have KB4 : (Mine.hd.heap_39 w.params).In B4 := in_later KB3 (by rfl) (by rfl) lC4
      have TB4 : TopRead p loose mg mb B4 := top_later IB3 lC4 TB3
      have lB4 := lB3.trans lC4
      clear KB3 TB3 IB3 lB3 lC4 I4
      rw [R.out] at E4
      obtain ⟨a4, rfl, hna4, hD4⟩ := E4
      rcases hD4 with ⟨_, t4, m4, ws4, n4, ea4, hnl4, el4, hws4⟩ | ⟨hg, _⟩
      case inr => exact absurd ⟨good2 hpm2, rfl, (hfs.mpr hS)⟩ hg
      replace N4 := news_re Fa4 hnl4 hB4 el4 (news_re Fa4 hna4 hB4 ea4 N4)
      have hI4 : IntsAre ws4 (pg.map (fun (n : Nat) => (n : Int))) := hws4
      clear Fa4 Na4 Nk4 hk4 hz4 hB4 l4
      walk_at "mine2"
      rename News _ _ _ _ => Nc
      refine ne_dataH (reads_tuple_at (Nc _ (.tail _ (.head _))).1 rfl rfl (.cons (.int _ _) (.cons (reads_newData (news_list Nc (.head _)) (ke_carried hI4)) .nil))) (reads_tuple_at (Nc _ (.tail _ (.tail _ (.head _)))).1 rfl rfl (.cons (.int _ _) (.cons (reads_newData (news_list Nc (.tail _ (.tail _ (.tail _ (.head _))))) (ke_carried hpg)) .nil))) (shaped_pair _ _) (shaped_pair _ _) (by ke_room) ?_
      rw [eqv_pair_pair]
      walk_at "mine2"
      refine SCL.upper (by rw [bstr_len]; have := adr_len (K := 1) (x := x) (v0 := v0) R; omega) fun _ => ?_
      rw [upper_bstr hxl (adr_lt (K := 1) hv32 R)]
      walk_at "mine2"
      rename Fr _ _ _ _ => Fa5
      rename News _ _ _ _ => Na5
      have Nk5 := keep34 Na5
      refine weaken (decode1 (s := ⟨S4.heap, S4.gens, S4.drawn, S4.toks + 1, S4.os⟩) (x := x) (z := (bup x (adr 1 x v0 pg))) (d0 := v0) (rest := cb85 pg) (c6 := chk6 (pm (hrpX x.cps.toList ++ (v0 :: cb85 pg) ++ [0, 0, 0, 0, 0, 0]) ^^^ 1)) (KB4.keeps Fa5.keep) (TB4.keeps Fa5.keep) (lower_bup hxl (adr_lt (K := 1) hv32 R)) (.inr (upper_bup hxl (adr_lt (K := 1) hv32 R))) (adr_lt (K := 1) hv32 R) hx1 (small_ascii x hxl) (chk6_length _) R.len (by rw [R.out]; omega) R.bits R.left (Inv.of_keep (s' := ⟨S4.heap, S4.gens, S4.drawn, S4.toks + 1, S4.os⟩) IB4 Fa5.keep rfl) (by rw [bup_len]; have := adr_len (K := 1) (x := x) (v0 := v0) R; omega) (bup_plain hxl (adr_lt (K := 1) hv32 R)).1 (bup_plain hxl (adr_lt (K := 1) hv32 R)).2 ?_) rfl (Nat.le_of_ble_eq_true rfl) rfl rfl (Nat.le_of_ble_eq_true rfl)
      intro v5 S5 l5 I5 E5
      obtain ⟨B5, hk5, hz5, lC5, IB5, hB5⟩ := rebase IB4 (l5.start Fa5.keep rfl) I5
      have F5 := fr_re' l5 (IB4.of_keep Fa5.keep rfl) Fa5 hk5 hz5
      have N5 := news_re2 l5 (IB4.of_keep Fa5.keep rfl) Nk5 (by intro p hp ps; simp only [List.mem_cons, List.not_mem_nil, or_false] at hp; rcases hp with rfl | rfl <;> (intro q; cases q)) hB5
      have KB5 : (Mine.hd.heap_39 w.params).In B5 := in_later KB4 (by rfl) (by rfl) lC5
      have TB5 : TopRead p loose mg mb B5 := top_later IB4 lC5 TB4
      have lB5 := lB4.trans lC5
      clear KB4 TB4 IB4 lB4 lC5 I5
      rw [R.out] at E5
      obtain ⟨a5, rfl, hna5, hD5⟩ := E5
      rcases hD5 with ⟨_, t5, m5, ws5, n5, ea5, hnl5, el5, hws5⟩ | ⟨hg, _⟩
      case inr => exact absurd ⟨hpm1, rfl, (hfs.mpr hS)⟩ hg
      replace N5 := news_re Fa5 hnl5 hB5 el5 (news_re Fa5 hna5 hB5 ea5 N5)
      have hI5 : IntsAre ws5 (pg.map (fun (n : Nat) => (n : Int))) := hws5
      clear Fa5 Na5 Nk5 hk5 hz5 hB5 l5
      walk_at "mine2"
      rename News _ _ _ _ => Nc
      refine ne_dataH (reads_tuple_at (Nc _ (.tail _ (.head _))).1 rfl rfl (.cons (.int _ _) (.cons (reads_newData (news_list Nc (.head _)) (ke_carried hI5)) .nil))) (reads_tuple_at (Nc _ (.tail _ (.tail _ (.head _)))).1 rfl rfl (.cons (.int _ _) (.cons (reads_newData (news_list Nc (.tail _ (.tail _ (.tail _ (.head _))))) (ke_carried hpg)) .nil))) (shaped_pair _ _) (shaped_pair _ _) (by ke_room) ?_
      rw [eqv_pair_pair]
      walk_at "mine2"
      refine SCL.upper (by rw [bstr_len]; have := adr_len (K := (if v0 = 0 then 1 else 734539939)) (x := x) (v0 := v0) R; omega) fun _ => ?_
      rw [upper_bstr hxl (adr_lt (K := (if v0 = 0 then 1 else 734539939)) hv32 R)]
      walk_at "mine2"
      rename Fr _ _ _ _ => Fa6
      rename News _ _ _ _ => Na6
      have Nk6 := keep34 Na6
      refine weaken (decode2 (s := ⟨S5.heap, S5.gens, S5.drawn, S5.toks + 1, S5.os⟩) (x := x) (z := (bup x (adr (if v0 = 0 then 1 else 734539939) x v0 pg))) (d0 := v0) (rest := cb85 pg) (c6 := chk6 (pm (hrpX x.cps.toList ++ (v0 :: cb85 pg) ++ [0, 0, 0, 0, 0, 0]) ^^^ (if v0 = 0 then 1 else 734539939))) (KB5.keeps Fa6.keep) (TB5.keeps Fa6.keep) (lower_bup hxl (adr_lt (K := (if v0 = 0 then 1 else 734539939)) hv32 R)) (.inr (upper_bup hxl (adr_lt (K := (if v0 = 0 then 1 else 734539939)) hv32 R))) (adr_lt (K := (if v0 = 0 then 1 else 734539939)) hv32 R) hx1 (small_ascii x hxl) (chk6_length _) R.len (by rw [R.out]; omega) R.bits R.left (Inv.of_keep (s' := ⟨S5.heap, S5.gens, S5.drawn, S5.toks + 1, S5.os⟩) IB5 Fa6.keep rfl) (by rw [bup_len]; have := adr_len (K := (if v0 = 0 then 1 else 734539939)) (x := x) (v0 := v0) R; omega) (bup_plain hxl (adr_lt (K := (if v0 = 0 then 1 else 734539939)) hv32 R)).1 (bup_plain hxl (adr_lt (K := (if v0 = 0 then 1 else 734539939)) hv32 R)).2 ?_) rfl (Nat.le_of_ble_eq_true rfl) rfl rfl (Nat.le_of_ble_eq_true rfl)
      intro v6 S6 l6 I6 E6
      obtain ⟨B6, hk6, hz6, lC6, IB6, hB6⟩ := rebase IB5 (l6.start Fa6.keep rfl) I6
      have F6 := fr_re' l6 (IB5.of_keep Fa6.keep rfl) Fa6 hk6 hz6
      have N6 := news_re2 l6 (IB5.of_keep Fa6.keep rfl) Nk6 (by intro p hp ps; simp only [List.mem_cons, List.not_mem_nil, or_false] at hp; rcases hp with rfl | rfl <;> (intro q; cases q)) hB6
      have KB6 : (Mine.hd.heap_39 w.params).In B6 := in_later KB5 (by rfl) (by rfl) lC6
      have TB6 : TopRead p loose mg mb B6 := top_later IB5 lC6 TB5
      have lB6 := lB5.trans lC6
      clear KB5 TB5 IB5 lB5 lC6 I6
      rw [R.out] at E6
      obtain ⟨a6, rfl, hna6, hD6⟩ := E6
      rcases hD6 with ⟨_, t6, m6, ws6, n6, ea6, hnl6, el6, hws6⟩ | ⟨hg, _⟩
      case inr => exact absurd ⟨good2 hpm2, rfl, (hfs.mpr hS)⟩ hg
      replace N6 := news_re Fa6 hnl6 hB6 el6 (news_re Fa6 hna6 hB6 ea6 N6)
      have hI6 : IntsAre ws6 (pg.map (fun (n : Nat) => (n : Int))) := hws6
      clear Fa6 Na6 Nk6 hk6 hz6 hB6 l6
      walk_at "mine2"
      rename News _ _ _ _ => Nc
      refine ne_dataH (reads_tuple_at (Nc _ (.tail _ (.head _))).1 rfl rfl (.cons (.int _ _) (.cons (reads_newData (news_list Nc (.head _)) (ke_carried hI6)) .nil))) (reads_tuple_at (Nc _ (.tail _ (.tail _ (.head _)))).1 rfl rfl (.cons (.int _ _) (.cons (reads_newData (news_list Nc (.tail _ (.tail _ (.tail _ (.head _))))) (ke_carried hpg)) .nil))) (shaped_pair _ _) (shaped_pair _ _) (by ke_room) ?_
      rw [eqv_pair_pair]
      walk_at "mine2"
      rename Fr _ _ _ _ => Fs
      rename News _ _ _ _ => Ns
      refine slice_strN_ns Fs Ns (fun h_ t_ k_ F_ N_ => ?_) (hsz := by rw [bstr_len, PySem.sizeLine_eq]; have := adr_len (K := 1) (x := x) (v0 := v0) R; omega)
      rw [slice6a]
      clear Fs Ns
      walk_at "mine2"
      rename Fr _ _ _ _ => Fs
      rename News _ _ _ _ => Ns
      refine slice_strN_ns Fs Ns (fun h_ t_ k_ F_ N_ => ?_) (hsz := by rw [bstr_len, PySem.sizeLine_eq]; have := adr_len (K := (if v0 = 0 then 1 else 734539939)) (x := x) (v0 := v0) R; omega)
      rw [slice6a]
      clear Fs Ns
      walk_at "mine2"
      · have q := ‹(_ != _) = true›
        simp at q
      · have q := ‹(_ != _) = true›
        rw [one_other hv32 R, ver_flag] at q
        simp at q
      by_cases hv0 : v0 = 0
      · have hv0i : ((v0 : Nat) : Int) = 0 := by omega
        walk_at "mine3"
        rename Fr _ _ _ _ => Fa7
        rename News _ _ _ _ => Na7
        have Nk7 := keep34 Na7
        refine weaken (decode1 (x := x) (z := (bstr x (adr (if v0 = 0 then 1 else 734539939) x v0 pg))) (d0 := v0) (rest := cb85 pg) (c6 := chk6 (pm (hrpX x.cps.toList ++ (v0 :: cb85 pg) ++ [0, 0, 0, 0, 0, 0]) ^^^ (if v0 = 0 then 1 else 734539939))) (KB6.keeps Fa7.keep) (TB6.keeps Fa7.keep) (lower_bstr hxl (adr_lt (K := (if v0 = 0 then 1 else 734539939)) hv32 R)) (.inl (lower_bstr hxl (adr_lt (K := (if v0 = 0 then 1 else 734539939)) hv32 R))) (adr_lt (K := (if v0 = 0 then 1 else 734539939)) hv32 R) hx1 (small_ascii x hxl) (chk6_length _) R.len (by rw [R.out]; omega) R.bits R.left (IB6.of_keep Fa7.keep rfl) (by rw [bstr_len]; have := adr_len (K := (if v0 = 0 then 1 else 734539939)) (x := x) (v0 := v0) R; omega) (bstr_plain hxl (adr_lt (K := (if v0 = 0 then 1 else 734539939)) hv32 R)).1 (bstr_plain hxl (adr_lt (K := (if v0 = 0 then 1 else 734539939)) hv32 R)).2 ?_) rfl (Nat.le_of_ble_eq_true rfl) rfl rfl (Nat.le_of_ble_eq_true rfl)
        intro v7 S7 l7 I7 E7
        obtain ⟨B7, hk7, hz7, lC7, IB7, hB7⟩ := rebase IB6 (l7.start Fa7.keep rfl) I7
        have F7 := fr_re' l7 (IB6.of_keep Fa7.keep rfl) Fa7 hk7 hz7
        have N7 := news_re2 l7 (IB6.of_keep Fa7.keep rfl) Nk7 (by intro p hp ps; simp only [List.mem_cons, List.not_mem_nil, or_false] at hp; rcases hp with rfl | rfl <;> (intro q; cases q)) hB7
        have KB7 : (Mine.hd.heap_39 w.params).In B7 := in_later KB6 (by rfl) (by rfl) lC7
        have TB7 : TopRead p loose mg mb B7 := top_later IB6 lC7 TB6
        have lB7 := lB6.trans lC7
        clear KB6 TB6 IB6 lB6 lC7 I7
        rw [R.out] at E7
        obtain ⟨a7, rfl, hna7, hD7⟩ := E7
        rcases hD7 with ⟨_, t7, m7, ws7, n7, ea7, hnl7, el7, hws7⟩ | ⟨hg, _⟩
        case inr => exact absurd ⟨hpm2.trans (if_pos hv0), rfl, (hfs.mpr hS)⟩ hg
        replace N7 := news_re Fa7 hnl7 hB7 el7 (news_re Fa7 hna7 hB7 ea7 N7)
        have hI7 : IntsAre ws7 (pg.map (fun (n : Nat) => (n : Int))) := hws7
        clear Fa7 Na7 Nk7 hk7 hz7 hB7 l7
        walk_at "mine3"
        rotate_left
        · exfalso; omega
        rename News _ _ _ _ => Nc
        refine ne_dataH (reads_tuple_at (Nc _ (.tail _ (.head _))).1 rfl rfl (.cons (.int _ _) (.cons (reads_newData (news_list Nc (.head _)) (ke_carried hI7)) .nil))) (reads_tuple_at (Nc _ (.tail _ (.tail _ (.head _)))).1 rfl rfl (.cons (.int _ _) (.cons (reads_newData (news_list Nc (.tail _ (.tail _ (.tail _ (.head _))))) (ke_carried hpg)) .nil))) (shaped_pair _ _) (shaped_pair _ _) (by ke_room) ?_
        rw [eqv_pair_pair]
        walk_at "mine3"
        generalize S7.heap = hh7 at *
        rename Fr _ _ _ _ => Fa8
        rename News _ _ _ _ => Na8
        have Nk8 := keep34 Na8
        refine weaken (decode2 (x := x) (z := (bstr x (adr 1 x v0 pg))) (d0 := v0) (rest := cb85 pg) (c6 := chk6 (pm (hrpX x.cps.toList ++ (v0 :: cb85 pg) ++ [0, 0, 0, 0, 0, 0]) ^^^ 1)) (KB7.keeps Fa8.keep) (TB7.keeps Fa8.keep) (lower_bstr hxl (adr_lt (K := 1) hv32 R)) (.inl (lower_bstr hxl (adr_lt (K := 1) hv32 R))) (adr_lt (K := 1) hv32 R) hx1 (small_ascii x hxl) (chk6_length _) R.len (by rw [R.out]; omega) R.bits R.left (IB7.of_keep Fa8.keep rfl) (by rw [bstr_len]; have := adr_len (K := 1) (x := x) (v0 := v0) R; omega) (bstr_plain hxl (adr_lt (K := 1) hv32 R)).1 (bstr_plain hxl (adr_lt (K := 1) hv32 R)).2 ?_) rfl (Nat.le_of_ble_eq_true rfl) rfl rfl (Nat.le_of_ble_eq_true rfl)
        intro v8 S8 l8 I8 E8
        obtain ⟨B8, hk8, hz8, lC8, IB8, hB8⟩ := rebase IB7 (l8.start Fa8.keep rfl) I8
        have F8 := fr_re' l8 (IB7.of_keep Fa8.keep rfl) Fa8 hk8 hz8
        have N8 := news_re2 l8 (IB7.of_keep Fa8.keep rfl) Nk8 (by intro p hp ps; simp only [List.mem_cons, List.not_mem_nil, or_false] at hp; rcases hp with rfl | rfl <;> (intro q; cases q)) hB8
        have KB8 : (Mine.hd.heap_39 w.params).In B8 := in_later KB7 (by rfl) (by rfl) lC8
        have TB8 : TopRead p loose mg mb B8 := top_later IB7 lC8 TB7
        have lB8 := lB7.trans lC8
        clear KB7 TB7 IB7 lB7 lC8 I8
        rw [R.out] at E8
        obtain ⟨a8, rfl, hna8, hD8⟩ := E8
        rcases hD8 with ⟨_, t8, m8, ws8, n8, ea8, hnl8, el8, hws8⟩ | ⟨hg, _⟩
        case inr => exact absurd ⟨.inl ⟨hv0, hpm1⟩, rfl, (hfs.mpr hS)⟩ hg
        replace N8 := news_re Fa8 hnl8 hB8 el8 (news_re Fa8 hna8 hB8 ea8 N8)
        have hI8 : IntsAre ws8 (pg.map (fun (n : Nat) => (n : Int))) := hws8
        clear Fa8 Na8 Nk8 hk8 hz8 hB8 l8
        walk_at "mine3"
        rotate_left
        · exfalso; omega
        rename News _ _ _ _ => Nc
        refine ne_dataH (reads_tuple_at (Nc _ (.tail _ (.head _))).1 rfl rfl (.cons (.int _ _) (.cons (reads_newData (news_list Nc (.head _)) (ke_carried hI8)) .nil))) (reads_tuple_at (Nc _ (.tail _ (.tail _ (.head _)))).1 rfl rfl (.cons (.int _ _) (.cons (reads_newData (news_list Nc (.tail _ (.tail _ (.tail _ (.head _))))) (ke_carried hpg)) .nil))) (shaped_pair _ _) (shaped_pair _ _) (by ke_room) ?_
        rw [eqv_pair_pair]
        walk_at "mine3"
        generalize S8.heap = hh8 at *
        refine PyProof.Rows.add_str ?_ (by rw [PySem.sizeLine_eq, show (Str.ofString "x").length = 1 from by decide +kernel]; omega)
        intro t_ k_
        walk_at "mine3"
        rename Fr _ _ _ _ => Fa9
        rename News _ _ _ _ => Na9
        have Nk9 := keep34 Na9
        refine weaken (decode1 (x := x) (z := (bstr x (adr 1 x v0 pg))) (d0 := v0) (rest := cb85 pg) (c6 := chk6 (pm (hrpX x.cps.toList ++ (v0 :: cb85 pg) ++ [0, 0, 0, 0, 0, 0]) ^^^ 1)) (KB8.keeps Fa9.keep) (TB8.keeps Fa9.keep) (lower_bstr hxl (adr_lt (K := 1) hv32 R)) (.inl (lower_bstr hxl (adr_lt (K := 1) hv32 R))) (adr_lt (K := 1) hv32 R) hx1 (small_ascii x hxl) (chk6_length _) R.len (by rw [R.out]; omega) R.bits R.left (IB8.of_keep Fa9.keep rfl) (by rw [bstr_len]; have := adr_len (K := 1) (x := x) (v0 := v0) R; omega) (bstr_plain hxl (adr_lt (K := 1) hv32 R)).1 (bstr_plain hxl (adr_lt (K := 1) hv32 R)).2 ?_) rfl (Nat.le_of_ble_eq_true rfl) rfl rfl (Nat.le_of_ble_eq_true rfl)
        intro v9 S9 l9 I9 E9
        obtain ⟨B9, hk9, hz9, lC9, IB9, hB9⟩ := rebase IB8 (l9.start Fa9.keep rfl) I9
        have F9 := fr_re' l9 (IB8.of_keep Fa9.keep rfl) Fa9 hk9 hz9
        have N9 := news_re2 l9 (IB8.of_keep Fa9.keep rfl) Nk9 (by intro p hp ps; simp only [List.mem_cons, List.not_mem_nil, or_false] at hp; rcases hp with rfl | rfl <;> (intro q; cases q)) hB9
        have KB9 : (Mine.hd.heap_39 w.params).In B9 := in_later KB8 (by rfl) (by rfl) lC9
        have TB9 : TopRead p loose mg mb B9 := top_later IB8 lC9 TB8
        have lB9 := lB8.trans lC9
        clear KB8 TB8 IB8 lB8 lC9 I9
        rw [R.out] at E9
        obtain ⟨a9, rfl, hna9, hD9⟩ := E9
        rcases hD9 with ⟨hg, _⟩ | ⟨_, ea9⟩
        case inl => exact absurd hg (fun g => name_ne x g.2.1)
        replace N9 := news_re Fa9 hna9 hB9 ea9 N9
        clear Fa9 Na9 Nk9 hk9 hz9 hB9 l9
        walk_at "mine3"
        rename News _ _ _ _ => Nc
        refine eq_dataH (reads_tuple_at (Nc _ (.tail _ (.head _))).1 rfl rfl (.cons .none (.cons .none .nil))) (reads_tuple_at (Nc _ (.head _)).1 rfl rfl (.cons .none (.cons .none .nil))) shaped_none2 shaped_none2 (by ke_room) ?_
        rw [eqv_none_none]
        walk_at "mine3"
        refine PyProof.Rows.add_str ?_ (by rw [PySem.sizeLine_eq, show (Str.ofString "x").length = 1 from by decide +kernel]; omega)
        intro t_ k_
        walk_at "mine3"
        rename Fr _ _ _ _ => Fa10
        rename News _ _ _ _ => Na10
        have Nk10 := keep34 Na10
        refine weaken (decode2 (x := x) (z := (bstr x (adr (if v0 = 0 then 1 else 734539939) x v0 pg))) (d0 := v0) (rest := cb85 pg) (c6 := chk6 (pm (hrpX x.cps.toList ++ (v0 :: cb85 pg) ++ [0, 0, 0, 0, 0, 0]) ^^^ (if v0 = 0 then 1 else 734539939))) (KB9.keeps Fa10.keep) (TB9.keeps Fa10.keep) (lower_bstr hxl (adr_lt (K := (if v0 = 0 then 1 else 734539939)) hv32 R)) (.inl (lower_bstr hxl (adr_lt (K := (if v0 = 0 then 1 else 734539939)) hv32 R))) (adr_lt (K := (if v0 = 0 then 1 else 734539939)) hv32 R) hx1 (small_ascii x hxl) (chk6_length _) R.len (by rw [R.out]; omega) R.bits R.left (IB9.of_keep Fa10.keep rfl) (by rw [bstr_len]; have := adr_len (K := (if v0 = 0 then 1 else 734539939)) (x := x) (v0 := v0) R; omega) (bstr_plain hxl (adr_lt (K := (if v0 = 0 then 1 else 734539939)) hv32 R)).1 (bstr_plain hxl (adr_lt (K := (if v0 = 0 then 1 else 734539939)) hv32 R)).2 ?_) rfl (Nat.le_of_ble_eq_true rfl) rfl rfl (Nat.le_of_ble_eq_true rfl)
        intro v10 S10 l10 I10 E10
        obtain ⟨B10, hk10, hz10, lC10, IB10, hB10⟩ := rebase IB9 (l10.start Fa10.keep rfl) I10
        have F10 := fr_re' l10 (IB9.of_keep Fa10.keep rfl) Fa10 hk10 hz10
        have N10 := news_re2 l10 (IB9.of_keep Fa10.keep rfl) Nk10 (by intro p hp ps; simp only [List.mem_cons, List.not_mem_nil, or_false] at hp; rcases hp with rfl | rfl <;> (intro q; cases q)) hB10
        have KB10 : (Mine.hd.heap_39 w.params).In B10 := in_later KB9 (by rfl) (by rfl) lC10
        have TB10 : TopRead p loose mg mb B10 := top_later IB9 lC10 TB9
        have lB10 := lB9.trans lC10
        clear KB9 TB9 IB9 lB9 lC10 I10
        rw [R.out] at E10
        obtain ⟨a10, rfl, hna10, hD10⟩ := E10
        rcases hD10 with ⟨hg, _⟩ | ⟨_, ea10⟩
        case inl => exact absurd hg (fun g => name_ne x g.2.1)
        replace N10 := news_re Fa10 hna10 hB10 ea10 N10
        clear Fa10 Na10 Nk10 hk10 hz10 hB10 l10
        walk_at "mine3"
        rename News _ _ _ _ => Nc
        refine eq_dataH (reads_tuple_at (Nc _ (.tail _ (.head _))).1 rfl rfl (.cons .none (.cons .none .nil))) (reads_tuple_at (Nc _ (.head _)).1 rfl rfl (.cons .none (.cons .none .nil))) shaped_none2 shaped_none2 (by ke_room) ?_
        rw [eqv_none_none]
        walk_at "mine3"
        rename Fr _ _ _ _ => Fz
        exact hret _ (lB10.trans (Later.of_keep Fz.keep rfl)) (IB10.of_keep Fz.keep rfl)
      · have hv0i : ((v0 : Nat) : Int) ≠ 0 := by omega
        walk_at "mine3"
        rename Fr _ _ _ _ => Fa7
        rename News _ _ _ _ => Na7
        have Nk7 := keep34 Na7
        refine weaken (decode1 (x := x) (z := (bstr x (adr (if v0 = 0 then 1 else 734539939) x v0 pg))) (d0 := v0) (rest := cb85 pg) (c6 := chk6 (pm (hrpX x.cps.toList ++ (v0 :: cb85 pg) ++ [0, 0, 0, 0, 0, 0]) ^^^ (if v0 = 0 then 1 else 734539939))) (KB6.keeps Fa7.keep) (TB6.keeps Fa7.keep) (lower_bstr hxl (adr_lt (K := (if v0 = 0 then 1 else 734539939)) hv32 R)) (.inl (lower_bstr hxl (adr_lt (K := (if v0 = 0 then 1 else 734539939)) hv32 R))) (adr_lt (K := (if v0 = 0 then 1 else 734539939)) hv32 R) hx1 (small_ascii x hxl) (chk6_length _) R.len (by rw [R.out]; omega) R.bits R.left (IB6.of_keep Fa7.keep rfl) (by rw [bstr_len]; have := adr_len (K := (if v0 = 0 then 1 else 734539939)) (x := x) (v0 := v0) R; omega) (bstr_plain hxl (adr_lt (K := (if v0 = 0 then 1 else 734539939)) hv32 R)).1 (bstr_plain hxl (adr_lt (K := (if v0 = 0 then 1 else 734539939)) hv32 R)).2 ?_) rfl (Nat.le_of_ble_eq_true rfl) rfl rfl (Nat.le_of_ble_eq_true rfl)
        intro v7 S7 l7 I7 E7
        obtain ⟨B7, hk7, hz7, lC7, IB7, hB7⟩ := rebase IB6 (l7.start Fa7.keep rfl) I7
        have F7 := fr_re' l7 (IB6.of_keep Fa7.keep rfl) Fa7 hk7 hz7
        have N7 := news_re2 l7 (IB6.of_keep Fa7.keep rfl) Nk7 (by intro p hp ps; simp only [List.mem_cons, List.not_mem_nil, or_false] at hp; rcases hp with rfl | rfl <;> (intro q; cases q)) hB7
        have KB7 : (Mine.hd.heap_39 w.params).In B7 := in_later KB6 (by rfl) (by rfl) lC7
        have TB7 : TopRead p loose mg mb B7 := top_later IB6 lC7 TB6
        have lB7 := lB6.trans lC7
        clear KB6 TB6 IB6 lB6 lC7 I7
        rw [R.out] at E7
        obtain ⟨a7, rfl, hna7, hD7⟩ := E7
        rcases hD7 with ⟨hg, _⟩ | ⟨_, ea7⟩
        case inl => exact absurd hg (fun g => absurd (g.1.symm.trans (hpm2.trans (if_neg hv0))) (by decide))
        replace N7 := news_re Fa7 hna7 hB7 ea7 N7
        clear Fa7 Na7 Nk7 hk7 hz7 hB7 l7
        walk_at "mine3"
        · exfalso; omega
        rename News _ _ _ _ => Nc
        refine ne_dataH (reads_tuple_at (Nc _ (.tail _ (.head _))).1 rfl rfl (.cons .none (.cons .none .nil))) (reads_tuple_at (Nc _ (.head _)).1 rfl rfl (.cons .none (.cons .none .nil))) shaped_none2 shaped_none2 (by ke_room) ?_
        rw [eqv_none_none]
        walk_at "mine3"
        rename Fr _ _ _ _ => Fa8
        rename News _ _ _ _ => Na8
        have Nk8 := keep34 Na8
        refine weaken (decode2 (x := x) (z := (bstr x (adr 1 x v0 pg))) (d0 := v0) (rest := cb85 pg) (c6 := chk6 (pm (hrpX x.cps.toList ++ (v0 :: cb85 pg) ++ [0, 0, 0, 0, 0, 0]) ^^^ 1)) (KB7.keeps Fa8.keep) (TB7.keeps Fa8.keep) (lower_bstr hxl (adr_lt (K := 1) hv32 R)) (.inl (lower_bstr hxl (adr_lt (K := 1) hv32 R))) (adr_lt (K := 1) hv32 R) hx1 (small_ascii x hxl) (chk6_length _) R.len (by rw [R.out]; omega) R.bits R.left (IB7.of_keep Fa8.keep rfl) (by rw [bstr_len]; have := adr_len (K := 1) (x := x) (v0 := v0) R; omega) (bstr_plain hxl (adr_lt (K := 1) hv32 R)).1 (bstr_plain hxl (adr_lt (K := 1) hv32 R)).2 ?_) rfl (Nat.le_of_ble_eq_true rfl) rfl rfl (Nat.le_of_ble_eq_true rfl)
        intro v8 S8 l8 I8 E8
        obtain ⟨B8, hk8, hz8, lC8, IB8, hB8⟩ := rebase IB7 (l8.start Fa8.keep rfl) I8
        have F8 := fr_re' l8 (IB7.of_keep Fa8.keep rfl) Fa8 hk8 hz8
        have N8 := news_re2 l8 (IB7.of_keep Fa8.keep rfl) Nk8 (by intro p hp ps; simp only [List.mem_cons, List.not_mem_nil, or_false] at hp; rcases hp with rfl | rfl <;> (intro q; cases q)) hB8
        have KB8 : (Mine.hd.heap_39 w.params).In B8 := in_later KB7 (by rfl) (by rfl) lC8
        have TB8 : TopRead p loose mg mb B8 := top_later IB7 lC8 TB7
        have lB8 := lB7.trans lC8
        clear KB7 TB7 IB7 lB7 lC8 I8
        rw [R.out] at E8
        obtain ⟨a8, rfl, hna8, hD8⟩ := E8
        rcases hD8 with ⟨hg, _⟩ | ⟨_, ea8⟩
        case inl => exact absurd hg (fun g => by rcases g.1 with ⟨h, _⟩ | ⟨_, h⟩; exact hv0 h; exact absurd (h.symm.trans hpm1) (by decide))
        replace N8 := news_re Fa8 hna8 hB8 ea8 N8
        clear Fa8 Na8 Nk8 hk8 hz8 hB8 l8
        walk_at "mine3"
        · exfalso; omega
        rename News _ _ _ _ => Nc
        refine ne_dataH (reads_tuple_at (Nc _ (.tail _ (.head _))).1 rfl rfl (.cons .none (.cons .none .nil))) (reads_tuple_at (Nc _ (.head _)).1 rfl rfl (.cons .none (.cons .none .nil))) shaped_none2 shaped_none2 (by ke_room) ?_
        rw [eqv_none_none]
        walk_at "mine3"
        refine PyProof.Rows.add_str ?_ (by rw [PySem.sizeLine_eq, show (Str.ofString "x").length = 1 from by decide +kernel]; omega)
        intro t_ k_
        walk_at "mine3"
        rename Fr _ _ _ _ => Fa9
        rename News _ _ _ _ => Na9
        have Nk9 := keep34 Na9
        refine weaken (decode1 (x := x) (z := (bstr x (adr 1 x v0 pg))) (d0 := v0) (rest := cb85 pg) (c6 := chk6 (pm (hrpX x.cps.toList ++ (v0 :: cb85 pg) ++ [0, 0, 0, 0, 0, 0]) ^^^ 1)) (KB8.keeps Fa9.keep) (TB8.keeps Fa9.keep) (lower_bstr hxl (adr_lt (K := 1) hv32 R)) (.inl (lower_bstr hxl (adr_lt (K := 1) hv32 R))) (adr_lt (K := 1) hv32 R) hx1 (small_ascii x hxl) (chk6_length _) R.len (by rw [R.out]; omega) R.bits R.left (IB8.of_keep Fa9.keep rfl) (by rw [bstr_len]; have := adr_len (K := 1) (x := x) (v0 := v0) R; omega) (bstr_plain hxl (adr_lt (K := 1) hv32 R)).1 (bstr_plain hxl (adr_lt (K := 1) hv32 R)).2 ?_) rfl (Nat.le_of_ble_eq_true rfl) rfl rfl (Nat.le_of_ble_eq_true rfl)
        intro v9 S9 l9 I9 E9
        obtain ⟨B9, hk9, hz9, lC9, IB9, hB9⟩ := rebase IB8 (l9.start Fa9.keep rfl) I9
        have F9 := fr_re' l9 (IB8.of_keep Fa9.keep rfl) Fa9 hk9 hz9
        have N9 := news_re2 l9 (IB8.of_keep Fa9.keep rfl) Nk9 (by intro p hp ps; simp only [List.mem_cons, List.not_mem_nil, or_false] at hp; rcases hp with rfl | rfl <;> (intro q; cases q)) hB9
        have KB9 : (Mine.hd.heap_39 w.params).In B9 := in_later KB8 (by rfl) (by rfl) lC9
        have TB9 : TopRead p loose mg mb B9 := top_later IB8 lC9 TB8
        have lB9 := lB8.trans lC9
        clear KB8 TB8 IB8 lB8 lC9 I9
        rw [R.out] at E9
        obtain ⟨a9, rfl, hna9, hD9⟩ := E9
        rcases hD9 with ⟨hg, _⟩ | ⟨_, ea9⟩
        case inl => exact absurd hg (fun g => name_ne x g.2.1)
        replace N9 := news_re Fa9 hna9 hB9 ea9 N9
        clear Fa9 Na9 Nk9 hk9 hz9 hB9 l9
        walk_at "mine3"
        rename News _ _ _ _ => Nc
        refine eq_dataH (reads_tuple_at (Nc _ (.tail _ (.head _))).1 rfl rfl (.cons .none (.cons .none .nil))) (reads_tuple_at (Nc _ (.head _)).1 rfl rfl (.cons .none (.cons .none .nil))) shaped_none2 shaped_none2 (by ke_room) ?_
        rw [eqv_none_none]
        walk_at "mine3"
        refine PyProof.Rows.add_str ?_ (by rw [PySem.sizeLine_eq, show (Str.ofString "x").length = 1 from by decide +kernel]; omega)
        intro t_ k_
        walk_at "mine3"
        rename Fr _ _ _ _ => Fa10
        rename News _ _ _ _ => Na10
        have Nk10 := keep34 Na10
        refine weaken (decode2 (x := x) (z := (bstr x (adr (if v0 = 0 then 1 else 734539939) x v0 pg))) (d0 := v0) (rest := cb85 pg) (c6 := chk6 (pm (hrpX x.cps.toList ++ (v0 :: cb85 pg) ++ [0, 0, 0, 0, 0, 0]) ^^^ (if v0 = 0 then 1 else 734539939))) (KB9.keeps Fa10.keep) (TB9.keeps Fa10.keep) (lower_bstr hxl (adr_lt (K := (if v0 = 0 then 1 else 734539939)) hv32 R)) (.inl (lower_bstr hxl (adr_lt (K := (if v0 = 0 then 1 else 734539939)) hv32 R))) (adr_lt (K := (if v0 = 0 then 1 else 734539939)) hv32 R) hx1 (small_ascii x hxl) (chk6_length _) R.len (by rw [R.out]; omega) R.bits R.left (IB9.of_keep Fa10.keep rfl) (by rw [bstr_len]; have := adr_len (K := (if v0 = 0 then 1 else 734539939)) (x := x) (v0 := v0) R; omega) (bstr_plain hxl (adr_lt (K := (if v0 = 0 then 1 else 734539939)) hv32 R)).1 (bstr_plain hxl (adr_lt (K := (if v0 = 0 then 1 else 734539939)) hv32 R)).2 ?_) rfl (Nat.le_of_ble_eq_true rfl) rfl rfl (Nat.le_of_ble_eq_true rfl)
        intro v10 S10 l10 I10 E10
        obtain ⟨B10, hk10, hz10, lC10, IB10, hB10⟩ := rebase IB9 (l10.start Fa10.keep rfl) I10
        have F10 := fr_re' l10 (IB9.of_keep Fa10.keep rfl) Fa10 hk10 hz10
        have N10 := news_re2 l10 (IB9.of_keep Fa10.keep rfl) Nk10 (by intro p hp ps; simp only [List.mem_cons, List.not_mem_nil, or_false] at hp; rcases hp with rfl | rfl <;> (intro q; cases q)) hB10
        have KB10 : (Mine.hd.heap_39 w.params).In B10 := in_later KB9 (by rfl) (by rfl) lC10
        have TB10 : TopRead p loose mg mb B10 := top_later IB9 lC10 TB9
        have lB10 := lB9.trans lC10
        clear KB9 TB9 IB9 lB9 lC10 I10
        rw [R.out] at E10
        obtain ⟨a10, rfl, hna10, hD10⟩ := E10
        rcases hD10 with ⟨hg, _⟩ | ⟨_, ea10⟩
        case inl => exact absurd hg (fun g => name_ne x g.2.1)
        replace N10 := news_re Fa10 hna10 hB10 ea10 N10
        clear Fa10 Na10 Nk10 hk10 hz10 hB10 l10
        walk_at "mine3"
        rename News _ _ _ _ => Nc
        refine eq_dataH (reads_tuple_at (Nc _ (.tail _ (.head _))).1 rfl rfl (.cons .none (.cons .none .nil))) (reads_tuple_at (Nc _ (.head _)).1 rfl rfl (.cons .none (.cons .none .nil))) shaped_none2 shaped_none2 (by ke_room) ?_
        rw [eqv_none_none]
        walk_at "mine3"
        rename Fr _ _ _ _ => Fz
        exact hret _ (lB10.trans (Later.of_keep Fz.keep rfl)) (IB10.of_keep Fz.keep rfl)
    case inr =>
      rcases E2 with ⟨hf2, t2, rfl⟩ | ⟨_, rfl⟩
      case inl => exact absurd hf2 hf
      obtain rfl : sb = false := by rw [← hsb]; exact decide_eq_false fun h => hf (hfs.mpr h)
      walk_at "mine"
      rename Fr _ _ _ _ => Fz
      exact hret _ (lB2.trans (Later.of_keep Fz.keep rfl)) (IB2.of_keep Fz.keep rfl)
/-- the heap behind the program's top, with the two tables of codes that the calls fill -/
noncomputable def heapM (P : Params) : Frag := (45, { cls := .none, data := .fields #[] }) :: (115, { cls := .none, data := .fields #[] }) :: Mine.hd.heap_39 P
theorem heap_of {P : Params} {h : Heap} (X : (heapM P).In h) : (Mine.hd.heap_39 P).In h := fun a o e => X a o (by
  have n45 : (Mine.hd.heap_39 P).lookup 45 = none := by rfl
  have n115 : (Mine.hd.heap_39 P).lookup 115 = none := by rfl
  have h1 : (a == 45) = false := by
    rw [beq_eq_false_iff_ne]
    rintro rfl
    rw [n45] at e; cases e
  have h2 : (a == 115) = false := by
    rw [beq_eq_false_iff_ne]
    rintro rfl
    rw [n115] at e; cases e
  unfold heapM
  rw [List.lookup_cons, h1, List.lookup_cons, h2]
  exact e)
theorem oldK_later {mg mg' : Str → Option Value} {bm bm' : Addr} {ob ob' : Obj} {s s' : Shared} (I : Inv mg bm ob s) (h45 : s.heap.get? 45 = some { cls := .none, data := .fields #[] }) (h115 : s.heap.get? 115 = some { cls := .none, data := .fields #[] })
    (l : Later s s') (I' : Inv mg' bm' ob' s') : OldK s.heap s'.heap := by
  obtain ⟨ps, q⟩ := I'.m1.at
  obtain ⟨ps', q'⟩ := I'.m2.at
  constructor
  · intro b o e
    by_cases h1 : b = 45
    · subst h1
      rw [h45] at e
      cases e
      exact .inr (.inl ⟨let ⟨_, _, t, _⟩ := I.m1; t.isCodeTable, rfl, #[], ps, rfl, by rw [q]; simp⟩)
    · by_cases h2 : b = 115
      · subst h2
        rw [h115] at e
        cases e
        exact .inr (.inl ⟨let ⟨_, _, t, _⟩ := I.m2; t.isCodeTable, rfl, #[], ps', rfl, by rw [q']; simp⟩)
      · exact .inl (l.heap b o h1 h2 e)
  · intro b o e
    by_cases h1 : b = 45
    · subst h1; exact ⟨_, q⟩
    · by_cases h2 : b = 115
      · subst h2; exact ⟨_, q'⟩
      · exact ⟨_, l.heap b o h1 h2 e⟩
theorem memo45 {P : Params} {h : Heap} (X : (Mine.hd.heap_39 P).In h) (e : h.get? 45 = some { cls := .none, data := .fields #[] }) : Memo 47 45 h :=
  ⟨#[], ⟨_, _, _, _, _, _, _, _, _, _, X 47 _ (by rfl), by rfl, by rfl, by rfl, by rfl, by rfl, by rfl, e, rfl, trivial, by decide⟩, ⟨⟨_, _, X 47 _ (by rfl), by rfl, by rfl, by rfl⟩, e⟩, memoOk_nil⟩
theorem memo115 {P : Params} {h : Heap} (X : (Mine.hd.heap_39 P).In h) (e : h.get? 115 = some { cls := .none, data := .fields #[] }) : Memo 117 115 h :=
  ⟨#[], ⟨_, _, _, _, _, _, _, _, _, _, X 117 _ (by rfl), by rfl, by rfl, by rfl, by rfl, by rfl, by rfl, e, rfl, trivial, by decide⟩, ⟨⟨_, _, X 117 _ (by rfl), by rfl, by rfl, by rfl⟩, e⟩, memoOk_nil⟩
end Mine
set_option maxRecDepth 100000 in
set_option maxHeartbeats 8000000 in
theorem PySem.Challenge.cw_vn0012_01_holds : PySem.Challenge.rw_vn0012_01.Holds := by
  w_on
  o_law
  o_head (kHook Mine.heapM [45, 115, 2, 3, 15, 17, 18, 20, 21, 22, 25, 26, 27, 29, 30, 32, 33, 34, 37, 38, 39, 42, 43, 44, 47, 48, 49, 50, 52, 53, 55, 56, 57, 59, 60, 62, 63, 64, 66, 67, 69, 70, 78, 79, 80, 81, 82, 85, 87, 88, 90, 91, 92, 95, 96, 97, 99, 100, 102, 103, 104, 107, 108, 109, 112, 113, 114, 117, 118, 119, 120, 122, 123, 125, 126, 127, 129, 130, 132, 133, 134, 136, 137, 139, 140, 141, 144, 145, 146, 149, 150] (fun _ => by kernel_rfl))
  (case hw => w_witness2)
  intro w s₀ s₁ mg mb G Y fa o pm cd doc dV kV ho hd hcd hD hmg hg args vals as hpre hlay hrd hwl hlo
  have KM : (Mine.heapM w.params).In s₁.heap := kIn_of Y
  clear Y
  refine Ground.open G ?_
  intro T B D TE TW
  obtain ⟨bm, ob, M⟩ := bmod_of_top T
  clear B D TE TW G hcd hD ho hd
  wrow_args hpre hlay hrd hwl hlo
  have KH := Mine.heap_of KM
  have h45 := KM 45 _ (by rfl)
  have h115 := KM 115 _ (by rfl)
  have I : Mine.Inv mg bm ob s₁ := ⟨Mine.memo45 KH h45, Mine.memo115 KH h115, by rw [hg]; exact AllBare.empty, M⟩
  have e : some (Value.ref 150) = some (Value.ref fa) := (mg_of KH T.g (n := Str.ofString "law") (by rfl)).symm.trans hmg
  cases e
  refine Mine.weaken (Mine.law1 KH (topRead_of T) (by assumption) (by assumption) (by omega) I Mine.rt_ok Mine.pm_ok ?_) rfl (Nat.le_of_ble_eq_true rfl) rfl rfl (Nat.le_of_ble_eq_true rfl)
  intro s' l I'
  refine ⟨.inl ⟨_, _, [], rfl, fun _ => rfl, ReadsW.bool true, ?_, fun _ => ⟨List.nodup_nil, fun _ hm => nomatch hm⟩⟩, Mine.oldK_later I h45 h115 l I', l.os, I'.bare⟩
  first | rfl | wrow_post
