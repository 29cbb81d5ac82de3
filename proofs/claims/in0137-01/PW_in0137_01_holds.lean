import PyProof.Rows.All
import Wide.All
import OpenK.AllK
import Wide.FinOn
import PySem.Challenge.RW_in0137_01
open PySem PySem.W PySem.Calls PyProof.Rows
set_option Elab.async false
set_option maxRecDepth 100000
set_option maxHeartbeats 4000000
namespace Mine
set_option synthInstance.maxHeartbeats 1 in
open_top hd for PySem.Challenge.rw_in0137_01
theorem off_E1 : True := by
  w_top off
  exact True.intro
def Keep (h h' : Heap) : Prop := ∀ b o, h.get? b = some o → h'.get? b = some o
theorem Keep.refl (h : Heap) : Keep h h := fun _ _ e => e
theorem Keep.trans {a b c : Heap} (x : Keep a b) (y : Keep b c) : Keep a c := fun _ _ e => y _ _ (x _ _ e)

section
variable {prog : Program} {w : World} {A : Around} {s : Shared} {K : Frag} {R : Result → Shared → Prop} {name qual : Str} {params : Arguments} {body : List Stmt} {scope : Scope} {dV kV doc pm cdv ct oc : Value} {an od : Option Addr} {osl : Array (Option Value)} {f : Addr} {args : Args} {binds : List (Str × Value)}
/-- entering a def without cells: the whole heap at the call is the frame's ground -/
theorem enter_plain (X : K.In s.heap) (hlim : s.heap.NoLimit)
    (ho : K.lookup f = some ⟨oc, od, .func (fnOf name qual params body scope dV kV doc pm an cdv ct), osl⟩) (hcd : codeIn K cdv qual = true) (hroom : A.depth < recursionLimit)
    (hbind : BindsTo s (fnOf name qual params body scope dV kV doc pm an cdv ct) args binds) (hloc : ∀ y ∈ binds, scope.names.lookup y.1 = some .local)
    (h : ∀ L' h₁, Fr s.heap L' h₁ (fun y => binds.reverse.lookup y) → News s.heap L' h₁ [] →
      wpAny (model prog w) (A.deeper (envOf qual scope L' f cdv)) (execs body (envOf qual scope L' f cdv))
        (fun fl s' => R (.ok (.ret (match fl with | .ret v => v | _ => .none))) s') (fun _ _ => False)
        { s with heap := h₁, toks := s.toks + binds.length })
    (hco : scope.isCoroutine = false) (hgen : scope.isGenerator = false) (hk : scope.kind = .function)
    (hcell : ∀ x ∈ scope.names, x.2 ≠ .cell) : codeAny (model prog w) A (.call (.ref f) args) R s := by
  refine codeAny_call_def (fd := fnOf name qual params body scope dV kV doc pm an cdv ct) (body := body) (binds := binds) hroom (X _ _ ho) rfl hlim (codeRec_of X hcd) rfl hbind hcell hloc (fun h₁ hns hk₁ => ?_) hco hgen hk
  exact wpAny_mono (h s.heap.objs.size h₁ ⟨hns, hk₁, Nat.le_refl _⟩ News.nil) (fun _ _ x => x) fun _ _ x => x.elim
/-- entering a def with cells -/
theorem enter_cells (X : K.In s.heap) (hlim : s.heap.NoLimit)
    (ho : K.lookup f = some ⟨oc, od, .func (fnOf name qual params body scope dV kV doc pm an cdv ct), osl⟩) (hcd : codeIn K cdv qual = true) (hroom : A.depth < recursionLimit)
    (hbind : BindsTo s (fnOf name qual params body scope dV kV doc pm an cdv ct) args binds) (hkind : (binds.all fun y => scope.names.lookup y.1 == some .local || scope.names.lookup y.1 == some .cell) = true)
    (hnd : ((cellsFrom 0 scope.names []).map (·.1)).Nodup)
    (h : ∀ L' h₁ tk cells, Fr s.heap L' h₁ (bindL (envOfC qual scope L' f cdv).kindOf binds fun _ => none) → News s.heap L' h₁ cells →
      CellsAre (bindC (envOfC qual scope L' f cdv).kindOf binds fun _ => none) (cellsFrom (L' + 1) scope.names []) cells →
      wpAny (model prog w) (A.deeper (envOfC qual scope L' f cdv)) (execs body (envOfC qual scope L' f cdv))
        (fun fl s' => R (.ok (.ret (match fl with | .ret v => v | _ => .none))) s') (fun _ _ => False)
        { s with heap := h₁, toks := tk })
    (hco : scope.isCoroutine = false) (hgen : scope.isGenerator = false) (hk : scope.kind = .function) : codeAny (model prog w) A (.call (.ref f) args) R s := by
  refine codeAny_call_function hroom (X _ _ ho) rfl hco hgen rfl (codeRec_of X hcd) (hbind _ _ _ _ ?_)
  refine wpAny_newFunctionEnv_cells hk (kindsX hkind _) fun env' he s' x => ?_
  subst he
  refine ⟨hlim.keeps x.toInCall.keep, codeAny_func ?_⟩
  obtain ⟨h₁, tk, rfl, _⟩ := x.done
  have hk₁ := x.toInCall.keep
  obtain ⟨cells, NC, Y⟩ := Cl.news (h₀ := s.heap) (Nat.le_refl _) fun n c hm => ⟨x.cell n c (lookup_of_mem_nodup (cellsFrom_names scope.names 0 (s.heap.objs.size + 1) [] [] rfl ▸ hnd) hm), x.above n c hm⟩
  exact wpAny_mono (h s.heap.objs.size h₁ tk cells ⟨x.toInCall.ns, hk₁, Nat.le_refl _⟩ NC Y) (fun _ _ x => x) fun _ _ x => x.elim
end
theorem args_issub (a b : Value) : argsOk "issubclass.nested" ⟨[a, b, rawInt 1], []⟩ := by unfold argsOk; kernel_rfl
theorem plain_issub : plainId "issubclass.nested" = true := by decide +kernel
theorem kind_issub : builtinKind "issubclass.nested" = none := by decide +kernel

theorem issub_one {prog : Program} {w : World} {A : Around} {E : Value → Shared → Prop} {s : Shared} {Q : Fin → Shared → Prop} {k : Value} {d : Int} {tk : Tok} (hk : k = .int d tk) (hq : Q (.done (.ret (.bool true))) s) :
    wpAny (model prog w) A (Builtin.«issubclass.nested» ⟨[.type "str", .type "str", k], []⟩) Q E s := by
  subst hk
  have h1 : typeOf (.type "str") = pure (.type "type") := by kernel_rfl
  have h2 := isSubtype_str_str
  repeat (any_goals (first | assumption | rw [if_pos (by rfl)] | rw [h2] | wp_step))
theorem call_issub_one {prog : Program} {w : World} {A : Around} {E : Value → Shared → Prop} {s : Shared} {Q : Value → Shared → Prop} {c : Value} (hc : c = .type "str") (hq : Q (.bool true) s) :
    wpAny (model prog w) A (call (.builtin "issubclass.nested") [.type "str", c, rawInt (0 + 1)]) Q E s := by
  subst hc
  exact call_function_meets (S := fun _ R s => R (.ok (.ret (.bool true))) s) kind_issub plain_issub F.entry_issubclass_nested (args_issub _ _) (fun _ _ _ _ _ hs => issub_one rfl hs) hq
theorem issub_nested {prog : Program} {w : World} {A : Around} {E : Value → Shared → Prop} {s : Shared} {Q : Fin → Shared → Prop} {k : Value} {D : Addr} {tk : Tok} (hk : k = .int 0 tk)
    (hD : s.heap.get? D = some { cls := .type "tuple", data := .seq #[.type "str", .type "bytes"] }) (hq : Q (.done (.ret (.bool true))) s) :
    wpAny (model prog w) A (Builtin.«issubclass.nested» ⟨[.type "str", .ref D, k], []⟩) Q E s := by
  subst hk
  have hT : s.TypeIs (.ref D) "tuple" := ⟨_, hD, rfl⟩
  have h3 := PySem.F.sub_tuple_tuple
  repeat (any_goals (first | assumption | (with_reducible refine call_issub_one ?hc9 ?_; (case hc9 => with_unfolding_all rfl)) | wp_step))
theorem call_issub {prog : Program} {w : World} {A : Around} {E : Value → Shared → Prop} {s : Shared} {Q : Value → Shared → Prop} {D : Addr}
    (hD : s.heap.get? D = some { cls := .type "tuple", data := .seq #[.type "str", .type "bytes"] }) (hq : Q (.bool true) s) :
    wpAny (model prog w) A (call (.builtin "issubclass") [.type "str", .ref D]) Q E s :=
  call_issubclass (S := fun _ R s => s.heap.get? D = some { cls := .type "tuple", data := .seq #[.type "str", .type "bytes"] } ∧ R (.ok (.ret (.bool true))) s) (fun _ _ _ _ _ hs => issubclass_outer (issub_nested rfl hs.1 hs.2)) ⟨hD, hq⟩

theorem Keep.fr {h₀ h h' : Heap} {L : Addr} {m : Str → Option Value} (k : Keep h h') (F : Fr h₀ L h m) : Fr h₀ L h' m := Fr.keeps F k
theorem Keep.news {h₀ h h' : Heap} {L : Addr} {news : List (Addr × Obj)} (k : Keep h h') (N : News h₀ L h news) : News h₀ L h' news := News.grown N k
/-- a pure def's call, as a step of the walk -/
theorem pure_step {prog : Program} {w : World} {A : Around} {E : Value → Shared → Prop} {s : Shared} {h₀ : Heap} {L : Addr} {m : Str → Option Value} {news : List (Addr × Obj)} {f : Value} {args : List Value} {kw : List (Str × Value)} {v : Value} {Q : Value → Shared → Prop}
    (F : Fr h₀ L s.heap m) (N : News h₀ L s.heap news)
    (hc : ∀ R : Result → Shared → Prop, (∀ h' tk, Keep s.heap h' → R (.ok (.ret v)) { s with heap := h', toks := tk }) → codeAny (model prog w) A (.call f ⟨args, kw⟩) R s)
    (h : ∀ h' tk, Fr h₀ L h' m → News h₀ L h' news → Q v { s with heap := h', toks := tk }) : wpAny (model prog w) A (call f args kw) Q E s :=
  wpAny_call (hc _ fun h' tk k => h h' tk (k.fr F) (k.news N))
local macro_rules | `(tactic| walk_at "call builtin:issubclass") => `(tactic| (k_here; (with_reducible show wpAny _ _ (call (Value.builtin "issubclass") [Value.type "str", Value.ref _]) _ _ _); (refine' call_issub ?k1 ?_; (case k1 => exact News.get (by k_asm) (by k_mem)))))

theorem off_C1 : True := by
  w_top off
  exact True.intro
theorem c_fspath : ∀ {w : World} {p : Program} {loose : List Str} {mean : ExcName → Option Value} {mg mb : Str → Option Value} {A : Around} {s : Shared} {R : Result → Shared → Prop} {x : Str} {t : Tok}
    (_ : (Mine.hd.heap_39 w.params).In s.heap) (_ : Top p loose mean mg mb s.heap) (_ : A.depth + 1 < recursionLimit) (_ : A.units + 1 < cLine) (_ : A.handled = none)
    
    (_ : ∀ h' tk, Keep s.heap h' → R (.ok (.ret (.str x t))) { s with heap := h', toks := tk }),
    codeAny (model PySem.Challenge.rw_in0137_01.row.prog w) A (.call (.ref 94) ⟨[.str x t], []⟩) R s := by
  k_fill
  intro w p loose mean mg mb A s R x t X T hd hu hh  ret
  refine' enter_plain (binds := [("path", .str x t)]) X T.nolimit ?ho ?hcd ?hroom ?hbind ?hloc ?h ?hco ?hgen ?hk ?hcell
  case ho => k_is
  case hcd => k_is
  case hroom => omega
  case hbind => exact BindsTo.of_eq rfl
  case hloc => exact locs rfl
  case hco => rfl
  case hgen => rfl
  case hk => rfl
  case hcell => decide
  intro L' h₁ F' N'
  (try dsimp only)
  k_steps
  exact ret _ _ (Fr.keep (by assumption))
theorem c_getsep : ∀ {w : World} {p : Program} {loose : List Str} {mean : ExcName → Option Value} {mg mb : Str → Option Value} {A : Around} {s : Shared} {R : Result → Shared → Prop} {x : Str} {t : Tok}
    (_ : (Mine.hd.heap_39 w.params).In s.heap) (_ : Top p loose mean mg mb s.heap) (_ : A.depth + 1 < recursionLimit) (_ : A.units + 1 < cLine) (_ : A.handled = none)
    
    (_ : ∀ t h' tk, Keep s.heap h' → R (.ok (.ret (.str (PySem.Str.ofString "/") t))) { s with heap := h', toks := tk }),
    codeAny (model PySem.Challenge.rw_in0137_01.row.prog w) A (.call (.ref 108) ⟨[.str x t], []⟩) R s := by
  k_fill
  intro w p loose mean mg mb A s R x t X T hd hu hh  ret
  refine' enter_plain (binds := [("path", .str x t)]) X T.nolimit ?ho ?hcd ?hroom ?hbind ?hloc ?h ?hco ?hgen ?hk ?hcell
  case ho => k_is
  case hcd => k_is
  case hroom => omega
  case hbind => exact BindsTo.of_eq rfl
  case hloc => exact locs rfl
  case hco => rfl
  case hgen => rfl
  case hk => rfl
  case hcell => decide
  intro L' h₁ F' N'
  (try dsimp only)
  k_steps
  exact ret _ _ _ (Fr.keep (by assumption))
theorem s_fspath {w : World} {p : Program} {loose : List Str} {mean : ExcName → Option Value} {mg mb : Str → Option Value} {A : Around} {E : Value → Shared → Prop} {s : Shared} {h₀ : Heap} {L : Addr} {m : Str → Option Value} {news : List (Addr × Obj)} {Q : Value → Shared → Prop} {x : Str} {t : Tok}
    (F : Fr h₀ L s.heap m) (N : News h₀ L s.heap news) (X : (Mine.hd.heap_39 w.params).In h₀) (T : Top p loose mean mg mb h₀) (hd : A.depth + 1 < recursionLimit) (hu : A.units + 1 < cLine) (hh : A.handled = none)
    (h : ∀ h' tk, Fr h₀ L h' m → News h₀ L h' news → Q (.str x t) { s with heap := h', toks := tk }) :
    wpAny (model PySem.Challenge.rw_in0137_01.row.prog w) A (call (.ref 94) [.str x t] []) Q E s :=
  pure_step F N (fun R hR => c_fspath (X.keeps F.keep) (T.keeps F.keep) hd hu hh hR) h
theorem s_getsep {w : World} {p : Program} {loose : List Str} {mean : ExcName → Option Value} {mg mb : Str → Option Value} {A : Around} {E : Value → Shared → Prop} {s : Shared} {h₀ : Heap} {L : Addr} {m : Str → Option Value} {news : List (Addr × Obj)} {Q : Value → Shared → Prop} {x : Str} {t : Tok}
    (F : Fr h₀ L s.heap m) (N : News h₀ L s.heap news) (X : (Mine.hd.heap_39 w.params).In h₀) (T : Top p loose mean mg mb h₀) (hd : A.depth + 1 < recursionLimit) (hu : A.units + 1 < cLine) (hh : A.handled = none)
    (h : ∀ t h' tk, Fr h₀ L h' m → News h₀ L h' news → Q (.str (PySem.Str.ofString "/") t) { s with heap := h', toks := tk }) :
    wpAny (model PySem.Challenge.rw_in0137_01.row.prog w) A (call (.ref 108) [.str x t] []) Q E s :=
  wpAny_call (c_getsep (X.keeps F.keep) (T.keeps F.keep) hd hu hh fun t h' tk k => h t h' tk (k.fr F) (k.news N))
local macro_rules | `(tactic| walk_at "call ref") => `(tactic| (k_here; (with_reducible show wpAny _ _ (call (Value.ref 94) [Value.str _ _] []) _ _ _); (refine' s_fspath ?k1 ?k2 ?k3 ?k4 ?k5 ?k6 ?k7 ?_; (case k1 => k_asm); (case k2 => k_asm); (case k3 => k_asm); (case k4 => k_asm); (case k5 => (simp only [depth_deeper, depth_in1]; omega)); (case k6 => (simp only [Around.deeper_units, Around.in1_units]; omega)); (case k7 => assumption)); intro h' tk' F' N'; (try k_sweep)))
local macro_rules | `(tactic| walk_at "call ref") => `(tactic| (k_here; (with_reducible show wpAny _ _ (call (Value.ref 108) [Value.str _ _] []) _ _ _); (refine' s_getsep ?k1 ?k2 ?k3 ?k4 ?k5 ?k6 ?k7 ?_; (case k1 => k_asm); (case k2 => k_asm); (case k3 => k_asm); (case k4 => k_asm); (case k5 => (simp only [depth_deeper, depth_in1]; omega)); (case k6 => (simp only [Around.deeper_units, Around.in1_units]; omega)); (case k7 => assumption)); intro t' h' tk' F' N'; (try k_sweep)))

theorem off_L1 : True := by
  w_top off
  exact True.intro
section
variable {prog : Program} {w : World} {A : Around} {E : Value → Shared → Prop} {s : Shared} {h₀ : Heap} {L l : Addr} {m : Str → Option Value} {news : List (Addr × Obj)} {value slice : PySem.Expr} {vs zs : List Value} {x y : Str} {t u : Tok} {Q : Value → Shared → Prop}
theorem strs_len : ∀ {vs : List Value} {xs : List Str}, StrsAre vs xs → vs.length = xs.length
  | _, _, .nil => rfl
  | _, _, .cons _ _ r => congrArg (· + 1) (strs_len r)
theorem strs_drop : ∀ (n : Nat) {vs : List Value} {xs : List Str}, StrsAre vs xs → StrsAre (vs.drop n) (xs.drop n)
  | 0, _, _, h => h
  | _ + 1, _, _, .nil => .nil
  | n + 1, _, _, .cons _ _ r => strs_drop n r
theorem strs_take : ∀ (n : Nat) {vs : List Value} {xs : List Str}, StrsAre vs xs → StrsAre (vs.take n) (xs.take n)
  | 0, _, _, _ => .nil
  | _ + 1, _, _, .nil => .nil
  | n + 1, _, _, .cons y t r => .cons y t (strs_take n r)
theorem strs_append : ∀ {vs : List Value} {xs : List Str} {vs' : List Value} {xs' : List Str}, StrsAre vs xs → StrsAre vs' xs' → StrsAre (vs ++ vs') (xs ++ xs')
  | _, _, _, _, .nil, h => h
  | _, _, _, _, .cons y t r, h => .cons y t (strs_append r h)
theorem split_K (F : Fr h₀ L s.heap m) (N : News h₀ L s.heap news) (hy : (y.length == 0) = false) (hx : x.length ≤ 4000)
    (h : ∀ D vs h' k, Fr h₀ L h' m → News h₀ L h' ((D, { cls := .type "list", data := .seq vs.toArray }) :: news) → (∀ p ∈ news, p.1 < D) → StrsAre vs (Txt.split x y) → vs.length ≤ 4001 → Q (.ref D) { s with heap := h', toks := k }) :
    wpAny (model prog w) A (call (.builtin "str.split") [.str x t, .str y u]) Q E s := by
  refine splitN1A F N hy (fun l h' k e S _ _ F' N' => h _ _ h' k F' N' (fun p hp => Heap.lt_size (N p hp).1) (e ▸ S) ?_) (by rw [sizeLine_eq]; omega)
  have h1 := strs_len S
  have h2 := split_weight x y (by cases h : y.length with | zero => rw [h] at hy; cases hy | succ n => omega)
  rw [e] at h1
  omega
theorem slice_from_K {a : Nat} {t : Tok} (F : Fr h₀ L s.heap m) (N : News h₀ L s.heap news) (hl : s.heap.IsList l vs.toArray) (hz : vs.length ≤ 5000)
    (h : ∀ D h', Fr h₀ L h' m → News h₀ L h' ((D, { cls := .type "list", data := .seq (vs.drop a).toArray }) :: news) → (∀ p ∈ news, p.1 < D) → Q (.ref D) { s with heap := h' })
    (hs : subscripted slice false (.ref l) (.ref s.heap.objs.size) = operate [.ref s.heap.objs.size, .ref l] (getItem (.ref l) (.ref s.heap.objs.size))) (ht : ∀ r, letTemporaryGo value (.ref l) r = pure ()) :
    wpAny (model prog w) A (subscriptTail value slice (.ref l) (.ref s.heap.objs.size)) Q E { s with heap := s.heap.push { cls := .type "slice", data := .fields #[.int (a : Nat) t, .none, .none] } } :=
  kmk_slice F N hl (IsPart.int _ _) IsPart.none (fun D h' F' N' l1 => h D h' F' (by rw [slicePick_from'] at N'; exact N') l1) hs ht (by rw [sizeLine_eq, List.size_toArray]; omega)
theorem slice_upto_K {a : Nat} {t : Tok} (F : Fr h₀ L s.heap m) (N : News h₀ L s.heap news) (hl : s.heap.IsList l vs.toArray) (hz : vs.length ≤ 5000)
    (h : ∀ D h', Fr h₀ L h' m → News h₀ L h' ((D, { cls := .type "list", data := .seq (vs.take a).toArray }) :: news) → (∀ p ∈ news, p.1 < D) → Q (.ref D) { s with heap := h' })
    (hs : subscripted slice false (.ref l) (.ref s.heap.objs.size) = operate [.ref s.heap.objs.size, .ref l] (getItem (.ref l) (.ref s.heap.objs.size))) (ht : ∀ r, letTemporaryGo value (.ref l) r = pure ()) :
    wpAny (model prog w) A (subscriptTail value slice (.ref l) (.ref s.heap.objs.size)) Q E { s with heap := s.heap.push { cls := .type "slice", data := .fields #[.none, .int (a : Nat) t, .none] } } :=
  kmk_slice F N hl IsPart.none (IsPart.int _ _) (fun D h' F' N' l1 => h D h' F' (by rw [slicePick_upto'] at N'; exact N') l1) hs ht (by rw [sizeLine_eq, List.size_toArray]; omega)
theorem add_K {b : Addr} {vs ws : List Value} (F : Fr h₀ L s.heap m) (N : News h₀ L s.heap news) (hl : s.heap.IsList l vs.toArray) (hb : s.heap.IsList b ws.toArray) (hz : vs.length + ws.length ≤ 5000)
    (h : ∀ D h', Fr h₀ L h' m → News h₀ L h' ((D, { cls := .type "list", data := .seq (vs ++ ws).toArray }) :: news) → (∀ p ∈ news, p.1 < D) → Q (.ref D) { s with heap := h' }) : wpAny (model prog w) A (binaryOp .Add (.ref l) (.ref b)) Q E s :=
  add_arrays F N hl hb (fun h' F' N' => h _ h' F' N' fun p hp => Heap.lt_size (N p hp).1) (by rw [sizeLine_eq, List.size_toArray, List.size_toArray]; omega)
/-- a bound of what a list of texts weighs -/
def wtF (xs : List Str) : Nat := (xs.map (·.length)).sum + xs.length
theorem wtF_nil : wtF [] = 0 := rfl
theorem wtF_cons (y : Str) (xs : List Str) : wtF (y :: xs) = y.length + 1 + wtF xs := by simp only [wtF, List.map_cons, List.sum_cons, List.length_cons]; omega
theorem wtF_append (xs ys : List Str) : wtF (xs ++ ys) = wtF xs + wtF ys := by simp only [wtF, List.map_append, List.sum_append, List.length_append]; omega
theorem wtF_len (xs : List Str) : xs.length ≤ wtF xs := by simp only [wtF]; omega
theorem len_a : (PySem.Str.ofString "a").length = 1 := by decide
theorem glue_size (g : Str) : ∀ (ps : List Str) (acc : Array Nat), (ps.foldl (fun acc p => acc ++ g.cps ++ p.cps) acc).size = acc.size + (ps.map (·.length)).sum + ps.length * g.length
  | [], acc => by simp
  | p :: r, acc => by
    rw [List.foldl_cons, glue_size g r]
    simp only [Array.size_append, List.map_cons, List.sum_cons, List.length_cons, PySem.Str.length, Nat.add_mul, Nat.one_mul]
    omega
theorem join_len {ys : List Str} (hx : x.length ≤ 1) : (Txt.join x ys).length ≤ wtF ys := by
  cases ys with
  | nil => show (Builtin.Str.glued x []).length ≤ _; simp [Builtin.Str.glued, PySem.Str.length, PySem.Str.empty]
  | cons y r =>
    show ((r.foldl (fun acc p => acc ++ x.cps ++ p.cps) y.cps)).size ≤ _
    rw [glue_size, wtF_cons]
    have h1 : r.length * x.length ≤ r.length * 1 := Nat.mul_le_mul_left _ hx
    simp only [wtF, PySem.Str.length] at *
    omega
theorem join_K {vs : List Value} {ys : List Str} (hl : s.heap.IsList l vs.toArray) (hi : StrsAre vs ys) (hw : wtF ys ≤ 5000) (hx : x.length ≤ 1)
    (h : ∀ t' k, (Txt.join x ys).length ≤ 5000 → Q (.str (Txt.join x ys) t') { s with toks := k }) : wpAny (model prog w) A (call (.builtin "str.join") [.str x t, .ref l]) Q E s :=
  join_list hl (by simpa using hi) (by
    have h1 : ys.length * x.length ≤ ys.length * 1 := Nat.mul_le_mul_left _ hx
    simp only [wtF] at hw
    omega) fun t' k => h t' k (Nat.le_trans (join_len hx) hw)
theorem addstr_K (hz : x.length + y.length ≤ 100000) (h : ∀ t' k, Q (.str (x ++ y) t') { s with toks := k }) : wpAny (model prog w) A (binaryOp .Add (.str x t) (.str y u)) Q E s :=
  add_str h (by rw [sizeLine_eq]; omega)
theorem len_sl : (PySem.Str.ofString "/").length = 1 := by decide
theorem tuple_K (F : Fr h₀ L s.heap m) (N : News h₀ L s.heap news) (hl : s.heap.IsList l vs.toArray) (hz : vs.length ≤ 5000)
    (h : ∀ D h', Fr h₀ L h' m → News h₀ L h' ((D, { cls := .type "tuple", data := .seq vs.toArray }) :: news) → (∀ p ∈ news, p.1 < D) → Q (.ref D) { s with heap := h' }) : wpAny (model prog w) A (call (.type "tuple") [.ref l]) Q E s :=
  kde_tupleOf F N hl (by rw [List.size_toArray]; omega) rfl (fun D h' F' N' l1 => h D h' F' N' l1)
end
local macro_rules | `(tactic| walk_at "call builtin:str.split") => `(tactic| (k_here; (with_reducible show wpAny _ _ (call (Value.builtin _) [Value.str _ _, Value.str _ _]) _ _ _); (refine' split_K ?k1 ?k2 ?k3 ?k4 ?_; (case k1 => k_asm); (case k2 => k_asm); (case k3 => decide); (case k4 => omega)); intro D' vs' h' k' F' N' l1 hS' hL'; (try k_lt l1); (try k_sweep)))
local macro_rules | `(tactic| walk_at "subscriptTail Name Slice ref ref") => `(tactic| (k_here; (with_reducible show wpAny _ _ (subscriptTail _ (PySem.Expr.Slice _ _ none _) (Value.ref _) (Value.ref _)) _ _ _); k_dflt (refine' slice_from_K (a := 1) ?F ?N ?l ?z ?_ ?s ?t; (case F => k_asm); (case N => k_asm); (case l => kmk_list); (case z => omega); (case s => with_unfolding_all rfl); (case t => kmk_pure)); intro D' h' F' N' l1; (try k_lt l1); (try k_sweep)))
local macro_rules | `(tactic| walk_at "call type:tuple") => `(tactic| (k_here; (with_reducible show wpAny _ _ (call (Value.type _) [Value.ref _]) _ _ _); k_dflt (refine' tuple_K ?F ?N ?l ?z ?_; (case F => k_asm); (case N => k_asm); (case l => kmk_list); (case z => ((try simp only [List.length_drop, List.length_take]); omega))); intro D' h' F' N' l1; (try k_lt l1); (try k_sweep)))
local macro_rules | `(tactic| walk_at "binaryOp Add ref ref") => `(tactic| (k_here; (with_reducible show wpAny _ _ (binaryOp _ (Value.ref _) (Value.ref _)) _ _ _); k_dflt (refine' add_K ?F ?N ?a ?b ?z ?_; (case F => k_asm); (case N => k_asm); (case a => kmk_list); (case b => kmk_list); (case z => ((try simp only [List.length_append, List.length_cons, List.length_nil]); omega))); intro D' h' F' N' l1; (try k_lt l1); (try k_sweep)))
local macro_rules | `(tactic| walk_at "call builtin:str.join") => `(tactic| (k_here; (with_reducible show wpAny _ _ (call (Value.builtin _) [Value.str _ _, Value.ref _]) _ _ _); k_dflt (refine' join_K ?l ?S ?w ?x ?_; (case l => kmk_list); (case S => first | assumption | exact strs_append (by assumption) (by repeat constructor)); (case w => ((try simp only [wtF_append, wtF_cons, wtF_nil, len_a]); omega)); (case x => decide)); intro t' k' hJ'))
local macro_rules | `(tactic| walk_at "binaryOp Add str str") => `(tactic| (k_here; (refine' addstr_K ?z ?_; (case z => ((try simp only [len_sl]); omega))); intro t' k'))
theorem fr_name {h₀ h : Heap} {L : Addr} {m : Str → Option Value} {x : Str} {v : Value} (F : Fr h₀ L h m) (e : m x = some v) : Fr h₀ L h (fun y => if y = x then some v else m y) := by
  have : (fun y => if y = x then some v else m y) = m := by
    funext y
    by_cases hy : y = x
    · simp [hy, e]
    · simp [hy]
  rw [this]; exact F
theorem fr_name2 {h₀ h : Heap} {L : Addr} {m : Str → Option Value} {x y : Str} {v u : Value} (F : Fr h₀ L h m) (e : m x = some v) (e2 : m y = some u) (hne : y ≠ x := by decide) :
    Fr h₀ L h (fun z => if z = y then some u else if z = x then some v else m z) := fr_name (fr_name F e) (by rw [if_neg hne]; exact e2)
theorem fr_name3 {h₀ h : Heap} {L : Addr} {m : Str → Option Value} {x y z : Str} {v u w : Value} (F : Fr h₀ L h m) (e : m x = some v) (e2 : m y = some u) (e3 : m z = some w) (h1 : y ≠ x := by decide) (h2 : z ≠ y := by decide) (h3 : z ≠ x := by decide) :
    Fr h₀ L h (fun q => if q = z then some w else if q = y then some u else if q = x then some v else m q) := fr_name (fr_name2 F e e2 h1) (by rw [if_neg h2, if_neg h3]; exact e3)
/-- a place where the walk stops -/
def Stop (P : Prop) : Prop := P
theorem Stop.mk {P : Prop} (h : Stop P) : P := h
theorem Stop.out {P : Prop} (h : P) : Stop P := h
local macro_rules | `(tactic| walk_at "exec While Compare cons nil") => `(tactic| (with_reducible refine Stop.mk ?_))
local macro_rules | `(tactic| walk_at "eval ListComp") => `(tactic| (with_reducible refine Stop.mk ?_))

theorem off_C2 : True := by
  w_top off
  exact True.intro
/-- what dirname makes of a text -/
def dnF (x : Str) : Str :=
  let h := Txt.slice x none (some (Txt.rfind x (PySem.Str.ofString "/") + 1))
  if (h.length : Int) = 0 then h else if (h != Txt.mul (PySem.Str.ofString "/") (h.length : Int)) = true then Txt.rstripChars h (PySem.Str.ofString "/") else h
theorem dnF_0 {x : Str} (h : ((Txt.slice x none (some (Txt.rfind x (PySem.Str.ofString "/") + 1))).length : Int) = 0) : dnF x = Txt.slice x none (some (Txt.rfind x (PySem.Str.ofString "/") + 1)) := by
  unfold dnF; dsimp only; rw [if_pos h]
theorem dnF_1 {x : Str} (h : ((Txt.slice x none (some (Txt.rfind x (PySem.Str.ofString "/") + 1))).length : Int) ≠ 0)
    (h2 : (Txt.slice x none (some (Txt.rfind x (PySem.Str.ofString "/") + 1)) != Txt.mul (PySem.Str.ofString "/") ((Txt.slice x none (some (Txt.rfind x (PySem.Str.ofString "/") + 1))).length : Int)) = true) : dnF x = Txt.rstripChars (Txt.slice x none (some (Txt.rfind x (PySem.Str.ofString "/") + 1))) (PySem.Str.ofString "/") := by
  unfold dnF; dsimp only; rw [if_neg h, if_pos h2]
theorem dnF_2 {x : Str} (h : ((Txt.slice x none (some (Txt.rfind x (PySem.Str.ofString "/") + 1))).length : Int) ≠ 0)
    (h2 : (Txt.slice x none (some (Txt.rfind x (PySem.Str.ofString "/") + 1)) != Txt.mul (PySem.Str.ofString "/") ((Txt.slice x none (some (Txt.rfind x (PySem.Str.ofString "/") + 1))).length : Int)) = false) : dnF x = Txt.slice x none (some (Txt.rfind x (PySem.Str.ofString "/") + 1)) := by
  unfold dnF; dsimp only; rw [if_neg h, if_neg (by rw [h2]; decide)]
theorem c_dirname : ∀ {w : World} {p : Program} {loose : List Str} {mean : ExcName → Option Value} {mg mb : Str → Option Value} {A : Around} {s : Shared} {R : Result → Shared → Prop} {x : Str} {t : Tok}
    (_ : (Mine.hd.heap_39 w.params).In s.heap) (_ : Top p loose mean mg mb s.heap) (_ : A.depth + 5 < recursionLimit) (_ : A.units + 9 < cLine) (_ : A.handled = none)
    (_ : x.length ≤ 1000)
    (_ : ∀ t h' tk, Keep s.heap h' → R (.ok (.ret (.str (dnF x) t))) { s with heap := h', toks := tk }),
    codeAny (model PySem.Challenge.rw_in0137_01.row.prog w) A (.call (.ref 115) ⟨[.str x t], []⟩) R s := by
  k_fill
  intro w p loose mean mg mb A s R x t X T hd hu hh hx ret
  refine' enter_plain (binds := [("p", .str x t)]) X T.nolimit ?ho ?hcd ?hroom ?hbind ?hloc ?h ?hco ?hgen ?hk ?hcell
  case ho => k_is
  case hcd => k_is
  case hroom => omega
  case hbind => exact BindsTo.of_eq rfl
  case hloc => exact locs rfl
  case hco => rfl
  case hgen => rfl
  case hk => rfl
  case hcell => decide
  intro L' h₁ F' N'
  (try dsimp only)
  k_steps
  all_goals first
    | (rw [dnF_1 (by assumption) (by assumption)] at ret; exact ret _ _ _ (Fr.keep (by assumption)))
    | (rw [dnF_2 (by assumption) (by assumption)] at ret; exact ret _ _ _ (Fr.keep (by assumption)))
    | (rw [dnF_0 (by assumption)] at ret; exact ret _ _ _ (Fr.keep (by assumption)))
theorem s_dirname {w : World} {p : Program} {loose : List Str} {mean : ExcName → Option Value} {mg mb : Str → Option Value} {A : Around} {E : Value → Shared → Prop} {s : Shared} {h₀ : Heap} {L : Addr} {m : Str → Option Value} {news : List (Addr × Obj)} {Q : Value → Shared → Prop} {x : Str} {t : Tok}
    (F : Fr h₀ L s.heap m) (N : News h₀ L s.heap news) (X : (Mine.hd.heap_39 w.params).In h₀) (T : Top p loose mean mg mb h₀) (hd : A.depth + 5 < recursionLimit) (hu : A.units + 9 < cLine) (hh : A.handled = none)
    (hx : x.length ≤ 1000)
    (h : ∀ t h' tk, Fr h₀ L h' m → News h₀ L h' news → Q (.str (dnF x) t) { s with heap := h', toks := tk }) :
    wpAny (model PySem.Challenge.rw_in0137_01.row.prog w) A (call (.ref 115) [.str x t] []) Q E s :=
  wpAny_call (c_dirname (X.keeps F.keep) (T.keeps F.keep) hd hu hh hx fun t h' tk k => h t h' tk (k.fr F) (k.news N))
local macro_rules | `(tactic| walk_at "call ref") => `(tactic| (k_here; (with_reducible show wpAny _ _ (call (Value.ref 115) [Value.str _ _] []) _ _ _); (refine' s_dirname ?k1 ?k2 ?k3 ?k4 ?k5 ?k6 ?k7 ?h0 ?_; (case k1 => k_asm); (case k2 => k_asm); (case k3 => k_asm); (case k4 => k_asm); (case k5 => (simp only [depth_deeper, depth_in1]; omega)); (case k6 => (simp only [Around.deeper_units, Around.in1_units]; omega)); (case k7 => assumption); (case h0 => omega)); intro t' h' tk' F' N'; (try k_sweep)))

theorem off_C3 : True := by
  w_top off
  exact True.intro
theorem new_entry {h₀ h h' : Heap} {L D : Addr} {m : Str → Option Value} {news : List (Addr × Obj)} {o : Obj} (k : Keep h h') (F : Fr h₀ L h m) (N : News h₀ L h news) (hD : h'.get? D = some o) (hn : h.get? D = none) :
    News h₀ L h' ((D, o) :: news) ∧ ∀ p ∈ news, p.1 ≠ D := by
  refine ⟨fun p hp => ?_, fun p hp e => ?_⟩
  · rcases List.mem_cons.mp hp with rfl | hp
    · refine ⟨hD, fun e => ?_, ?_⟩
      · obtain ⟨oL, _, _, hL, _⟩ := F.ns
        rw [← e] at hL
        exact absurd (hn.symm.trans hL) (by simp)
      · cases q : h₀.get? D with
        | none => rfl
        | some o' => exact absurd (hn.symm.trans (F.keep _ _ q)) (by simp)
    · exact k.news N p hp
  · have := (N p hp).1
    rw [e, hn] at this
    cases this
theorem c_key : ∀ {w : World} {p : Program} {loose : List Str} {mean : ExcName → Option Value} {mg mb : Str → Option Value} {A : Around} {s : Shared} {R : Result → Shared → Prop} {x : Str} {t : Tok}
    (_ : (Mine.hd.heap_39 w.params).In s.heap) (_ : Top p loose mean mg mb s.heap) (_ : A.depth + 1 < recursionLimit) (_ : A.units + 9 < cLine) (_ : A.handled = none)
    (_ : x.length ≤ 1000)
    (_ : ∀ D vs h' tk, Keep s.heap h' → h'.get? D = some { cls := .type "tuple", data := .seq vs.toArray } → s.heap.get? D = none → StrsAre vs ((Txt.split x (PySem.Str.ofString "/")).drop 1) → R (.ok (.ret (.ref D))) { s with heap := h', toks := tk }),
    codeAny (model PySem.Challenge.rw_in0137_01.row.prog w) A (.call (.ref 199) ⟨[.str x t], []⟩) R s := by
  k_fill
  intro w p loose mean mg mb A s R x t X T hd hu hh hx ret
  refine' enter_plain (binds := [("path", .str x t)]) X T.nolimit ?ho ?hcd ?hroom ?hbind ?hloc ?h ?hco ?hgen ?hk ?hcell
  case ho => k_is
  case hcd => k_is
  case hroom => omega
  case hbind => exact BindsTo.of_eq rfl
  case hloc => exact locs rfl
  case hco => rfl
  case hgen => rfl
  case hk => rfl
  case hcell => decide
  intro L' h₁ F' N'
  (try dsimp only)
  k_steps
  refine ret _ _ _ _ (Fr.keep (by assumption)) (News.get (by assumption) (.head _)) (News.fresh (by assumption) (.head _)) (strs_drop 1 (by assumption))
theorem s_key {w : World} {p : Program} {loose : List Str} {mean : ExcName → Option Value} {mg mb : Str → Option Value} {A : Around} {E : Value → Shared → Prop} {s : Shared} {h₀ : Heap} {L : Addr} {m : Str → Option Value} {news : List (Addr × Obj)} {Q : Value → Shared → Prop} {x : Str} {t : Tok}
    (F : Fr h₀ L s.heap m) (N : News h₀ L s.heap news) (X : (Mine.hd.heap_39 w.params).In h₀) (T : Top p loose mean mg mb h₀) (hd : A.depth + 1 < recursionLimit) (hu : A.units + 9 < cLine) (hh : A.handled = none)
    (hx : x.length ≤ 1000)
    (h : ∀ D vs h' tk, Fr h₀ L h' m → News h₀ L h' ((D, { cls := .type "tuple", data := .seq vs.toArray }) :: news) → (∀ p ∈ news, p.1 ≠ D) → StrsAre vs ((Txt.split x (PySem.Str.ofString "/")).drop 1) → Q (.ref D) { s with heap := h', toks := tk }) :
    wpAny (model PySem.Challenge.rw_in0137_01.row.prog w) A (call (.ref 199) [.str x t] []) Q E s :=
  wpAny_call (c_key (X.keeps F.keep) (T.keeps F.keep) hd hu hh hx fun D vs h' tk k hD hn hS => h D vs h' tk (k.fr F) (new_entry k F N hD hn).1 (new_entry k F N hD hn).2 hS)
local macro_rules | `(tactic| walk_at "call ref") => `(tactic| (k_here; (with_reducible show wpAny _ _ (call (Value.ref 199) [Value.str _ _] []) _ _ _); (refine' s_key ?k1 ?k2 ?k3 ?k4 ?k5 ?k6 ?k7 ?h0 ?_; (case k1 => k_asm); (case k2 => k_asm); (case k3 => k_asm); (case k4 => k_asm); (case k5 => (simp only [depth_deeper, depth_in1]; omega)); (case k6 => (simp only [Around.deeper_units, Around.in1_units]; omega)); (case k7 => assumption); (case h0 => omega)); intro D' vs' h' tk' F' N' ne' hS'; (try k_sweep)))

theorem off_C4 : True := by
  w_top off
  exact True.intro
/-- the texts that _law_path picks -/
def menuF (n : Nat) : Str := [PySem.Str.ofString "", PySem.Str.ofString "a", PySem.Str.ofString "b", PySem.Str.ofString "."].getD n (PySem.Str.ofString "")
def digF : Nat → Nat → List Str
  | 0, _ => []
  | k + 1, n => if n = 0 then [] else menuF (n % 4) :: digF k (n / 4)
theorem menu_len : ∀ n, (menuF n).length ≤ 1
  | 0 => by decide
  | 1 => by decide
  | 2 => by decide
  | 3 => by decide
  | n + 4 => by show (PySem.Str.ofString "").length ≤ 1; decide
theorem dig_zero : ∀ k, digF k 0 = []
  | 0 => rfl
  | k + 1 => rfl
theorem dig_step {k : Nat} {v i : Int} (h0 : 0 < v) (hv : v.toNat < 4 ^ k) (hi : v.fmod 4 = i) :
    ∃ k', k = k' + 1 ∧ 0 ≤ v.fdiv 4 ∧ (v.fdiv 4).toNat < 4 ^ k' ∧ digF k v.toNat = menuF i.toNat :: digF k' (v.fdiv 4).toNat := by
  have e1 : v.fdiv 4 = v / 4 := Int.fdiv_eq_ediv_of_nonneg _ (by decide)
  have e2 : v.fmod 4 = v % 4 := Int.fmod_eq_emod_of_nonneg _ (by decide)
  cases k with
  | zero => exact absurd hv (by simp; omega)
  | succ k =>
    have e3 : (v.fdiv 4).toNat = v.toNat / 4 := by rw [e1]; omega
    have e4 : i.toNat = v.toNat % 4 := by rw [← hi, e2]; omega
    refine ⟨k, rfl, by rw [e1]; omega, ?_, ?_⟩
    · rw [e3]; rw [Nat.pow_succ] at hv; omega
    · rw [e3, e4]
      show (if v.toNat = 0 then [] else _) = _
      rw [if_neg (by omega)]
def pathJ (N : Nat) (k : Nat) (m₁ : Str → Option Value) (news₁ : List (Addr × Obj)) : Prop :=
  ∃ (v : Int) (tk : Tok) (D : Addr) (vs : List Value) (ep : Nat) (xs : List Str), m₁ (PySem.Str.ofString "left") = some (.int v tk) ∧ m₁ (PySem.Str.ofString "pieces") = some (.ref D) ∧ news₁ = [(D, { cls := .type "list", data := .seq vs.toArray ep })] ∧ StrsAre vs xs ∧ 0 ≤ v ∧ v.toNat < 4 ^ k ∧ xs ++ digF k v.toNat = digF 3 N ∧ xs.length + k = 3 ∧ wtF xs ≤ 2 * xs.length
theorem path_turn {h₀ h' : Heap} {L l D : Addr} {s : Shared} {m : Str → Option Value} {N k tk : Nat} {v i : Int} {t1 tkv : Tok} {o : Obj} {vs : List Value} {ep : Nat} {xs : List Str} {y : Str}
    (F : Fr h₀ L h' (fun q => if q = PySem.Str.ofString "left" then some (.int (v.fdiv 4) t1) else if q = PySem.Str.ofString "pieces" then some (.ref D) else m q))
    (Nw : News h₀ L h' [(l, o), (D, W.listOf (vs.toArray.push (Value.str y tkv)) (ep + 1))])
    (hS : StrsAre vs xs) (hv0 : 0 ≤ v) (h0 : 0 < v) (hv : v.toNat < 4 ^ k) (hi : v.fmod 4 = i) (hy : y = menuF i.toNat) (hx : xs ++ digF k v.toNat = digF 3 N) (hk : xs.length + k = 3) (hwt : wtF xs ≤ 2 * xs.length) :
    WhileStep h₀ L s (pathJ N) k .next { s with heap := h', toks := tk } := by
  obtain ⟨k', rfl, g1, g2, g3⟩ := dig_step h0 hv hi
  refine WhileStep.intro (n' := k') (news₂ := [(D, { cls := .type "list", data := .seq (vs ++ [Value.str y tkv]).toArray (ep + 1) })]) F (fun p hp => ?_) (by omega) ⟨v.fdiv 4, t1, D, vs ++ [Value.str y tkv], ep + 1, xs ++ [y], ?_, ?_, rfl, strs_append hS (.cons _ _ .nil), g1, g2, ?_, ?_, ?_⟩
  · rw [List.mem_singleton.mp hp]
    have := Nw _ (.tail _ (.head _))
    simpa using this
  · exact if_pos rfl
  · exact (if_neg (by decide)).trans (if_pos rfl)
  · rw [← hx, g3, hy]; simp
  · simp; omega
  · have := menu_len i.toNat
    rw [wtF_append, wtF_cons, wtF_nil, List.length_append, hy]; simp; omega
def pathF (n : Nat) : Str := PySem.Str.ofString "/" ++ (Txt.join (PySem.Str.ofString "/") (digF 3 n ++ [PySem.Str.ofString "a"]))
theorem c_path : ∀ {w : World} {p : Program} {loose : List Str} {mean : ExcName → Option Value} {mg mb : Str → Option Value} {A : Around} {s : Shared} {R : Result → Shared → Prop} {n : Int} {t : Tok}
    (_ : (Mine.hd.heap_39 w.params).In s.heap) (_ : Top p loose mean mg mb s.heap) (_ : A.depth + 3 < recursionLimit) (_ : A.units + 9 < cLine) (_ : A.handled = none)
    
    (_ : ∀ t h' tk, Keep s.heap h' → R (.ok (.ret (.str (pathF (n.fmod 64).toNat) t))) { s with heap := h', toks := tk }),
    codeAny (model PySem.Challenge.rw_in0137_01.row.prog w) A (.call (.ref 192) ⟨[.int n t], []⟩) R s := by
  k_fill
  intro w p loose mean mg mb A s R n t X T hd hu hh  ret
  refine' enter_plain (binds := [("number", .int n t)]) X T.nolimit ?ho ?hcd ?hroom ?hbind ?hloc ?h ?hco ?hgen ?hk ?hcell
  case ho => k_is
  case hcd => k_is
  case hroom => omega
  case hbind => exact BindsTo.of_eq rfl
  case hloc => exact locs rfl
  case hco => rfl
  case hgen => rfl
  case hk => rfl
  case hcell => decide
  intro L' h₁ F' N'
  (try dsimp only)
  have hn1 : 0 ≤ n.fmod 64 := Int.fmod_nonneg_of_pos _ (by decide)
  have hn2 : n.fmod 64 < 64 := Int.fmod_lt_of_pos _ (by decide)
  k_steps
  refine Stop.out ?_
  refine' While_inv (pathJ (n.fmod 64).toNat) (n₀ := 3) ?wF ?wN ?wJ ?wT ?wE
  case wF => assumption
  case wN => assumption
  case wE => passes_own
  case wJ => exact ⟨_, _, _, [], _, [], rfl, rfl, rfl, .nil, hn1, by omega, rfl, rfl, Nat.le_refl _⟩
  rintro k m₁ news₁ h₁ tk₁ Fw Nw ⟨v, tkv, D, vs, ep, xs, e1, e2, rfl, hS, hv0, hv, hx, hk, hwt⟩
  replace Fw := fr_name2 Fw e1 e2
  have hvl : vs.length ≤ 3 := by rw [strs_len hS]; omega
  k_steps
  all_goals first
    | exact path_turn (by assumption) (by assumption) hS hv0 (by assumption) hv (by assumption) (by rfl) hx hk hwt
    | (have e : xs = digF 3 (n.fmod 64).toNat := by
        have h0 : v.toNat = 0 := by omega
        rw [h0, dig_zero, List.append_nil] at hx
        exact hx
       subst e
       exact ret _ _ _ (Fr.keep (by assumption)))
theorem s_path {w : World} {p : Program} {loose : List Str} {mean : ExcName → Option Value} {mg mb : Str → Option Value} {A : Around} {E : Value → Shared → Prop} {s : Shared} {h₀ : Heap} {L : Addr} {m : Str → Option Value} {news : List (Addr × Obj)} {Q : Value → Shared → Prop} {n : Int} {t : Tok}
    (F : Fr h₀ L s.heap m) (N : News h₀ L s.heap news) (X : (Mine.hd.heap_39 w.params).In h₀) (T : Top p loose mean mg mb h₀) (hd : A.depth + 3 < recursionLimit) (hu : A.units + 9 < cLine) (hh : A.handled = none)
    
    (h : ∀ t h' tk, Fr h₀ L h' m → News h₀ L h' news → Q (.str (pathF (n.fmod 64).toNat) t) { s with heap := h', toks := tk }) :
    wpAny (model PySem.Challenge.rw_in0137_01.row.prog w) A (call (.ref 192) [.int n t] []) Q E s :=
  wpAny_call (c_path (X.keeps F.keep) (T.keeps F.keep) hd hu hh  fun t h' tk k => h t h' tk (k.fr F) (k.news N))
local macro_rules | `(tactic| walk_at "call ref") => `(tactic| (k_here; (with_reducible show wpAny _ _ (call (Value.ref 192) [Value.int _ _] []) _ _ _); (refine' s_path ?k1 ?k2 ?k3 ?k4 ?k5 ?k6 ?k7  ?_; (case k1 => k_asm); (case k2 => k_asm); (case k3 => k_asm); (case k4 => k_asm); (case k5 => (simp only [depth_deeper, depth_in1]; omega)); (case k6 => (simp only [Around.deeper_units, Around.in1_units]; omega)); (case k7 => assumption)); intro t' h' tk' F' N'; (try k_sweep)))

theorem off_L2 : True := by
  w_top off
  exact True.intro
section
variable {prog : Program} {w : World} {A : Around} {E : Value → Shared → Prop} {s : Shared} {env : Env} {scope : Scope} {cl : List (Str × Addr)} {x : Str} {ifs : List Expr} {elt : Expr} {ax : Addr} {items : List Value} {Q : Value → Shared → Prop}
/-- a comprehension over a list: its turns on the ground of the whole heap -/
structure Turns (prog : Program) (w : World) (A : Around) (env : Env) (scope : Scope) (cl : List (Str × Addr)) (x : Str) (ifs : List Expr) (items : List Value) (p : Value → Bool) (s : Shared) : Prop where
  tests : ∀ C v s₃ m₃ E', v ∈ items → Fr s.heap C s₃.heap m₃ → News s.heap C s₃.heap [] → m₃ x = some v →
    wpAny (model prog w) A (forIn ifs true fun c r => if r = true then do let ok ← isTrue c (compEnvC scope cl C env) (eval c (compEnvC scope cl C env)); pure (ForInStep.yield ok) else pure (ForInStep.yield r))
      (fun ok s₄ => ok = p v ∧ Keeps s₃ s₄) E' s₃
theorem iter_keep {l : Addr} {b : Addr} {o : Obj} (e : s.heap.get? b = some o) : b ∉ [s.heap.objs.size] ∧ (s.heap.push { cls := .type "list_iterator", data := .fields #[.ref l, .int 0 0] }).get? b = some o :=
  ⟨fun hm => absurd (Heap.lt_size e) (by rw [List.mem_singleton.mp hm]; exact Nat.lt_irrefl _), Heap.get?_push_of_some _ e⟩
theorem fr_of_iter {C : Addr} {m₃ : Str → Option Value} {l : Addr} {s₃ : Shared} (hC : (s.heap.push { cls := .type "list_iterator", data := .fields #[.ref l, .int 0 0] }).objs.size ≤ C) (hn : s₃.heap.Ns C m₃)
    (hk : ∀ b o, b ∉ [s.heap.objs.size] → (s.heap.push { cls := .type "list_iterator", data := .fields #[.ref l, .int 0 0] }).get? b = some o → s₃.heap.get? b = some o) : Fr s.heap C s₃.heap m₃ :=
  ⟨hn, fun b o e => hk b o (iter_keep (l := l) e).1 (iter_keep e).2, by rw [Heap.size_push] at hC; omega⟩
theorem keep_of_iter {h' : Heap} {l : Addr} (hk : ∀ b o, b ∉ [s.heap.objs.size] → (s.heap.push { cls := .type "list_iterator", data := .fields #[.ref l, .int 0 0] }).get? b = some o → h'.get? b = some o) : Keep s.heap h' :=
  fun b o e => hk b o (iter_keep (l := l) e).1 (iter_keep e).2
theorem none_of_iter {l D : Addr} (hD : (s.heap.push { cls := .type "list_iterator", data := .fields #[.ref l, .int 0 0] }).get? D = none) : s.heap.get? D = none := by
  cases q : s.heap.get? D with
  | none => rfl
  | some o => rw [(iter_keep (l := l) q).2] at hD; cases hD
theorem items_of {vs : List Value} (hlen : vs.length = items.length) (hP : ∀ (j : Nat) (v : Value), vs[j]? = some v → (items.toArray)[j]? = some v) : vs = items := by
  refine List.ext_getElem hlen fun j h1 h2 => ?_
  have := hP j vs[j] (List.getElem?_eq_getElem h1)
  simp only [List.getElem?_toArray, List.getElem?_eq_getElem h2] at this
  exact (Option.some.inj this).symm
/-- values -/
theorem comp_vals (p : Value → Bool) (F : Value → Value → Prop) (hh : A.handled = none) (hl : s.heap.IsList ax items.toArray) (hz : items.length ≤ 5000)
    (tests : Turns prog w A env scope cl x ifs items p s)
    (helt : ∀ C v s₃ m₃ E', v ∈ items → p v = true → Fr s.heap C s₃.heap m₃ → News s.heap C s₃.heap [] → m₃ x = some v →
      wpAny (model prog w) A (eval elt (compEnvC scope cl C env)) (fun y s₄ => F v y ∧ Keeps s₃ s₄) E' s₃)
    (h : ∀ D ys n h' tk, Keep s.heap h' → h'.get? D = some { cls := .type "list", data := .seq (List.toArray ys) n } → s.heap.get? D = none → Paired F (items.filter p) ys → Q (.ref D) { s with heap := h', toks := tk }) :
    wpAny (model prog w) A (pyIter (.ref ax)) (fun it s₂ => ∃ I fp wr n P St, it = .ref I ∧ Walks prog w A I fp wr n P St ∧ n ≤ sizeLine ∧ St 0 s₂.heap ∧ (∀ b ∈ fp, b < s₂.heap.objs.size) ∧
      QuietOnC prog w A env scope cl x ifs elt wr P p F s₂ ∧
      (∀ D h' tk ys (vs : List Value), s₂.heap.get? D = none → h'.IsList D ys → h'.PlainList D ys → vs.length = n → (∀ j v, vs[j]? = some v → P j v) → Paired F (vs.filter p) ys.toList →
        (∀ b o, b ∉ wr → s₂.heap.get? b = some o → h'.get? b = some o) → Q (.ref D) { s₂ with heap := h', toks := tk })) E s := by
  obtain ⟨ol, hol, _⟩ := id hl
  have hlt : ax < s.heap.objs.size := Heap.lt_size hol
  refine wpAny_pyIter_list hl ?_
  refine ⟨_, _, _, _, _, _, rfl, Walks.list hh s.heap.objs.size ax (Nat.ne_of_lt hlt) items.toArray, by rw [sizeLine_eq, List.size_toArray]; omega, ⟨⟨_, Heap.get?_push_size _ rfl, rfl, rfl⟩, hl.at fun o e => Heap.get?_push_of_some _ e⟩, ?_, ⟨?_, ?_⟩, ?_⟩
  · intro b hb
    rw [Heap.size_push]
    simp only [List.mem_cons, List.not_mem_nil, or_false] at hb
    rcases hb with hb | hb
    · exact hb ▸ Nat.lt_succ_self _
    · exact hb ▸ Nat.lt_succ_of_lt hlt
  · intro C i v s₃ m₃ E' hC hv hn hm hk _
    exact tests.tests C v s₃ m₃ E' (by simpa using Array.mem_of_getElem? hv) (fr_of_iter hC hn hk) News.nil hm
  · intro C i v s₃ m₃ E' hC hv hp hn hm hk _
    exact helt C v s₃ m₃ E' (by simpa using Array.mem_of_getElem? hv) hp (fr_of_iter hC hn hk) News.nil hm
  · intro D h' tk ys vs hD _ hpl hlen hP hF hk
    obtain ⟨n, hpl⟩ := hpl
    rw [items_of (by simpa using hlen) hP] at hF
    exact h D ys.toList n h' tk (keep_of_iter hk) (by rw [Array.toArray_toList]; exact hpl) (none_of_iter hD) hF
/-- lists -/
theorem comp_lists (p : Value → Bool) (G : Value → Array Value → Prop) (hh : A.handled = none) (hl : s.heap.IsList ax items.toArray) (hz : items.length ≤ 5000)
    (tests : Turns prog w A env scope cl x ifs items p s)
    (helt : ∀ C v s₃ m₃ E', v ∈ items → p v = true → Fr s.heap C s₃.heap m₃ → News s.heap C s₃.heap [] → m₃ x = some v →
      wpAny (model prog w) A (eval elt (compEnvC scope cl C env)) (fun y s₄ => (∃ T its, y = .ref T ∧ s₃.heap.get? T = none ∧ s₄.heap.IsList T its ∧ G v its) ∧ Keeps s₃ s₄) E' s₃)
    (h : ∀ D ys n h' tk, Keep s.heap h' → h'.get? D = some { cls := .type "list", data := .seq (List.toArray ys) n } → s.heap.get? D = none → Paired (LstIs s.heap G h') (items.filter p) ys → Q (.ref D) { s with heap := h', toks := tk }) :
    wpAny (model prog w) A (pyIter (.ref ax)) (fun it s₂ => ∃ I fp wr n P St, it = .ref I ∧ Walks prog w A I fp wr n P St ∧ n ≤ sizeLine ∧ (∀ i h, St i h → ∀ b ∈ wr, ∃ o, h.get? b = some o) ∧ St 0 s₂.heap ∧ (∀ b ∈ fp, b < s₂.heap.objs.size) ∧
      QuietOnCO prog w A env scope cl x ifs elt wr P p G s₂ ∧
      (∀ D h' tk ys (vs : List Value), s₂.heap.get? D = none → h'.IsList D ys → h'.PlainList D ys → vs.length = n → (∀ j v, vs[j]? = some v → P j v) → Paired (LstIs s₂.heap G h') (vs.filter p) ys.toList → ys.toList.Pairwise (· ≠ ·) →
        (∀ y ∈ ys.toList, y ≠ .ref D) →
        (∀ b o, b ∉ wr → s₂.heap.get? b = some o → h'.get? b = some o) → Q (.ref D) { s₂ with heap := h', toks := tk })) E s := by
  obtain ⟨ol, hol, _⟩ := id hl
  have hlt : ax < s.heap.objs.size := Heap.lt_size hol
  refine wpAny_pyIter_list hl ?_
  refine ⟨_, _, _, _, _, _, rfl, Walks.list hh s.heap.objs.size ax (Nat.ne_of_lt hlt) items.toArray, by rw [sizeLine_eq, List.size_toArray]; omega, ?_, ⟨⟨_, Heap.get?_push_size _ rfl, rfl, rfl⟩, hl.at fun o e => Heap.get?_push_of_some _ e⟩, ?_, ⟨?_, ?_⟩, ?_⟩
  · rintro i h ⟨⟨o, ho, _⟩, _⟩ b hb
    rw [List.mem_singleton.mp hb]
    exact ⟨o, ho⟩
  · intro b hb
    rw [Heap.size_push]
    simp only [List.mem_cons, List.not_mem_nil, or_false] at hb
    rcases hb with hb | hb
    · exact hb ▸ Nat.lt_succ_self _
    · exact hb ▸ Nat.lt_succ_of_lt hlt
  · intro C i v s₃ m₃ E' hC hv hn hm hk _
    exact tests.tests C v s₃ m₃ E' (by simpa using Array.mem_of_getElem? hv) (fr_of_iter hC hn hk) News.nil hm
  · intro C i v s₃ m₃ E' hC hv hp hn hm hk _
    exact helt C v s₃ m₃ E' (by simpa using Array.mem_of_getElem? hv) hp (fr_of_iter hC hn hk) News.nil hm
  · intro D h' tk ys vs hD _ hpl hlen hP hF _ _ hk
    obtain ⟨n, hpl⟩ := hpl
    rw [items_of (by simpa using hlen) hP] at hF
    refine h D ys.toList n h' tk (keep_of_iter hk) (by rw [Array.toArray_toList]; exact hpl) (none_of_iter hD) (hF.mono fun v y hy => ?_)
    obtain ⟨T, its, rfl, h1, h2, h3⟩ := hy
    exact ⟨T, its, rfl, none_of_iter h1, h2, h3⟩
theorem turns_nil : Turns prog w A env scope cl x [] items (fun _ => true) s := ⟨fun _ _ _ _ _ _ _ _ _ => wpAny_pure ⟨rfl, _, _, rfl, fun _ _ e => e⟩⟩
theorem paired_eq : ∀ {l ys : List Value}, Paired (fun v y => y = v) l ys → ys = l
  | _, _, .nil => rfl
  | _, _, .cons h r => by rw [h, paired_eq r]
/-- a filter of texts -/
def strP (q : Str → Bool) : Value → Bool
  | .str x _ => q x
  | _ => false
theorem strs_filter (q : Str → Bool) : ∀ {vs : List Value} {xs : List Str}, StrsAre vs xs → StrsAre (vs.filter (strP q)) (xs.filter q)
  | _, _, .nil => .nil
  | _, _, .cons y t r => by
    by_cases h : q y = true
    · rw [List.filter_cons_of_pos (show strP q (.str y t) = true from h), List.filter_cons_of_pos h]; exact .cons y t (strs_filter q r)
    · rw [List.filter_cons_of_neg (show ¬ strP q (.str y t) = true from h), List.filter_cons_of_neg h]; exact strs_filter q r
theorem strs_mem : ∀ {vs : List Value} {xs : List Str} {v : Value}, StrsAre vs xs → v ∈ vs → ∃ y t, v = .str y t ∧ y ∈ xs
  | _, _, _, .cons y t r, h => by
    rcases List.mem_cons.mp h with rfl | h
    · exact ⟨y, t, rfl, .head _⟩
    · obtain ⟨z, u, e, hm⟩ := strs_mem r h
      exact ⟨z, u, e, .tail _ hm⟩
theorem wtF_filter (q : Str → Bool) : ∀ xs : List Str, wtF (xs.filter q) ≤ wtF xs
  | [] => Nat.le_refl _
  | y :: r => by
    have := wtF_filter q r
    rw [List.filter_cons, wtF_cons]
    split
    · rw [wtF_cons]; omega
    · omega
theorem wt_split (x y : Str) (hy : 1 ≤ y.length) : wtF (Txt.split x y) ≤ x.length + 1 := split_weight x y hy
end
local macro_rules | `(tactic| walk_at "pyIter ref") => `(tactic| (with_reducible refine Stop.mk ?_))
section
variable {prog : Program} {w : World} {A : Around} {E : Value → Shared → Prop} {s : Shared} {Q : Value → Shared → Prop}
theorem notin_two {y a b : Str} {ty ta tb : Tok} (h : ∀ h', Keep s.heap h' → Q (.bool (!(a == y || b == y))) { s with heap := h' }) :
    wpAny (model prog w) A (newList [.str a ta, .str b tb]) (fun l s₂ => wpAny (model prog w) A (compareOp .NotIn (.str y ty) l) Q E s₂) E s := by
  refine wpAny_newObj_type ?_
  have hl : (s.heap.push { cls := .type "list", dict := none, data := .seq [Value.str a ta, Value.str b tb].toArray }).IsList s.heap.objs.size [Value.str a ta, Value.str b tb].toArray := ⟨_, Heap.get?_push_size _ rfl, rfl, _, rfl⟩
  refine notin_list_strs hl (.cons _ _ (.cons _ _ .nil)) ?_
  have e : (!([a, b].any (· == y))) = !(a == y || b == y) := by simp
  rw [e]
  exact h _ fun _ _ q => Heap.get?_push_of_some _ q
end

theorem off_M1 : True := by
  w_top off
  exact True.intro
theorem slot_map_init : Slot "map" "__init__" "object.__init__" :=
  .of (owner := "object") (n := "__init__") (by rw [typeLookup_type, builtinLookup_eq_fast]; kernel_rfl) (by decide +kernel) (by decide +kernel) (by decide +kernel)
    (by first | exact .inl (by decide +kernel) | exact .inr (by decide +kernel)) (by rw [isSubtype_type]; kernel_rfl)
theorem slot_map_iter : Slot "map" "__iter__" "map.__iter__" :=
  .of (owner := "map") (n := "__iter__") (by rw [typeLookup_type, builtinLookup_eq_fast]; kernel_rfl) (by decide +kernel) (by decide +kernel) (by decide +kernel)
    (by first | exact .inl (by decide +kernel) | exact .inr (by decide +kernel)) (by rw [isSubtype_type]; kernel_rfl)
theorem slot_map_next : Slot "map" "__next__" "map.__next__" :=
  .of (owner := "map") (n := "__next__") (by rw [typeLookup_type, builtinLookup_eq_fast]; kernel_rfl) (by decide +kernel) (by decide +kernel) (by decide +kernel)
    (by first | exact .inl (by decide +kernel) | exact .inr (by decide +kernel)) (by rw [isSubtype_type]; kernel_rfl)
theorem entry_map_new : entryFor table "map.__new__" = some Builtin.«map.__new__» := entryFor_of_tree (by kernel_rfl)
theorem entry_map_next : entryFor table "map.__next__" = some Builtin.«map.__next__» := entryFor_of_tree (by kernel_rfl)
theorem args_map_next (a : Value) : argsOk "map.__next__" ⟨[a], []⟩ := by unfold argsOk; kernel_rfl
theorem args_map_iter (a : Value) : argsOk "map.__iter__" ⟨[a], []⟩ := by unfold argsOk; kernel_rfl
theorem mro_map : mroOf (.type "map") = pure [.type "map", .type "object"] := by rw [mroOf_type]; kernel_rfl
theorem lookup_map_new : typeLookup (.type "map") "__new__" = pure (some (.builtin "map.__new__")) := by rw [typeLookup_type, builtinLookup_eq_fast]; kernel_rfl
theorem called_map : TypeCalled "map" "map.__new__" "object.__init__" :=
  ⟨by decide +kernel, by decide +kernel, ⟨_, _, mro_map⟩, madeBy_type mro_map lookup_map_new (by decide +kernel), by decide +kernel, by rw [isSubtype_type]; kernel_rfl, slot_map_init⟩
theorem typeCall_map (a b : Value) : checkTypeCall "map" ⟨[a, b], []⟩ = pure () := by kernel_rfl
theorem newCall_map (a b : Value) : checkBuiltinCall "map.__new__" ⟨[.type "map", a, b], []⟩ = pure () := by kernel_rfl
theorem args_init_3 (o a b : Value) : argsOk "object.__init__" ⟨[o, a, b], []⟩ := by unfold argsOk; kernel_rfl
theorem map_no_len : typeLookup (.type "map") "__len__" = pure none := by rw [typeLookup_type, builtinLookup_eq_fast]; kernel_rfl
theorem map_no_hint : typeLookup (.type "map") "__length_hint__" = pure none := by rw [typeLookup_type, builtinLookup_eq_fast]; kernel_rfl
theorem sub_map_self : isSubtype (.type "map") (.type "map") = pure true := by rw [isSubtype_type]; kernel_rfl
theorem map_new_meets (f l : Addr) (items : Array Value) :
    Meets (Builtin.«map.__new__» ⟨[.type "map", .ref f, .ref l], []⟩) (fun _ R s => s.heap.IsList l items ∧
      R (.ok (.ret (.ref (s.heap.objs.size + 2)))) { s with heap := ((s.heap.push { cls := .type "list_iterator", data := .fields #[.ref l, .int 0 0] }).push { cls := .type "tuple", data := .seq #[.ref s.heap.objs.size] }).push { cls := .type "map", data := .fields #[.ref (s.heap.objs.size + 1), .ref f] } }) :=
  .of_wp fun prog w A R s h => by
    obtain ⟨hl, h⟩ := h
    have hsub := sub_map_self
    repeat (any_goals (first | assumption | with_reducible refine wpAny_pyIter_list hl ?_ | wp_step))
    refine ⟨_, rfl, ?_⟩
    simp only [Heap.size_push]
    exact h
section
variable {prog : Program} {w : World} {A : Around} {E : Value → Shared → Prop} {s : Shared}
theorem call_map {f l : Addr} {items : Array Value} {Q : Value → Shared → Prop} (hl : s.heap.IsList l items)
    (h : ∀ J T I h', Keep s.heap h' → s.heap.objs.size ≤ J → s.heap.objs.size ≤ T → s.heap.objs.size ≤ I → T ≠ J → I ≠ J → h'.get? I = some { cls := .type "map", data := .fields #[.ref T, .ref f] } → h'.get? T = some { cls := .type "tuple", data := .seq #[.ref J] } → h'.get? J = some { cls := .type "list_iterator", data := .fields #[.ref l, .int 0 0] } →
      Q (.ref I) { s with heap := h' }) : wpAny (model prog w) A (call (.type "map") [.ref f, .ref l]) Q E s := by
  refine callType_new called_map (by decide) (typeCall_map _ _) (newCall_map _ _) (fun obj => args_init_3 obj _ _) entry_map_new (map_new_meets f l items) ⟨hl, ?_⟩
  have g : (((s.heap.push { cls := .type "list_iterator", data := .fields #[.ref l, .int 0 0] }).push { cls := .type "tuple", data := .seq #[.ref s.heap.objs.size] }).push { cls := .type "map", data := .fields #[.ref (s.heap.objs.size + 1), .ref f] }).get? (s.heap.objs.size + 2) = some { cls := .type "map", data := .fields #[.ref (s.heap.objs.size + 1), .ref f] } := by
    have := Heap.get?_push_size (h := (s.heap.push { cls := .type "list_iterator", data := .fields #[.ref l, .int 0 0] }).push { cls := .type "tuple", data := .seq #[.ref s.heap.objs.size] }) (o := { cls := .type "map", data := .fields #[.ref (s.heap.objs.size + 1), .ref f] }) rfl
    simpa only [Heap.size_push] using this
  have g2 : ((s.heap.push { cls := .type "list_iterator", data := .fields #[.ref l, .int 0 0] }).push { cls := .type "tuple", data := .seq #[.ref s.heap.objs.size] }).get? (s.heap.objs.size + 1) = some { cls := .type "tuple", data := .seq #[.ref s.heap.objs.size] } := by
    have := Heap.get?_push_size (h := s.heap.push { cls := .type "list_iterator", data := .fields #[.ref l, .int 0 0] }) (o := { cls := .type "tuple", data := .seq #[.ref s.heap.objs.size] }) rfl
    simpa only [Heap.size_push] using this
  refine ⟨⟨_, g, rfl⟩, h s.heap.objs.size (s.heap.objs.size + 1) (s.heap.objs.size + 2) _ (fun b o e => Heap.get?_push_of_some _ (Heap.get?_push_of_some _ (Heap.get?_push_of_some _ e))) (Nat.le_refl _) (Nat.le_succ _) (Nat.le_add_right _ 2) (Nat.succ_ne_self _) (by omega) g (Heap.get?_push_of_some _ g2) ?_⟩
  exact Heap.get?_push_of_some _ (Heap.get?_push_of_some _ (Heap.get?_push_size _ rfl))
theorem nextOf_item {it l : Addr} {i : Nat} {items : Array Value} {x : Value} {Q : Value → Shared → Prop} (hit : s.heap.IsListIter it l i)
    (hl : s.heap.IsList l items) (hx : items[i]? = some x)
    (hQ : ∀ h', h'.IsListIter it l (i + 1) → Heap.SameBut it s.heap h' → Q x { s with heap := h' }) :
    wpAny (model prog w) A (Builtin.SmallTypes.nextOf (.ref it)) Q E s := by
  obtain ⟨o, ho, hc, hd⟩ := id hit
  obtain ⟨ol, hol, _, nl, hdl⟩ := hl
  unfold Builtin.SmallTypes.nextOf
  refine wpAny_bind (wpAny_callSpecial?_slot (name := Str.ofString "__next__") hit.typeIs slot_listiter_next
    (wpAny_call_entry slot_listiter_next hit.typeIs entry_listiter_next ?_ (args_listiter_next _)))
  show wpAny _ _ (field (.ref it) 0 >>= _) _ _ s
  refine wpAny_bind (wpAny_field ho hd (x := .ref l) rfl ?_)
  show wpAny _ _ (if (Value.ref l == Value.none) = true then _ else _) _ _ s
  rw [if_neg (show ¬ ((Value.ref l == Value.none) = true) from Bool.false_ne_true)]
  show wpAny _ _ (field (.ref it) 1 >>= _) _ _ s
  refine wpAny_bind (wpAny_field ho hd (x := .int i 0) rfl ?_)
  show wpAny _ _ (seqItems? (.ref l) >>= _) _ _ s
  refine wpAny_bind (wpAny_seqItems hol hdl ?_)
  simp only [Int.toNat_natCast, hx]
  refine wpAny_bind (wpAny_setField ho hd (by simp) (wpAny_pure ⟨x, rfl, wpAny_pure (hQ _ ?_ (Heap.SameBut.update ..))⟩))
  exact ⟨_, Heap.get?_update_self _ ho (Obj.isFreed_of_fields (Obj.data_mapFields hd _)), (Obj.cls_mapFields ..).trans hc, by
    rw [Obj.data_mapFields hd]; simp [rawInt]⟩
theorem nextOf_end {it l : Addr} {i : Nat} {items : Array Value} {Q : Value → Shared → Prop} (hh : A.handled = none)
    (hit : s.heap.IsListIter it l i) (hl : s.heap.IsList l items) (hx : items[i]? = none)
    (hE : ∀ h' e, Heap.ExtBut it s.heap h' → (∃ o, h'.get? e = some o ∧ o.cls = .type "StopIteration") → E (.ref e) { s with heap := h' }) : wpAny (model prog w) A (Builtin.SmallTypes.nextOf (.ref it)) Q E s := by
  obtain ⟨o, ho, hc, hd⟩ := id hit
  obtain ⟨ol, hol, _, nl, hdl⟩ := hl
  unfold Builtin.SmallTypes.nextOf
  refine wpAny_bind (wpAny_callSpecial?_slot (name := Str.ofString "__next__") hit.typeIs slot_listiter_next
    (wpAny_call_entry slot_listiter_next hit.typeIs entry_listiter_next ?_ (args_listiter_next _)))
  show wpAny _ _ (field (.ref it) 0 >>= _) _ _ s
  refine wpAny_bind (wpAny_field ho hd (x := .ref l) rfl ?_)
  show wpAny _ _ (if (Value.ref l == Value.none) = true then _ else _) _ _ s
  rw [if_neg (show ¬ ((Value.ref l == Value.none) = true) from Bool.false_ne_true)]
  show wpAny _ _ (field (.ref it) 1 >>= _) _ _ s
  refine wpAny_bind (wpAny_field ho hd (x := .int i 0) rfl ?_)
  show wpAny _ _ (seqItems? (.ref l) >>= _) _ _ s
  refine wpAny_bind (wpAny_seqItems hol hdl ?_)
  simp only [Int.toNat_natCast, hx]
  refine wpAny_bind (wpAny_rule (wpAny_bind (wpAny_setField ho hd (by simp) ?_)))
  show wpAny _ _ (newExc (.type "StopIteration") [] >>= _) _ _ _
  refine wpAny_bind ?_
  simp only [newExc, newTuple]
  refine wpAny_bind (wpAny_newObj_type ?_ (by size_fits))
  refine wpAny_bind (m := firstArgMember _ _) (wpAny_of_eq (a := Value.none) (by first | rfl | (simp only [firstArgMember]; rfl)) ?_)
  refine wpAny_newObj_type ?_ (by size_fits)
  simp only [raiseNew]
  refine wpAny_bind (wpAny_handled ?_)
  rw [show A.in1.handled = none from hh]
  refine wpAny_bind (wpAny_pure (wpAny_throw ?_))
  exact hE _ _ (((Heap.SameBut.update ..).extBut.push _).push _) ⟨_, Heap.get?_push_size _ rfl, rfl⟩
end

theorem off_M2 : True := by
  w_top off
  exact True.intro
theorem entry_map_iter : entryFor table "map.__iter__" = some Builtin.«dict_keyiterator.__iter__» :=
  entryFor_alias (id' := "dict_keyiterator.__iter__") (by kernel_rfl) (by first | rfl | decide +kernel) (by decide +kernel) (by kernel_rfl)
section
variable {prog : Program} {w : World} {A : Around} {E : Value → Shared → Prop}
theorem nextOf_item' {s : Shared} {it l : Addr} {i : Nat} {items : Array Value} {x v : Value} {Q : Value → Shared → Prop} (hv : v = .ref it) (hit : s.heap.IsListIter it l i)
    (hl : s.heap.IsList l items) (hx : items[i]? = some x)
    (hQ : ∀ h', h'.IsListIter it l (i + 1) → Heap.SameBut it s.heap h' → Q x { s with heap := h' }) :
    wpAny (model prog w) A (Builtin.SmallTypes.nextOf v) Q E s := hv ▸ nextOf_item hit hl hx hQ
theorem nextOf_end' {s : Shared} {it l : Addr} {i : Nat} {items : Array Value} {v : Value} {Q : Value → Shared → Prop} (hv : v = .ref it) (hh : A.handled = none)
    (hit : s.heap.IsListIter it l i) (hl : s.heap.IsList l items) (hx : items[i]? = none)
    (hE : ∀ h' e, Heap.ExtBut it s.heap h' → (∃ o, h'.get? e = some o ∧ o.cls = .type "StopIteration") → E (.ref e) { s with heap := h' }) : wpAny (model prog w) A (Builtin.SmallTypes.nextOf v) Q E s := hv ▸ nextOf_end hh hit hl hx hE
theorem call_as {s : Shared} {fv x : Value} {vs : List Value} {f : Addr} {Q : Value → Shared → Prop} (h1 : fv = .ref f) (h2 : vs = [x]) (h : wpAny (model prog w) A (call (.ref f) [x]) Q E s) : wpAny (model prog w) A (call fv vs) Q E s := by
  subst h1; subst h2; exact h
/-- what a map over a list of texts keeps, its iterator at place i -/
def MapSt (h₀ : Heap) (I T J f l : Addr) (items : Array Value) (i : Nat) (s : Shared) : Prop :=
  Keep h₀ s.heap ∧ s.heap.get? I = some { cls := .type "map", data := .fields #[.ref T, .ref f] } ∧ s.heap.get? T = some { cls := .type "tuple", data := .seq #[.ref J] } ∧ s.heap.IsListIter J l i ∧ s.heap.IsList l items
theorem walks_map {s₀ : Shared} {I T J f l : Addr} {items : Array Value} {n : Nat} (hh : A.handled = none) (hJ : s₀.heap.get? J = none) (hJT : T ≠ J) (hJI : I ≠ J) (hl : s₀.heap.IsList l items) (hI : I < n) (hT : T < n) (hJn : J < n) (hln : l < n) (hn : s₀.heap.objs.size ≤ n)
    (hf : ∀ (v : Value) (s : Shared) (Q : Value → Shared → Prop) (E : Value → Shared → Prop), v ∈ items → Keep s₀.heap s.heap → (∀ h' tk, Keep s.heap h' → s.toks ≤ tk → Q v { s with heap := h', toks := tk }) → wpAny (model prog w) A.in1 (call (.ref f) [v]) Q E s) :
    WalksS prog w A I (List.range n) [J] (fun a b => a = b) items.size (fun i v => items[i]? = some v) (MapSt s₀.heap I T J f l items) where
  sub := fun b hb => by rw [List.mem_singleton.mp hb]; exact List.mem_range.mpr hJn
  grefl := fun _ => rfl
  gtrans := fun _ _ _ a b => a.trans b
  frame := fun i s h' tk st _ hk => by
    obtain ⟨k, a, b, c, d⟩ := st
    have hkk : ∀ x o, x < n → s.heap.get? x = some o → h'.get? x = some o := fun x o hx e => hk x (List.mem_range.mpr hx) o e
    exact ⟨fun x o e => hkk x o (Nat.lt_of_lt_of_le (Heap.lt_size e) hn) (k x o e), hkk _ _ hI a, hkk _ _ hT b, c.at fun o e => hkk _ o hJn e, d.at fun o e => hkk _ o hln e⟩
  item := fun i s Q E hi st hQ => by
    obtain ⟨k, a, b, c, d⟩ := st
    have hTI : s.TypeIs (.ref I) "map" := ⟨_, a, rfl⟩
    have hx : items[i]? = some items[i] := by simp [hi]
    unfold pyNext
    refine wpAny_bind (wpAny_attempt (wpAny_callSpecial?_slot (name := Str.ofString "__next__") hTI slot_map_next (wpAny_call_entry slot_map_next hTI entry_map_next ?_ (args_map_next _))))
    repeat (any_goals (first | assumption | (with_reducible refine nextOf_item' ?hv9 c d hx ?_; (case hv9 => with_unfolding_all rfl); intro h1 c1 k1) | wp_step))
    have a1 : h1.get? I = some { cls := .type "map", data := .fields #[.ref T, .ref f] } := k1.extBut I _ hJI a
    repeat (any_goals (first | assumption |
      (with_reducible refine call_as (f := f) (x := items[i]) ?hv8 ?hv9 ?_; (case hv8 => with_unfolding_all rfl); (case hv9 => with_unfolding_all rfl); refine Stop.mk ?_) | wp_step))
    refine Stop.out (hf _ _ _ _ (Array.getElem_mem _) (fun x o e => k1.extBut x o (fun q => by rw [q, hJ] at e; cases e) (k x o e)) fun h2 tk2 k2 ht2 => ?_)
    repeat (any_goals (first | assumption | wp_step))
    refine ⟨_, rfl, ?_⟩
    refine wpAny_pure (hQ _ _ hx ⟨fun x o e => k2 _ _ (k1.extBut x o (fun q => by rw [q, hJ] at e; cases e) (k x o e)), k2 _ _ a1, k2 _ _ (k1.extBut T _ hJT b), c1.at fun o e => k2 _ o e, (d.extBut k1.extBut (fun q => ?_)).at fun o e => k2 _ o e⟩ ⟨fun x o hx e => k2 _ _ (k1.extBut x o (fun q => hx (by simp [q])) e), rfl, rfl, rfl, ht2⟩)
    obtain ⟨ol, hol, _⟩ := hl
    rw [q, hJ] at hol
    cases hol
  done := fun s Q E st hQ => by
    obtain ⟨k, a, b, c, d⟩ := st
    have hTI : s.TypeIs (.ref I) "map" := ⟨_, a, rfl⟩
    have hx : items[items.size]? = none := by simp
    unfold pyNext
    refine wpAny_bind (wpAny_attempt (wpAny_callSpecial?_slot (name := Str.ofString "__next__") hTI slot_map_next (wpAny_call_entry slot_map_next hTI entry_map_next ?_ (args_map_next _))))
    repeat (any_goals (first | assumption | (with_reducible refine nextOf_end' ?hv9 hh c d hx ?_; (case hv9 => with_unfolding_all rfl); intro h1 e1 k1 hs1) | ((with_reducible show wpAny _ _ (isInstance _ _) _ _ _); refine Stop.mk ?_) | wp_step))
    refine Stop.out (wpAny_isInstance (T := "StopIteration") (b := true) hs1 isSubtype_stop ?_)
    repeat (any_goals (first | assumption | wp_step))
    exact hQ { s with heap := h1 } ⟨fun x o hx e => k1 x o (fun q => hx (by simp [q])) e, rfl, rfl, rfl, Nat.le_refl _⟩
  self := fun i s Q E st hQ => by
    obtain ⟨k, a, b, c, d⟩ := st
    have hTI : s.TypeIs (.ref I) "map" := ⟨_, a, rfl⟩
    refine wpAny_pyIter_slot hTI slot_map_iter (wpAny_call_entry slot_map_iter hTI entry_map_iter ?_ (args_map_iter _))
    repeat (any_goals (first | assumption | wp_step))
    exact ⟨_, rfl, "map", _, hTI, slot_map_next.lookup, hQ⟩
end

theorem off_M3 : True := by
  w_top off
  exact True.intro
section
variable {prog : Program} {w : World} {A : Around} {E : Value → Shared → Prop} {s : Shared} {I : Addr} {fp wr : List Addr} {G : Array GenState → Array GenState → Prop} {n : Nat} {P : Nat → Value → Prop} {St : Nat → Shared → Prop}
theorem collect_map {Q : List Value → Shared → Prop} (W : WalksS prog w A.in1 I fp wr G n P St) (hT : ∀ i s, St i s → s.TypeIs (.ref I) "map") (hst : St 0 s) (hfp : ∀ b ∈ fp, b < s.heap.objs.size) (hI : I ∈ fp)
    (hQ : ∀ s' acc, Moved wr G s s' → ItemsOf P acc n → Q acc.toList s') (hn : n ≤ sizeLine) : wpAny (model prog w) A (collect (.ref I)) Q E s := by
  have hSf : s.heap.objs.size ∉ fp := fun hm => Nat.lt_irrefl _ (hfp _ hm)
  have hSI : s.heap.objs.size ≠ I := fun e => hSf (e ▸ hI)
  unfold collect
  refine wpAny_bind (wpAny_runValue (codeAny_builtin F.entry_proto_collect ?_))
  rw [Around.under_plainId F.plain_proto_collect _]
  show wpAny _ A.in1 (newList [] >>= fun l => again (.builtin "list.__iadd__" ⟨[l, .ref I], []⟩)) _ _ s
  refine wpAny_bind (wpAny_newObj_type ?_)
  refine wpAny_pure ⟨plainId_quiet F.plain_list_iadd _, codeAny_builtin F.entry_list_iadd ?_⟩
  rw [Around.under_plainId F.plain_list_iadd _]
  have hst₁ := W.frame 0 s (s.heap.push { cls := .type "list", data := .seq ([] : List Value).toArray }) s.toks hst (Nat.le_refl _) fun b _ o e => Heap.get?_push_of_some _ e
  show wpAny _ A.in1 (Builtin.List.listExtendWith (.ref s.heap.objs.size) (.ref I) (.ref s.heap.objs.size)) _ _ _
  unfold Builtin.List.listExtendWith
  refine wpAny_bind (wpAny_typeOf (hT 0 _ hst₁) ?_)
  have h1 : Builtin.List.listSameRef (.ref s.heap.objs.size) (.ref I) = false := by simp [Builtin.List.listSameRef, hSI]
  have h2 : (Value.type "map" == Value.type "list") = false := by decide
  have h3 : (Value.type "map" == Value.type "tuple") = false := by decide
  simp only [h1, h2, h3, Bool.or_false, Bool.false_eq_true, if_false]
  refine wpAny_bind (W.self 0 _ _ _ hst₁ ?_)
  refine wpAny_bind (wpAny_holding ?_)
  unfold Builtin.List.listLengthHint
  refine wpAny_bind (wpAny_specialOf (hT 0 _ hst₁) map_no_len ?_)
  show wpAny _ A.in1 (specialOf (Value.ref I) (Str.ofString "__length_hint__") >>= _) _ _ _
  refine wpAny_bind (wpAny_specialOf (hT 0 _ hst₁) map_no_hint ?_)
  refine wpAny_pure ?_
  show wpAny _ A.in1 (rule "list.extend.makes-room" >>= fun _ => Builtin.List.listTouch (.ref s.heap.objs.size) >>= fun _ =>
    again (.builtin "list.extend.loop" ⟨[.ref s.heap.objs.size, .ref I, .ref s.heap.objs.size], []⟩)) _ _ _
  refine wpAny_bind (wpAny_rule ?_)
  have hS₁ : (s.heap.push { cls := .type "list", data := .seq ([] : List Value).toArray }).get? s.heap.objs.size = some { cls := .type "list", data := .seq ([] : List Value).toArray } := Heap.get?_push_size _ rfl
  refine wpAny_bind ?_
  show wpAny _ A.in1 (updateSeq s.heap.objs.size (·.push .none) >>= fun _ => updateSeq s.heap.objs.size (·.pop)) _ _ _
  refine wpAny_bind (wpAny_updateSeq hS₁ rfl ?_)
  have hS₂ := Heap.get?_update_self (Obj.mapSeq (·.push Value.none)) hS₁ rfl
  refine wpAny_updateSeq hS₂ rfl ?_
  have hS₃ := Heap.get?_update_self (Obj.mapSeq (·.pop)) hS₂ rfl
  have oth : ∀ b o, b ≠ s.heap.objs.size → (s.heap.push { cls := .type "list", data := .seq ([] : List Value).toArray }).get? b = some o →
      (((s.heap.push { cls := .type "list", data := .seq ([] : List Value).toArray }).update s.heap.objs.size (Obj.mapSeq (·.push Value.none))).update s.heap.objs.size (Obj.mapSeq (·.pop))).get? b = some o :=
    fun b o hb e => (Heap.get?_update_other _ _ (Ne.symm hb)).trans ((Heap.get?_update_other _ _ (Ne.symm hb)).trans e)
  refine wpAny_pure ⟨plainId_quiet F.plain_extend_loop _, codeAny_extend_loopS W hn _ hSf _ n 0 _ _ _ rfl (Nat.zero_le _)
    (W.frame 0 ({ s with heap := s.heap.push { cls := .type "list", data := .seq ([] : List Value).toArray } } : Shared) _ s.toks hst₁ (Nat.le_refl _) fun b hb o e => oth b o (fun h => hSf (h ▸ hb)) e) hS₃ (ItemsOf.nil P) fun s' acc' c' hm hS' hacc => ?_⟩
  show wpAny _ A (load s.heap.objs.size >>= _) _ _ s'
  refine wpAny_bind (wpAny_load hS' ?_)
  refine wpAny_pure (hQ s' acc' (Moved.drop_new (o := { cls := .type "list", data := .seq ([] : List Value).toArray }) (tk := s.toks) (Moved.trans W.gtrans ((Moved.refl W.grefl).then_heap (by first | exact Nat.le_refl _ | exact Nat.le_succ _ | omega) fun b o hb e => ?_) hm) (Nat.le_refl _)) hacc)
  exact oth b o (fun h => hb (by simp [h])) e
end
theorem items_all {items acc : Array Value} (h : ItemsOf (fun i v => items[i]? = some v) acc items.size) : acc = items := by
  refine Array.ext h.1 fun i h1 h2 => ?_
  have := h.2 i acc[i] (by simp [h1])
  simpa [h2] using this.symm
def KeepBut (J : Addr) (h h' : Heap) : Prop := ∀ b o, b ≠ J → h.get? b = some o → h'.get? b = some o
section
variable {prog : Program} {w : World} {A : Around} {E : Value → Shared → Prop} {s : Shared}
theorem tuple_new_map {I J : Addr} {items : List Value} (hz : items.length ≤ sizeLine) :
    MeetsIn prog w (Builtin.«tuple.__new__» ⟨[.type "tuple", .ref I], []⟩) (fun A R s => s.TypeIs (.ref I) "map" ∧
      (∀ (Q : List Value → Shared → Prop) (E : Value → Shared → Prop), (∀ h' tk, KeepBut J s.heap h' → Q items { s with heap := h', toks := tk }) → wpAny (model prog w) A.in1 (collect (.ref I)) Q E s) ∧
      ∀ h' tk, KeepBut J s.heap h' → R (.ok (.ret (.ref h'.objs.size))) { s with heap := h'.push { cls := .type "tuple", data := .seq items.toArray }, toks := tk }) :=
  .of_wp fun A R s h => by
    obtain ⟨hT, hc, h⟩ := h
    have hsub := sub_tuple_self
    have hinit := init_tuple_lookup
    have hmh := madeHere_tuple
    repeat (any_goals (first | assumption | ((with_reducible show wpAny _ _ (collect _) _ _ _); refine Stop.mk ?_) | wp_step))
    refine Stop.out (hc _ _ fun h' tk k => ?_)
    repeat (any_goals (first | assumption | ((with_reducible show wpAny _ _ (newObj _ _ _) _ _ _); refine wpAny_newObj_type ?_ (by show items.toArray.size ≤ sizeLine; rw [List.size_toArray]; exact hz)) | wp_step))
    exact ⟨_, rfl, h h' tk k⟩
theorem map_K {h₀ : Heap} {L : Addr} {m : Str → Option Value} {news : List (Addr × Obj)} {f l : Addr} {items : Array Value} {Q : Value → Shared → Prop} (F : Fr h₀ L s.heap m) (N : News h₀ L s.heap news) (hl : s.heap.IsList l items)
    (h : ∀ J T I h', Fr h₀ L h' m → News h₀ L h' ((I, { cls := .type "map", data := .fields #[.ref T, .ref f] }) :: (T, { cls := .type "tuple", data := .seq #[.ref J] }) :: (J, { cls := .type "list_iterator", data := .fields #[.ref l, .int 0 0] }) :: news) →
      (∀ p ∈ news, p.1 < J) → T ≠ J → I ≠ J → Q (.ref I) { s with heap := h' }) : wpAny (model prog w) A (call (.type "map") [.ref f, .ref l]) Q E s := by
  refine call_map hl fun J T I h' k hJ hT hI hTJ hIJ gI gT gJ => ?_
  have fr : ∀ {b : Addr} {o : Obj}, s.heap.objs.size ≤ b → h'.get? b = some o → (h'.get? b = some o ∧ b ≠ L ∧ h₀.get? b = none) := fun {b o} hb e => by
    obtain ⟨oL, _, _, hL, _⟩ := F.ns
    refine ⟨e, fun q => Nat.lt_irrefl _ (Nat.lt_of_lt_of_le (Heap.lt_size hL) (q ▸ hb)), ?_⟩
    cases q : h₀.get? b with
    | none => rfl
    | some o' => exact absurd (Nat.lt_of_lt_of_le (Heap.lt_size (F.keep _ _ q)) hb) (Nat.lt_irrefl _)
  refine h J T I h' (k.fr F) (fun p hp => ?_) (fun p hp => Nat.lt_of_lt_of_le (Heap.lt_size (N p hp).1) hJ) hTJ hIJ
  rcases List.mem_cons.mp hp with rfl | hp
  · exact fr hI gI
  rcases List.mem_cons.mp hp with rfl | hp
  · exact fr hT gT
  rcases List.mem_cons.mp hp with rfl | hp
  · exact fr hJ gJ
  · exact k.news N p hp
theorem tuple_map_K {p : Program} {loose : List Str} {mean : ExcName → Option Value} {mg mb : Str → Option Value} {h₀ : Heap} {L : Addr} {m : Str → Option Value} {news : List (Addr × Obj)} {I T J l : Addr} {vs : List Value} {xs : List Str} {Q : Value → Shared → Prop}
    (F : Fr h₀ L s.heap m) (N : News h₀ L s.heap ((I, { cls := .type "map", data := .fields #[.ref T, .ref 94] }) :: (T, { cls := .type "tuple", data := .seq #[.ref J] }) :: (J, { cls := .type "list_iterator", data := .fields #[.ref l, .int 0 0] }) :: news))
    (X : (Mine.hd.heap_39 w.params).In h₀) (hT : Top p loose mean mg mb h₀) (hd : A.depth + 1 < recursionLimit) (hu : A.units + 9 < cLine) (hh : A.handled = none)
    (hl : h₀.IsList l vs.toArray) (hS : StrsAre vs xs) (hz : vs.length ≤ 1000) (hJ : ∀ p ∈ news, p.1 ≠ J) (hTJ : T ≠ J) (hIJ : I ≠ J)
    (h : ∀ D h' tk, Fr h₀ L h' m → News h₀ L h' ((D, { cls := .type "tuple", data := .seq vs.toArray }) :: news) → (∀ p ∈ news, p.1 < D) → Q (.ref D) { s with heap := h', toks := tk }) :
    wpAny (model PySem.Challenge.rw_in0137_01.row.prog w) A (call (.type "tuple") [.ref I]) Q E s := by
  have gI := N _ (.head _)
  have gT := N _ (.tail _ (.head _))
  have gJ := N _ (.tail _ (.tail _ (.head _)))
  have N' : News h₀ L s.heap news := fun p hp => N p (.tail _ (.tail _ (.tail _ hp)))
  obtain ⟨ol, hol, hol2⟩ := id hl
  have szle : h₀.objs.size ≤ s.heap.objs.size := by
    have h1 := F.above
    exact Nat.le_trans h1 (Nat.le_of_lt F.ns.lt)
  refine callType_newIn PySem.F.called_tuple (by decide) (PySem.F.typeCall_tuple_1 _) (PySem.F.newCall_tuple_1 _) (fun obj => PySem.F.args_object_init_2 obj _) PySem.F.entry_tuple_new (tuple_new_map (J := J) (items := vs) (by rw [sizeLine_eq]; omega)) ⟨⟨_, gI.1, rfl⟩, ?_, ?_⟩
  · intro Q' E' hQ
    have W := walks_map (prog := PySem.Challenge.rw_in0137_01.row.prog) (w := w) (A := A.in1.in1.in1) (s₀ := { s with heap := h₀ }) (I := I) (T := T) (J := J) (f := 94) (l := l) (items := vs.toArray) (n := s.heap.objs.size) hh gJ.2.2 hTJ hIJ hl
      (Heap.lt_size gI.1) (Heap.lt_size gT.1) (Heap.lt_size gJ.1) (Heap.lt_size (F.keep _ _ hol)) szle (fun v s1 Q1 E1 hv k1 hq => by
        obtain ⟨y, ty, rfl, _⟩ := strs_mem hS (by simpa using hv)
        refine wpAny_mono (wpAny_toks_of (E := fun _ _ => False) (n := s1.toks) (Nat.le_refl _) (wpAny_call (Q := fun v s' => v = .str y ty ∧ ∃ h' tk, Keep s1.heap h' ∧ s' = { s1 with heap := h', toks := tk }) (c_fspath (X.keeps k1) (hT.keeps k1) hd (by show A.units + 1 + 1 + 1 + 1 + 1 < cLine; omega) hh fun h' tk k => ⟨rfl, h', tk, k, rfl⟩))) ?_ ?_
        · rintro v' s' ⟨ht, rfl, h', tk, k, rfl⟩
          exact hq h' tk k ht
        · exact fun _ _ x => x.2.elim)
    refine collect_map W (fun i s1 st => ⟨_, st.2.1, rfl⟩) ⟨F.keep, gI.1, gT.1, ⟨_, gJ.1, rfl, rfl⟩, hl.at fun o e => F.keep _ o e⟩ (fun b hb => List.mem_range.mp hb) (List.mem_range.mpr (Heap.lt_size gI.1)) (fun s' acc hm ha => ?_) (by rw [sizeLine_eq, List.size_toArray]; omega)
    rw [items_all ha]
    obtain ⟨h', g', d', tk', os'⟩ := s'
    obtain ⟨m1, rfl, rfl, rfl, _⟩ := hm
    exact hQ h' tk' (fun b o hb e => m1 b o (by simp [hb]) e)
  · intro h' tk k
    have k' : ∀ {b : Addr} {o : Obj}, h₀.get? b = some o → h'.get? b = some o := fun {b o} e => k b o (fun q => by rw [q, gJ.2.2] at e; cases e) (F.keep _ _ e)
    have F' : Fr h₀ L h' m := by
      obtain ⟨oL, es, ep, hL, r⟩ := F.ns
      exact ⟨⟨oL, es, ep, k L oL (Ne.symm gJ.2.1) hL, r⟩, fun b o e => k' e, F.above⟩
    have N'' : News h₀ L h' news := fun p hp => ⟨k _ _ (hJ p hp) (N' p hp).1, (N' p hp).2⟩
    exact ⟨⟨_, Heap.get?_push_size _ rfl, rfl⟩, h _ _ tk (F'.push _) (N''.push F' _) fun p hp => Heap.lt_size (N'' p hp).1⟩
end
local macro_rules | `(tactic| walk_at "call type:map") => `(tactic| (k_here; (with_reducible show wpAny _ _ (call (Value.type "map") [Value.ref _, Value.ref _]) _ _ _); k_dflt (refine' map_K ?F ?N ?l ?_; (case F => k_asm); (case N => k_asm); (case l => exact Heap.IsList.at (by assumption) (fun o e => Fr.keep (by k_asm) _ o e))); intro J' T' I' h' F' N' l1 ne1 ne2; (try k_lt l1)))
local macro_rules | `(tactic| walk_at "call type:tuple") => `(tactic| (k_here; (with_reducible show wpAny _ _ (call (Value.type "tuple") [Value.ref _]) _ _ _); k_dflt (refine' tuple_map_K ?F ?N ?X ?T ?d ?u ?hh ?l ?S ?z ?j ?t1 ?t2 ?_; (case F => k_asm); (case N => k_asm); (case X => k_asm); (case T => k_asm); (case d => (simp only [depth_deeper, depth_in1]; omega)); (case u => (simp only [Around.deeper_units, Around.in1_units]; omega)); (case hh => assumption); (case l => assumption); (case S => assumption); (case z => assumption); (case j => k_all); (case t1 => assumption); (case t2 => assumption)); intro D' h' tk' F' N' l1; (try k_lt l1); (try k_sweep)))
theorem try_K {prog : Program} {w : World} {A : Around} {E : Value → Shared → Prop} {s : Shared} {env : Env} {body orelse : List Stmt} {h₀ : ExceptHandler} {hs : List ExceptHandler} {pos : Pos} {Q : Flow → Shared → Prop}
    (h : wpAny (model prog w) A (execs body env) (fun f s₁ => match f with | .next => wpAny (model prog w) A (execs orelse env) Q E s₁ | f => Q f s₁) (fun _ _ => False) s) :
    wpAny (model prog w) A (exec (.Try body (h₀ :: hs) orelse [] pos) env) Q E s := wpAny_Try_except (wpAny_mono h (fun _ _ x => x) fun _ _ x => x.elim)
local macro_rules | `(tactic| walk_at "exec Try") => `(tactic| (k_here; refine try_K ?_))

theorem off_L3 : True := by
  w_top off
  exact True.intro
section
variable {prog : Program} {w : World} {A : Around} {E : Value → Shared → Prop} {s : Shared}
/-- a list's or a tuple's iterator -/
theorem src_iter {ax : Addr} {items : List Value} {Kont : Value → Shared → Prop} (hh : A.handled = none) (hl : s.heap.IsList ax items.toArray ∨ s.heap.IsTuple ax items.toArray)
    (h : ∀ I fp h₂ St, Keep s.heap h₂ → s.heap.get? I = none → s.heap.objs.size ≤ h₂.objs.size → Walks prog w A I fp [I] items.length (fun i v => items[i]? = some v) St → (∀ i h, St i h → ∃ o, h.get? I = some o) → St 0 h₂ → (∀ b ∈ fp, b < h₂.objs.size) → Kont (.ref I) { s with heap := h₂ }) :
    wpAny (model prog w) A (pyIter (.ref ax)) Kont E s := by
  have hnone : s.heap.get? s.heap.objs.size = none := by
    cases q : s.heap.get? s.heap.objs.size with
    | none => rfl
    | some o => exact absurd (Heap.lt_size q) (Nat.lt_irrefl _)
  rcases hl with hl | hl
  · obtain ⟨ol, hol, _⟩ := id hl
    have hlt : ax < s.heap.objs.size := Heap.lt_size hol
    refine wpAny_pyIter_list hl (h _ _ _ (fun i h => h.IsListIter s.heap.objs.size ax i ∧ h.IsList ax items.toArray) (fun b o e => Heap.get?_push_of_some _ e) hnone (by rw [Heap.size_push]; exact Nat.le_succ _) (by simpa using Walks.list hh s.heap.objs.size ax (Nat.ne_of_lt hlt) items.toArray) (fun i h st => ⟨_, st.1.choose_spec.1⟩) ⟨⟨_, Heap.get?_push_size _ rfl, rfl, rfl⟩, hl.at fun o e => Heap.get?_push_of_some _ e⟩ fun b hb => ?_)
    rw [Heap.size_push]
    simp only [List.mem_cons, List.not_mem_nil, or_false] at hb
    rcases hb with hb | hb
    · exact hb ▸ Nat.lt_succ_self _
    · exact hb ▸ Nat.lt_succ_of_lt hlt
  · obtain ⟨ol, hol, _⟩ := id hl
    have hlt : ax < s.heap.objs.size := Heap.lt_size hol
    refine wpAny_pyIter_tuple hl (h _ _ _ (fun i h => h.IsTupleIter s.heap.objs.size ax i ∧ h.IsTuple ax items.toArray) (fun b o e => Heap.get?_push_of_some _ e) hnone (by rw [Heap.size_push]; exact Nat.le_succ _) (by simpa using Walks.tuple hh s.heap.objs.size ax (Nat.ne_of_lt hlt) items.toArray) (fun i h st => ⟨_, st.1.choose_spec.1⟩) ⟨⟨_, Heap.get?_push_size _ rfl, rfl, rfl⟩, hl.at fun o e => Heap.get?_push_of_some _ e⟩ fun b hb => ?_)
    rw [Heap.size_push]
    simp only [List.mem_cons, List.not_mem_nil, or_false] at hb
    rcases hb with hb | hb
    · exact hb ▸ Nat.lt_succ_self _
    · exact hb ▸ Nat.lt_succ_of_lt hlt
theorem items_eq {items vs : List Value} (hlen : vs.length = items.length) (hP : ∀ (j : Nat) (v : Value), vs[j]? = some v → items[j]? = some v) : vs = items := by
  refine List.ext_getElem hlen fun j h1 h2 => ?_
  have := hP j vs[j] (List.getElem?_eq_getElem h1)
  rw [List.getElem?_eq_getElem h2] at this
  exact (Option.some.inj this).symm
/-- the assignment of a comprehension to a name of the frame -/
theorem Assign_comp {elt iter : Expr} {x y : Str} {px py : Pos} {ifs : List Expr} {scope : Scope} {cl : List (Str × Addr)} {pos spos : Pos} {env : Env} {Q : Flow → Shared → Prop}
    (hsw : swapsWith (.ListComp elt [⟨.Name x px, iter, ifs, 0⟩] scope pos) (some (.Name y py)) spos.line env = pure true)
    (hclos : closureFor scope env = pure cl) (hkind : scope.kind = .function) (hnames : ∀ z ∈ scope.names, z.2 = .local → scope.names.lookup z.1 = some .local)
    (h : wpAny (model prog w) A (eval iter env) (fun xv s₁ => wpAny (model prog w) A (pyIter xv) (fun it s₂ => wpAny (model prog w) A (newList []) (fun acc s₃ => wpAny (model prog w) A (newFunctionEnv scope env.globals cl [] env.qual none .none (some env)) (fun cenv s₄ =>
      codeAny (model prog w) A (.compStart (.ListComp elt [⟨.Name x px, iter, ifs, 0⟩] scope pos) 0 it acc { cenv with scope := relabel scope env }) (compPost (model prog w) A E (some (assign (.Name y py) env)) (fun _ s' => Q .next s') acc cenv.locals) s₄) E s₃) E s₂) E s₁) E s)
    (hs : ∀ x, foldedSetIterable iter env x = pure x) :
    wpAny (model prog w) A (exec (.Assign [.Name y py] (.ListComp elt [⟨.Name x px, iter, ifs, 0⟩] scope pos) spos) env) Q E s := by
  rw [exec_Assign_Name_used _ _ _ _ hsw]
  refine wpAny_bind (wpAny_standAt (wpAny_bind ?_))
  show wpAny _ A (do let _ ← comprehension (.ListComp elt [⟨.Name x px, iter, ifs, 0⟩] scope pos) scope env _ (newList []) false (eval iter env) (some (assign (.Name y py) env))) _ _ s
  exact wpAny_bind (wpAny_mono (wpAny_comprehension_free (use := some (assign (.Name y py) env)) (Q := fun _ s' => Q .next s') rfl hs hclos hkind hnames h) (fun _ s' hq => wpAny_pure (wpAny_pure hq)) fun _ _ e => e)
/-- lists of texts, each an object of the ledger -/
inductive LstsAre : List (Addr × Obj) → List Value → List (List Str) → Prop
  | nil : LstsAre [] [] []
  | cons {T : Addr} {o : Obj} {its : List Value} {n : Nat} {xs : List Str} {ls : List (Addr × Obj)} {vs : List Value} {xss : List (List Str)} :
      o.cls = .type "list" → o.data = .seq its.toArray n → StrsAre its xs → LstsAre ls vs xss → LstsAre ((T, o) :: ls) (.ref T :: vs) (xs :: xss)
theorem LstsAre.mem : ∀ {ls : List (Addr × Obj)} {vs : List Value} {xss : List (List Str)} {v : Value}, LstsAre ls vs xss → v ∈ vs →
    ∃ T o its n xs, v = .ref T ∧ (T, o) ∈ ls ∧ o.cls = .type "list" ∧ o.data = .seq (List.toArray its) n ∧ StrsAre its xs ∧ xs ∈ xss
  | _, _, _, _, .cons h1 h2 h3 r, h => by
    rcases List.mem_cons.mp h with rfl | h
    · exact ⟨_, _, _, _, _, rfl, .head _, h1, h2, h3, .head _⟩
    · obtain ⟨T, o, its, n, xs, e, a, b, c, d, f⟩ := r.mem h
      exact ⟨T, o, its, n, xs, e, .tail _ a, b, c, d, .tail _ f⟩
theorem LstsAre.len : ∀ {ls : List (Addr × Obj)} {vs : List Value} {xss : List (List Str)}, LstsAre ls vs xss → vs.length = xss.length
  | _, _, _, .nil => rfl
  | _, _, _, .cons _ _ _ r => congrArg (· + 1) r.len
/-- `y = [elt for x in src]` where each turn makes a list of texts -/
theorem assign_lists {elt iter : Expr} {x y : Str} {px py : Pos} {scope : Scope} {cl : List (Str × Addr)} {pos : Pos} {env : Env} {Q : Flow → Shared → Prop}
    {h₀ : Heap} {m : Str → Option Value} {news : List (Addr × Obj)} {ax : Addr} {items : List Value} {xss : List (List Str)} (f : Value → List Str → Prop)
    (hh : A.handled = none) (F : Fr h₀ env.locals s.heap m) (N : News h₀ env.locals s.heap news) (hl : s.heap.IsList ax items.toArray ∨ s.heap.IsTuple ax items.toArray) (hz : items.length ≤ 5000)
    (hcell : ∀ z ∈ scope.names, z.2 ≠ .cell) (hkind : scope.kind = .function) (hx : scope.names.lookup x = some .local)
    (hy : env.kindOf y = some .local) (hp : (env.scope.kind == .class || (env.scope.kind == .module && env.locals != env.globals)) = false)
    (helt : ∀ C v s₃ m₃ E', v ∈ items → Fr s.heap C s₃.heap m₃ → m₃ x = some v →
      wpAny (model prog w) A (eval elt (compEnvC scope cl C env)) (fun u s₄ => (∃ T its, u = .ref T ∧ s₃.heap.get? T = none ∧ s₄.heap.IsList T its ∧ ∃ xs, StrsAre its.toList xs ∧ f v xs) ∧ Keeps s₃ s₄) E' s₃)
    (hf : ∀ xss', Paired f items xss' → xss' = xss)
    (h : ∀ D ys n ls h' tk, Fr h₀ env.locals h' (fun z => if z = y then some (.ref D) else m z) → News h₀ env.locals h' ((D, { cls := .type "list", data := .seq (List.toArray ys) n }) :: (news ++ ls)) → LstsAre ls ys xss → Q .next { s with heap := h', toks := tk }) :
    wpAny (model prog w) A (pyIter (.ref ax)) (fun it s₂ => wpAny (model prog w) A (newList []) (fun acc s₃ => wpAny (model prog w) A (newFunctionEnv scope env.globals cl [] env.qual none .none (some env)) (fun cenv s₄ =>
      codeAny (model prog w) A (.compStart (.ListComp elt [⟨.Name x px, iter, [], 0⟩] scope pos) 0 it acc { cenv with scope := relabel scope env }) (compPost (model prog w) A E (some (assign (.Name y py) env)) (fun _ s' => Q .next s') acc cenv.locals) s₄) E s₃) E s₂) E s := by
  refine src_iter hh hl fun I fp h₂ St k hI hsz W hlive hst hfp => ?_
  have hkI : ∀ {b : Addr} {o : Obj}, s.heap.get? b = some o → b ∉ [I] := fun {b o} e hm => by rw [List.mem_singleton.mp hm, hI] at e; cases e
  refine comp_block_walkCO (RR := fun acc C => compPost (model prog w) A E (some (assign (.Name y py) env)) (fun _ s' => Q .next s') acc C) W (by rw [sizeLine_eq]; omega) (fun _ => true) (fun v its => ∃ xs, StrsAre its.toList xs ∧ f v xs)
    (fun i h st b hb => by rw [List.mem_singleton.mp hb]; exact hlive i h st) hcell hkind hx hst hfp ⟨fun _ _ _ _ _ _ _ _ _ _ _ _ => wpAny_pure ⟨rfl, _, _, rfl, fun _ _ e => e⟩, fun C i v s₃ m₃ E' hC hv _ hn hm hk _ => ?_⟩ ?_
  · exact helt C v s₃ m₃ E' (List.mem_of_getElem? hv) ⟨hn, fun b o e => hk b o (hkI e) (k b o e), Nat.le_trans hsz hC⟩ hm
  · intro D C h' tk m' ys vs hD hC hDC hnC hlD hplD hlen hP hF _ hk
    rw [items_eq hlen hP, List.filter_eq_self.mpr (fun _ _ => rfl)] at hF
    have kk : Keep s.heap h' := fun b o e => hk b o (hkI e) (k b o e)
    have n2 : ∀ {b : Addr}, h₂.get? b = none → s.heap.get? b = none := fun {b} hb => by
      cases q : s.heap.get? b with
      | none => rfl
      | some o => rw [k _ _ q] at hb; cases hb
    have n0 : ∀ {b : Addr}, s.heap.get? b = none → h₀.get? b = none := fun {b} hb => by
      cases q : h₀.get? b with
      | none => rfl
      | some o => rw [F.keep _ _ q] at hb; cases hb
    have nL : ∀ {b : Addr}, s.heap.get? b = none → b ≠ env.locals := fun {b} hb e => by
      obtain ⟨oL, _, _, hL, _⟩ := F.ns
      rw [e, hL] at hb; cases hb
    have F' := kk.fr F
    show wpAny _ A (assign (.Name y py) env (.ref D)) _ _ _
    refine wpAny_assign_Name (wpAny_storeName_local hy F'.ns (fun h₄ hn₄ hs₄ => ?_) hp)
    have hCL := nL (n2 hC)
    refine ⟨m', hnC.sameBut hs₄ hCL, fun h₅ hs₅ => ?_⟩
    have F₄ := F'.set hn₄ hs₄
    have F₅ : Fr h₀ env.locals h₅ (fun z => if z = y then some (.ref D) else m z) :=
      ⟨F₄.ns.sameBut hs₅ (Ne.symm hCL), fun b o e => hs₅.extBut b o (fun q => by rw [q, n0 (n2 hC)] at e; cases e) (F₄.keep b o e), F₄.above⟩
    have up : ∀ {b : Addr} {o : Obj}, b ≠ env.locals → b ≠ C → h'.get? b = some o → h₅.get? b = some o := fun {b o} h1 h2 e => hs₅.extBut b o h2 (hs₄.extBut b o h1 e)
    obtain ⟨n, hplD⟩ := hplD
    have key : ∀ {l : List Value} {zs : List Value}, Paired (LstAt h₂ C D [I] (fun v its => ∃ xs, StrsAre its.toList xs ∧ f v xs) h') l zs →
        ∃ ls xss', LstsAre ls zs xss' ∧ Paired f l xss' ∧ ∀ p ∈ ls, h₅.get? p.1 = some p.2 ∧ p.1 ≠ env.locals ∧ h₀.get? p.1 = none := by
      intro l zs hp
      induction hp with
      | nil => exact ⟨[], [], .nil, .nil, fun _ h => nomatch h⟩
      | cons hab _ ih =>
        obtain ⟨ls, xss', h1, h2, h3⟩ := ih
        obtain ⟨T, its, rfl, hT, hTC, _, _, ⟨o, ho, hc, n', hd⟩, xs, hS, hfx⟩ := hab
        have hTL := nL (n2 hT)
        refine ⟨(T, o) :: ls, xs :: xss', .cons hc (by rw [Array.toArray_toList]; exact hd) hS h1, .cons hfx h2, fun p hp => ?_⟩
        rcases List.mem_cons.mp hp with rfl | hp
        · exact ⟨up hTL hTC ho, hTL, n0 (n2 hT)⟩
        · exact h3 p hp
    obtain ⟨ls, xss', h1, h2, h3⟩ := key hF
    rw [hf _ h2] at h1
    refine h D ys.toList n ls h₅ _ F₅ (fun p hp => ?_) h1
    rcases List.mem_cons.mp hp with rfl | hp
    · exact ⟨by rw [Array.toArray_toList]; exact up (nL (n2 hD)) hDC hplD, nL (n2 hD), n0 (n2 hD)⟩
    rcases List.mem_append.mp hp with hp | hp
    · exact ⟨up (N p hp).2.1 (fun q => by have := (N p hp).1; rw [q, n2 hC] at this; cases this) (kk _ _ (N p hp).1), (N p hp).2⟩
    · exact h3 p hp
end
local macro_rules | `(tactic| walk_at "exec Assign cons ListComp") => `(tactic| (with_reducible refine Stop.mk ?_))

theorem off_L4 : True := by
  w_top off
  exact True.intro
section
variable {prog : Program} {w : World} {A : Around} {E : Value → Shared → Prop} {s : Shared} {x y : Str} {t u : Tok} {Q : Value → Shared → Prop}
/-- split, told by what stays: no frame is asked -/
theorem split_raw (hy : 1 ≤ y.length) (hx : x.length ≤ 4000)
    (h : ∀ D vs h' k, Keep s.heap h' → s.heap.get? D = none → h'.IsList D (List.toArray vs) → StrsAre vs (Txt.split x y) → Q (.ref D) { s with heap := h', toks := k }) :
    wpAny (model prog w) A (call (.builtin "str.split") [.str x t, .str y u]) Q E s := by
  have hy0 : (y.length == 0) = false := by simp; omega
  have hnone : s.heap.get? s.heap.objs.size = none := by
    cases q : s.heap.get? s.heap.objs.size with
    | none => rfl
    | some o => exact absurd (Heap.lt_size q) (Nat.lt_irrefl _)
  have fin : ∀ (l : List (Str × Tok)) (k : Nat), l.map (·.1) = Txt.split x y → Q (.ref s.heap.objs.size) { s with heap := s.heap.push { cls := .type "list", data := .seq (strValues l).toArray }, toks := k } := fun l k e =>
    h _ (strValues l) _ k (fun _ _ q => Heap.get?_push_of_some _ q) hnone ⟨_, Heap.get?_push_size _ rfl, rfl, _, rfl⟩ (e ▸ strsAre_of_values l)
  have hn : (Builtin.Str.partsBetween x (Builtin.Str.occurrences x y 0 x.length (x.length + 1)) y.length).length ≤ sizeLine := by
    have e1 := StrLaws.occ_length_le x y 0 x.length (x.length + 1)
    rw [length_partsBetween, sizeLine_eq]; omega
  cases h1 : (decide (x.length < y.length) || decide (Builtin.Str.strKind x < Builtin.Str.strKind y))
  · cases hf : (Builtin.Str.occurrences x y 0 x.length (x.length + 1)).isEmpty
    · refine call_meets PySem.F.slot_str_split (typeIs_str _ _ _) PySem.F.entry_str_split (PySem.F.args_str_split_2 _ _) (meets_str_split_sep x y t u h1 hy0 hf (by rw [sizeLine_eq]; omega) hn) ?_
      have q := fin (numbered s.toks _) (s.toks + (Builtin.Str.partsBetween x (Builtin.Str.occurrences x y 0 x.length (x.length + 1)) y.length).length) ((numbered_texts _ _).trans ((if_neg (ne_true_of_eq_false h1)).trans (if_neg (ne_true_of_eq_false hf))).symm)
      rw [← strsFrom_eq] at q
      exact q
    · exact call_meets PySem.F.slot_str_split (typeIs_str _ _ _) PySem.F.entry_str_split (PySem.F.args_str_split_2 _ _) (meets_str_split_not_found x y t u h1 hy0 hf) (fin [(x, t)] s.toks ((if_neg (ne_true_of_eq_false h1)).trans (if_pos hf)).symm)
  · exact call_meets PySem.F.slot_str_split (typeIs_str _ _ _) PySem.F.entry_str_split (PySem.F.args_str_split_2 _ _) (meets_str_split_cannot_occur x y t u h1) (fin [(x, t)] s.toks (if_pos h1).symm)
/-- a free name of a comprehension -/
theorem name_cell {env : Env} {n : Str} {pos : Pos} {c : Addr} {o : Obj} {v : Value} {Q : Value → Shared → Prop} (hg : s.heap.get? c = some o) (hd : o.data = .cell (some v)) (h : Q v s) (hc : env.cells.lookup n = some c)
    (hk : env.scope.kind = .function) (hx : env.kindOf n = some .cell) (hb : (n == ("__debug__" : Str)) = false) : wpAny (model prog w) A (eval (.Name n pos) env) Q E s :=
  wpAny_Name (wpAny_loadName_cell hk hx hc ⟨o, hg, hd⟩ h) hb
end
theorem truthy_K {prog : Program} {w : World} {A : Around} {E : Value → Shared → Prop} {s : Shared} {h₀ : Heap} {L D : Addr} {news : List (Addr × Obj)} {v : Value} {vs : List Value} {Q : Bool → Shared → Prop}
    (N : News h₀ L s.heap news) (hm : (D, ({ cls := .type "tuple", data := .seq (List.toArray (v :: vs)) } : Obj)) ∈ news) (hz : (v :: vs).length ≤ 1000) (h : Q true { s with toks := s.toks + 1 + 1 }) : wpAny (model prog w) A (truthy (.ref D)) Q E s :=
  ktl_truthy (N _ hm).1 (by rw [List.size_toArray]; omega) h
local macro_rules | `(tactic| walk_at "truthy ref") => `(tactic| (k_here; k_dflt (refine' truthy_K ?N ?m ?z ?_; (case N => k_asm); (case m => k_mem); (case z => assumption))))
theorem item0_K {prog : Program} {w : World} {A : Around} {E : Value → Shared → Prop} {s : Shared} {h₀ : Heap} {L D : Addr} {news : List (Addr × Obj)} {v : Value} {vs : List Value} {value slice : PySem.Expr} {u : Tok} {Q : Value → Shared → Prop}
    (N : News h₀ L s.heap news) (hm : (D, ({ cls := .type "tuple", data := .seq (List.toArray (v :: vs)) } : Obj)) ∈ news) (h : Q v s)
    (hs : subscripted slice false (.ref D) (.int 0 u) = operate [.ref D, .int 0 u] (getItem (.ref D) (.int 0 u))) : wpAny (model prog w) A (subscriptTail value slice (.ref D) (.int 0 u)) Q E s :=
  item_tupleT (l := v :: vs) (j := 0) ⟨_, (N _ hm).1, rfl, _, rfl⟩ (by decide) (by decide) (by simp [seqIndex?]) rfl h hs
local macro_rules | `(tactic| walk_at "subscriptTail") => `(tactic| (k_here; (with_reducible show wpAny _ _ (subscriptTail _ _ (Value.ref _) (Value.int 0 _)) _ _ _); k_dflt (refine' item0_K ?N ?m ?_ ?s; (case N => k_asm); (case m => k_mem); (case s => with_unfolding_all rfl))))
local macro_rules | `(tactic| walk_at "eval Name") => `(tactic| ((with_reducible show wpAny _ _ (eval (Expr.Name (PySem.Str.ofString "sep") _) (compEnvC _ _ _ _)) _ _ _); refine Stop.mk ?_))
local macro_rules | `(tactic| walk_at "eval Name") => `(tactic| ((with_reducible show wpAny _ _ (eval (Expr.Name (PySem.Str.ofString "curdir") _) (compEnvC _ _ _ _)) _ _ _); refine Stop.mk ?_))

theorem off_S1 : True := by
  w_top off
  exact True.intro
theorem entry_set_add : entryFor table "set.add" = some Builtin.«set.add» := entryFor_of_tree (by kernel_rfl)
def set0 (b : Bool) : Obj := { cls := .type "set", data := .set #[] 0 (.fresh 0 0 (!b)) }
def tab1 (b : Bool) : SetTable := { mask := 7, place := #[1], dummies := #[], finger := 0, led := !b, moves := 0, plain := true }
def set1 (b : Bool) : Obj := { cls := .type "set", data := .set #[(1, .bool true)] 1 (tab1 b) }
theorem lay1 (b : Bool) : layNew (.fresh 0 0 (!b)) #[] 1 (.bool true) = (#[(1, .bool true)], tab1 b, false, false) := by cases b <;> decide +kernel
theorem scan0 : byScan (.bool true) #[] = true := by decide +kernel
theorem scan1 : byScan (.bool true) #[(1, .bool true)] = true := by decide +kernel
section
variable {prog : Program} {w : World} {A : Around} {E : Value → Shared → Prop} {s : Shared}
theorem args_hash_b (a : Value) : argsOk "int.__hash__" ⟨[a], []⟩ := by unfold argsOk; kernel_rfl
theorem pyHash_true {Q : Int → Shared → Prop} (h : ∀ tk, Q 1 { s with toks := tk }) : wpAny (model prog w) A (pyHash (.bool true)) Q E s := by
  unfold pyHash
  refine wpAny_bind (wpAny_cRoomFor_byValue rfl ?_)
  refine wpAny_bind (wpAny_specialOf (T := "bool") rfl PySem.F.slot_bool_hash.lookup ?_)
  rw [if_neg (by rw [beq_builtin_none]; exact Bool.false_ne_true)]
  refine wpAny_bind (wpAny_specialOf (T := "bool") rfl PySem.F.slot_bool_hash.lookup ?_)
  refine wpAny_bind (wpAny_callSpecialIfBoundUnlessNone?_slot (T := "bool") rfl PySem.F.slot_bool_hash (wpAny_call_entry PySem.F.slot_bool_hash rfl entry_int_hash ?_ (args_hash_b _)))
  repeat (any_goals (first | assumption | wp_step))
  refine ⟨.int 1 s.toks, rfl, ?_⟩
  show wpAny _ _ (pyHashByItsType.reduced 1) _ _ _
  repeat (any_goals (first | assumption | wp_step))
  all_goals exact h _
theorem set_add0 {D : Addr} {b : Bool} {Q : Fin → Shared → Prop} (hb : w.params.followText "set-order" = b) (hD : s.heap.get? D = some (set0 b)) (h : ∀ h' tk, Heap.SameBut D s.heap h' → h'.get? D = some (set1 b) → Q (.done (.ret .none)) { s with heap := h', toks := tk }) :
    wpAny (model prog w) A (Builtin.«set.add» ⟨[.ref D, .bool true], []⟩) Q E s := by
  repeat (any_goals (first | assumption | with_reducible refine wpAny_askSetting ?_ | (with_reducible refine pyHash_true ?_; intro tk) | rw [if_pos scan0] | (rw [lay1]; dsimp only) | wp_step))
  exact h _ _ (Heap.SameBut.update ..) (Heap.get?_update_self _ hD rfl)
theorem set_add1 {D : Addr} {b : Bool} {Q : Fin → Shared → Prop} (hD : s.heap.get? D = some (set1 b)) (h : ∀ tk, Q (.done (.ret .none)) { s with toks := tk }) :
    wpAny (model prog w) A (Builtin.«set.add» ⟨[.ref D, .bool true], []⟩) Q E s := by
  repeat (any_goals (first | assumption | with_reducible refine wpAny_askSetting ?_ | (with_reducible refine pyHash_true ?_; intro tk) | rw [if_pos scan1] | wp_step))
  exact h _
theorem call_add0 {D : Addr} {b : Bool} {Q : Value → Shared → Prop} (hb : w.params.followText "set-order" = b) (hD : s.heap.get? D = some (set0 b)) (h : ∀ h' tk, Heap.SameBut D s.heap h' → h'.get? D = some (set1 b) → Q .none { s with heap := h', toks := tk }) :
    wpAny (model prog w) A (call (.builtin "set.add") [.ref D, .bool true]) Q E s :=
  wpAny_call_entry PySem.F.slot_set_add ⟨_, hD, rfl⟩ PySem.F.entry_set_add (set_add0 hb hD fun h' tk a c => ⟨_, rfl, h h' tk a c⟩) (PySem.F.args_set_add_2 _ _)
theorem call_add1 {D : Addr} {b : Bool} {Q : Value → Shared → Prop} (hD : s.heap.get? D = some (set1 b)) (h : ∀ tk, Q .none { s with toks := tk }) :
    wpAny (model prog w) A (call (.builtin "set.add") [.ref D, .bool true]) Q E s :=
  wpAny_call_entry PySem.F.slot_set_add ⟨_, hD, rfl⟩ PySem.F.entry_set_add (set_add1 hD fun tk => ⟨_, rfl, h tk⟩) (PySem.F.args_set_add_2 _ _)
end

theorem off_S2 : True := by
  w_top off
  exact True.intro
theorem setTurn_eq (elt target iter : Expr) (scope : Scope) (pos : Pos) (it acc : Value) (env : Env) :
    compTurn (.SetComp elt [⟨target, iter, [], 0⟩] scope pos) 0 it acc env = (standAt iter.pos >>= fun _ => pyNext it >>= fun r => match r with
      | none => pure (.done .next)
      | some v => letOwnedTupleGo target it v >>= fun _ => assign target env v >>= fun _ =>
        (eval elt env >>= fun u => standAt elt.pos >>= fun _ => call (.builtin "set.add") [acc, u] >>= fun _ => pure ()) >>= fun _ =>
          again (.compLoop (.SetComp elt [⟨target, iter, [], 0⟩] scope pos) 0 it acc env)) := by rfl
section
variable {prog : Program} {w : World} {A : Around} {E : Value → Shared → Prop} {s : Shared} {R : Result → Shared → Prop}
theorem setLoop {elt iter : Expr} {x : Str} {px : Pos} {scope : Scope} {pos : Pos} {it acc : Value} {env : Env} (I : Nat → Shared → Prop)
    (turn : ∀ n s, I n s → wpAny (model prog w) A (pyNext it) (fun r s₁ => match r with
      | none => R (.ok .next) s₁
      | some v => wpAny (model prog w) A (assign (.Name x px) env v) (fun _ s₂ => wpAny (model prog w) A (eval elt env) (fun u s₃ => wpAny (model prog w) A (call (.builtin "set.add") [acc, u]) (fun _ s₄ => ∃ m, m < n ∧ I m s₄) (fun _ _ => False) s₃) (fun _ _ => False) s₂) (fun _ _ => False) s₁) (fun _ _ => False) s)
    (n : Nat) (h : I n s) (ht : ∀ v, letOwnedTupleGo (.Name x px) it v = pure () := by intro _; rfl) :
    codeAny (model prog w) A (.compLoop (.SetComp elt [⟨.Name x px, iter, [], 0⟩] scope pos) 0 it acc env) R s := by
  refine codeAny_loop rfl I (fun n s hI => ?_) n h
  show wpAny _ A ((compTurn (.SetComp elt [⟨.Name x px, iter, [], 0⟩] scope pos) 0 it acc env).onRaise (fun x => do noteFrame x env; theTreesLotGoes x)) _ _ s
  refine wpAny_onRaise (wpAny_mono (E := fun _ _ => False) ?_ (fun _ _ x => x) fun _ _ x => x.elim)
  rw [setTurn_eq]
  refine wpAny_bind (wpAny_standAt (wpAny_bind (wpAny_mono (turn n s hI) (fun r s₁ h₁ => ?_) fun _ _ h' => h')))
  cases r with
  | none => exact wpAny_pure h₁
  | some v =>
    refine wpAny_bind (wpAny_of_eq (ht v) (wpAny_bind (wpAny_mono h₁ (fun _ s₂ h₂ => wpAny_bind (wpAny_bind (wpAny_mono h₂ (fun u s₃ h₃ => wpAny_bind (wpAny_standAt (wpAny_bind (wpAny_mono h₃ (fun _ s₄ h₄ => wpAny_pure (wpAny_pure ⟨rfl, h₄⟩)) fun _ _ x => x)))) fun _ _ x => x))) fun _ _ x => x)))
theorem setStart {elt target iter : Expr} {scope : Scope} {pos : Pos} {it acc : Value} {env : Env}
    (h0 : codeAny (model prog w) A (.compLoop (.SetComp elt [⟨target, iter, [], 0⟩] scope pos) 0 it acc env) R s)
    (h : wpAny (model prog w) A (pyIter it) (fun it' s' => codeAny (model prog w) A (.compLoop (.SetComp elt [⟨target, iter, [], 0⟩] scope pos) 0 it' acc env) R s') (fun _ _ => False) s) :
    codeAny (model prog w) A (.compStart (.SetComp elt [⟨target, iter, [], 0⟩] scope pos) 0 it acc env) R s := by
  refine codeAny_of_tree ?_
  show wpAny _ A ((compStart (.SetComp elt [⟨target, iter, [], 0⟩] scope pos) 0 it acc env).onRaise (fun x => do noteFrame x env; standAt theWindowsPlace)) _ _ s
  refine wpAny_onRaise (wpAny_mono (E := fun _ _ => False) ?_ (fun _ _ x => x) fun _ _ x => x.elim)
  unfold compStart
  repeat (any_goals (first | assumption | with_reducible refine wpAny_askSetting ?_ | wp_step))
  split
  · exact wpAny_pure (show _ ∧ _ from ⟨rfl, h0⟩)
  · refine wpAny_bind (wpAny_rule (wpAny_bind (wpAny_standAt (wpAny_bind (wpAny_mono h (fun it' s' h' => ?_) fun _ _ x => x)))))
    exact wpAny_pure (show _ ∧ _ from ⟨rfl, h'⟩)
end

theorem off_S3 : True := by
  w_top off
  exact True.intro
section
variable {prog : Program} {w : World} {A : Around} {E : Value → Shared → Prop} {s : Shared}
theorem newSet0 {Q : Value → Shared → Prop} {b : Bool} (hb : w.params.followText "set-order" = b) (h : Q (.ref s.heap.objs.size) { s with heap := s.heap.push (set0 b) }) :
    wpAny (model prog w) A (newSet (.type "set")) Q E s := by
  unfold newSet setsByText
  refine wpAny_bind (wpAny_bind (wpAny_askSetting (wpAny_pure ?_)))
  dsimp only
  simp only [newObj]
  subst hb
  exact wpAny_bind (wpAny_alloc (wpAny_pure h))
theorem size_none (h : Heap) {a : Addr} (ha : h.objs.size ≤ a) : h.get? a = none := by
  cases e : h.get? a with
  | none => rfl
  | some o' => exact absurd (Heap.lt_size e) (Nat.not_lt.mpr ha)
/-- a set comprehension each of whose elements is True -/
theorem set_true {env : Env} {Q : Value → Shared → Prop} {b : Bool} {elt iter : Expr} {x : Str} {px : Pos} {scope : Scope} {cl : List (Str × Addr)} {pos : Pos} {ax : Addr} {items : List Value}
    (hb : w.params.followText "set-order" = b) (hh : A.handled = none) (hl : s.heap.IsList ax items.toArray ∨ s.heap.IsTuple ax items.toArray) (hne : 0 < items.length)
    (hcell : ∀ z ∈ scope.names, z.2 ≠ .cell) (hkind : scope.kind = .function) (hx : scope.names.lookup x = some .local)
    (helt : ∀ C v s₃ m₃ E', v ∈ items → Fr s.heap C s₃.heap m₃ → m₃ x = some v → wpAny (model prog w) A (eval elt (compEnvC scope cl C env)) (fun u s₄ => u = .bool true ∧ Keeps s₃ s₄) E' s₃)
    (h : ∀ D h' tk, Keep s.heap h' → s.heap.get? D = none → h'.get? D = some (set1 b) → Q (.ref D) { s with heap := h', toks := tk }) :
    wpAny (model prog w) A (pyIter (.ref ax)) (fun it s₂ => wpAny (model prog w) A (newSet (.type "set")) (fun acc s₃ => wpAny (model prog w) A (newFunctionEnv scope env.globals cl [] env.qual none .none (some env)) (fun cenv s₄ =>
      codeAny (model prog w) A (.compStart (.SetComp elt [⟨.Name x px, iter, [], 0⟩] scope pos) 0 it acc { cenv with scope := relabel scope env }) (compPost (model prog w) A E none Q acc cenv.locals) s₄) E s₃) E s₂) E s := by
  refine src_iter hh hl fun I fp h₂ St k hI hsz W hlive hst hfp => ?_
  refine newSet0 hb (wpAny_newFunctionEnv hcell (by intro y hy; simp at hy) (fun h₁ hns₁ hsb₁ => ?_) hkind)
  dsimp only at hns₁ hsb₁ ⊢
  generalize hH2 : h₂.push (set0 b) = H2 at hns₁ hsb₁ ⊢
  have hC : H2.objs.size = h₂.objs.size + 1 := by rw [← hH2, Heap.size_push]
  have hDC : h₂.objs.size ≠ H2.objs.size := by omega
  have below : ∀ c, c < h₂.objs.size → c ≠ H2.objs.size ∧ c ≠ h₂.objs.size := fun c hc => ⟨by omega, by omega⟩
  have hDf : h₂.objs.size ∉ fp := fun hm => Nat.lt_irrefl _ (hfp _ hm)
  have hCf : H2.objs.size ∉ fp := fun hm => by have := hfp _ hm; rw [hC] at this; exact Nat.lt_irrefl _ (Nat.lt_of_succ_lt this)
  have hIf : I ∈ fp := W.sub _ (.head _)
  have old : ∀ c o, h₂.get? c = some o → h₁.get? c = some o := fun c o e => hsb₁.extBut c o (below c (Heap.lt_size e)).1 (Heap.get?_push_of_some _ (hH2 ▸ Heap.get?_push_of_some _ e))
  have hD₁ : h₁.get? h₂.objs.size = some (set0 b) := hsb₁.extBut _ _ hDC (Heap.get?_push_of_some _ (hH2 ▸ Heap.get?_push_size _ rfl))
  have hst₁ : St 0 h₁ := W.frame _ _ _ hst fun c _ o e => old c o e
  have sI : ∀ {c : Addr} {o : Obj}, s.heap.get? c = some o → c ≠ I := fun {c o} e q => by rw [q, hI] at e; cases e
  have sC : ∀ {c : Addr} {o : Obj}, s.heap.get? c = some o → c ≠ H2.objs.size ∧ c ≠ h₂.objs.size := fun {c o} e => below c (Heap.lt_size (k _ _ e))
  have hsC : s.heap.objs.size ≤ H2.objs.size := by omega
  have loop : ∀ s₃ : Shared, s₃ = { s with heap := h₁, toks := s.toks + ([] : List (Str × Value)).length } →
      codeAny (model prog w) A (.compLoop (.SetComp elt [⟨.Name x px, iter, [], 0⟩] scope pos) 0 (.ref I) (.ref h₂.objs.size) (compEnvC scope cl H2.objs.size env))
        (compPost (model prog w) A E none Q (.ref h₂.objs.size) H2.objs.size) s₃ := by
    rintro s₃ rfl
    refine setLoop (fun n s' => ∃ H tk m' j, s' = { s with heap := H, toks := tk } ∧ St j H ∧ H.Ns H2.objs.size m' ∧ H.get? h₂.objs.size = some (if j = 0 then set0 b else set1 b) ∧ j ≤ items.length ∧ n = items.length - j ∧
      Keep s.heap H) ?_ items.length ⟨h₁, _, _, 0, rfl, hst₁, hns₁, hD₁, Nat.zero_le _, rfl, fun c o e => old c o (k c o e)⟩
    rintro n s' ⟨H, tk, m', j, rfl, hstj, hn, hD, hj, rfl, kk⟩
    by_cases hlt : j < items.length
    · refine W.item j _ _ _ hlt hstj fun v h₃ tk₃ hv hst₃ hk₃ => ?_
      have hk₃' : ∀ c o, c ≠ I → H.get? c = some o → h₃.get? c = some o := fun c o hc e => hk₃ c o (fun q => hc (List.mem_singleton.mp q)) e
      have hCI : H2.objs.size ≠ I := fun q => hCf (q ▸ hIf)
      have hDI : h₂.objs.size ≠ I := fun q => hDf (q ▸ hIf)
      refine wpAny_assign_Name (wpAny_storeName_local (lookup_relabel_local hx) (hn.at' fun o e => hk₃' _ o hCI e) (fun h₄ hn₄ hs₄ => ?_) (by simp [compEnvC, relabel, hkind]))
      have F : Fr s.heap H2.objs.size h₄ (fun z => if z = x then some v else m' z) := ⟨hn₄, fun c o e => hs₄.extBut c o (sC e).1 (hk₃' c o (sI e) (kk c o e)), hsC⟩
      refine wpAny_mono (helt H2.objs.size v _ _ _ (List.mem_of_getElem? hv) F (by simp)) (fun u s₅ h₅ => ?_) fun _ _ e => e
      obtain ⟨rfl, h₅, tk₅, rfl, hk₅⟩ := h₅
      have hD₅ : h₅.get? h₂.objs.size = some (if j = 0 then set0 b else set1 b) := hk₅ _ _ (hs₄.extBut _ _ hDC (hk₃' _ _ hDI hD))
      have hst₅ : St (j + 1) h₅ := W.frame _ _ _ hst₃ fun c hc o e => hk₅ c o (hs₄.extBut c o (fun q : c = H2.objs.size => hCf (q ▸ hc)) e)
      by_cases h0 : j = 0
      · rw [if_pos h0] at hD₅
        refine call_add0 hb hD₅ fun h₆ tk₆ hs₆ hD₆ => ⟨items.length - (j + 1), by omega, h₆, tk₆, _, j + 1, rfl, ?_, (hn₄.keeps hk₅).sameBut hs₆ (Ne.symm hDC), ?_, hlt, rfl, ?_⟩
        · exact W.frame _ _ _ hst₅ fun c hc o e => hs₆.extBut c o (fun q => hDf (q ▸ hc)) e
        · rw [if_neg (Nat.succ_ne_zero j)]; exact hD₆
        · exact fun c o e => hs₆.extBut c o (sC e).2 (hk₅ _ _ (F.keep c o e))
      · rw [if_neg h0] at hD₅
        refine call_add1 hD₅ fun tk₆ => ⟨items.length - (j + 1), by omega, h₅, tk₆, _, j + 1, rfl, hst₅, hn₄.keeps hk₅, ?_, hlt, rfl, ?_⟩
        · rw [if_neg (Nat.succ_ne_zero j)]; exact hD₅
        · exact fun c o e => hk₅ _ _ (F.keep c o e)
    · have hjn : j = items.length := by omega
      refine W.done _ _ _ (hjn ▸ hstj) fun h₃ tk₃ hk₃ => ?_
      have hk₃' : ∀ c o, c ≠ I → H.get? c = some o → h₃.get? c = some o := fun c o hc e => hk₃ c o (fun q => hc (List.mem_singleton.mp q)) e
      have hCI : H2.objs.size ≠ I := fun q => hCf (q ▸ hIf)
      have hDI : h₂.objs.size ≠ I := fun q => hDf (q ▸ hIf)
      refine ⟨m', hn.at' fun o e => hk₃' _ o hCI e, fun h₄ hs₄ => ?_⟩
      rw [if_neg (by omega : ¬ j = 0)] at hD
      exact h _ h₄ _ (fun c o e => hs₄.extBut c o (sC e).1 (hk₃' c o (sI e) (kk c o e))) (size_none _ (by omega)) (hs₄.extBut _ _ hDC (hk₃' _ _ hDI hD))
  exact setStart (loop _ rfl) (W.self 0 _ _ _ hst₁ (loop _ rfl))
theorem SetComp_open {env : Env} {Q : Value → Shared → Prop} {elt iter : Expr} {x : Str} {px : Pos} {scope : Scope} {cl : List (Str × Addr)} {pos : Pos}
    (hclos : closureFor scope env = pure cl) (hkind : scope.kind = .function) (hnames : ∀ z ∈ scope.names, z.2 = .local → scope.names.lookup z.1 = some .local)
    (h : wpAny (model prog w) A (eval iter env) (fun xv s₁ => wpAny (model prog w) A (pyIter xv) (fun it s₂ => wpAny (model prog w) A (newSet (.type "set")) (fun acc s₃ => wpAny (model prog w) A (newFunctionEnv scope env.globals cl [] env.qual none .none (some env)) (fun cenv s₄ =>
      codeAny (model prog w) A (.compStart (.SetComp elt [⟨.Name x px, iter, [], 0⟩] scope pos) 0 it acc { cenv with scope := relabel scope env }) (compPost (model prog w) A E none Q acc cenv.locals) s₄) E s₃) E s₂) E s₁) E s)
    (hs : ∀ x, foldedSetIterable iter env x = pure x) :
    wpAny (model prog w) A (eval (.SetComp elt [⟨.Name x px, iter, [], 0⟩] scope pos) env) Q E s := by
  rw [arm_eval_SetComp]
  exact wpAny_comprehension_free (use := none) rfl hs hclos hkind hnames h
end
local macro_rules | `(tactic| walk_at "eval SetComp") => `(tactic| (with_reducible refine Stop.mk ?_))
local macro_rules | `(tactic| walk_at "unpackItems ref") => `(tactic| (with_reducible refine Stop.mk ?_))

theorem off_S4 : True := by
  w_top off
  exact True.intro
theorem entry_set_iter : entryFor table "set.__iter__" = some Builtin.«frozenset.__iter__» :=
  entryFor_alias (id' := "frozenset.__iter__") (by kernel_rfl) (by first | rfl | decide +kernel) (by decide +kernel) (by kernel_rfl)
theorem slot_setit_next : Slot "set_iterator" "__next__" "set_iterator.__next__" :=
  .of (owner := "set_iterator") (n := "__next__") (by rw [typeLookup_type, builtinLookup_eq_fast]; kernel_rfl) (by decide +kernel) (by decide +kernel) (by decide +kernel)
    (by first | exact .inl (by decide +kernel) | exact .inr (by decide +kernel)) (by rw [isSubtype_type]; kernel_rfl)
theorem entry_setit_next : entryFor table "set_iterator.__next__" = some Builtin.«set_iterator.__next__» := entryFor_of_tree (by kernel_rfl)
theorem args_setit_next (a : Value) : argsOk "set_iterator.__next__" ⟨[a], []⟩ := by unfold argsOk; kernel_rfl
def setIt (D : Addr) (slot given : Nat) : Obj := { cls := .type "set_iterator", data := .fields #[.int slot 0, .int given 0, .ref D, .int 1 0, .int 1 0] }
theorem pick1 (f : Nat → Nat) : pickOrder f #[((1 : Int), Value.bool true)] = #[(1, .bool true)] := by
  unfold pickOrder
  simp [pickOrder.go, Nat.mod_one]
theorem and_no {x y : Bool} (hy : y = false) : ¬ ((x && y) = true) := by subst hy; simp
theorem ite_yes {α : Type} {M : Model} {A : Around} {s : Shared} {Q : α → Shared → Prop} {E : Value → Shared → Prop} {c : Prop} [Decidable c] {t e : Sem α} (hc : c) (h : wpAny M A t Q E s) : wpAny M A (if c then t else e) Q E s := by rw [if_pos hc]; exact h
theorem ite_no {α : Type} {M : Model} {A : Around} {s : Shared} {Q : α → Shared → Prop} {E : Value → Shared → Prop} {c : Prop} [Decidable c] {t e : Sem α} (hc : ¬ c) (h : wpAny M A e Q E s) : wpAny M A (if c then t else e) Q E s := by rw [if_neg hc]; exact h
section
variable {prog : Program} {w : World} {A : Around} {E : Value → Shared → Prop} {s : Shared}
theorem iter_set1 {D : Addr} {b : Bool} {Q : Value → Shared → Prop} (hD : s.heap.get? D = some (set1 b))
    (h : Q (.ref s.heap.objs.size) { s with heap := s.heap.push (setIt D 0 0) }) :
    wpAny (model prog w) A (pyIter (.ref D)) Q E s := by
  have hT : s.TypeIs (.ref D) "set" := ⟨_, hD, rfl⟩
  refine wpAny_pyIter_slot hT PySem.F.slot_set_iter (wpAny_call_entry PySem.F.slot_set_iter hT entry_set_iter ?_ (PySem.F.args_set_iter_1 _))
  repeat (any_goals (first | assumption | with_reducible refine wpAny_askSetting ?_ | (rw [if_neg (and_no ?_)]; (any_goals (with_unfolding_all rfl))) | wp_step))
  all_goals exact ⟨_, rfl, "set_iterator", _, ⟨_, Heap.get?_push_size _ rfl, rfl⟩, slot_setit_next.lookup, h⟩
theorem next_set1 {I D : Addr} {b : Bool} {Q : Option Value → Shared → Prop} (hb : w.params.followText "set-order" = b) (hI : s.heap.get? I = some (setIt D 0 0)) (hD : s.heap.get? D = some (set1 b))
    (h : ∀ h' n tk, Heap.SameBut I s.heap h' → h'.get? I = some (setIt D n 1) → (b = false → n = 2) → Q (some (.bool true)) { s with heap := h', toks := tk }) :
    wpAny (model prog w) A (pyNext (.ref I)) Q E s := by
  have hT : s.TypeIs (.ref I) "set_iterator" := ⟨_, hI, rfl⟩
  unfold pyNext
  refine wpAny_bind (wpAny_attempt (wpAny_callSpecial?_slot (name := Str.ofString "__next__") hT slot_setit_next (wpAny_call_entry slot_setit_next hT entry_setit_next ?_ (args_setit_next _))))
  repeat (any_goals (first | assumption | with_reducible refine wpAny_askSetting ?_ | wp_step))
  cases b
  · have hn : ¬ (w.params.followText "set-order" = true) := by rw [hb]; exact Bool.false_ne_true
    repeat (any_goals (first | assumption | with_reducible refine wpAny_askSetting ?_ | wp_step | (refine ite_no ?hc ?_; (case hc => exact hn))))
    exact ⟨_, rfl, wpAny_pure (h _ _ _ ((Heap.SameBut.update ..).trans (Heap.SameBut.update ..)) (Heap.get?_update_self _ (Heap.get?_update_self _ hI rfl) rfl) (by intro e; first | rfl | cases e))⟩
  · repeat (any_goals (first | assumption | with_reducible refine wpAny_askSetting ?_ | rw [pick1] | wp_step | (refine ite_yes ?hc ?_; (case hc => exact hb))))
    exact ⟨_, rfl, wpAny_pure (h _ _ _ ((Heap.SameBut.update ..).trans (Heap.SameBut.update ..)) (Heap.get?_update_self _ (Heap.get?_update_self _ hI rfl) rfl) (by intro e; first | rfl | cases e))⟩
theorem end_set1 {I D : Addr} {b : Bool} {n : Nat} {Q : Option Value → Shared → Prop} (hb : w.params.followText "set-order" = b) (hh : A.handled = none) (hI : s.heap.get? I = some (setIt D n 1)) (hD : s.heap.get? D = some (set1 b))
    (hn2 : b = false → n = 2) (h : ∀ h' tk, (∀ c o, c ≠ I → s.heap.get? c = some o → h'.get? c = some o) → Q none { s with heap := h', toks := tk }) :
    wpAny (model prog w) A (pyNext (.ref I)) Q E s := by
  have hT : s.TypeIs (.ref I) "set_iterator" := ⟨_, hI, rfl⟩
  unfold pyNext
  refine wpAny_bind (wpAny_attempt (wpAny_callSpecial?_slot (name := Str.ofString "__next__") hT slot_setit_next (wpAny_call_entry slot_setit_next hT entry_setit_next ?_ (args_setit_next _))))
  repeat (any_goals (first | assumption | with_reducible refine wpAny_askSetting ?_ | wp_step))
  cases b
  · obtain rfl := hn2 rfl
    have hn : ¬ (w.params.followText "set-order" = true) := by rw [hb]; exact Bool.false_ne_true
    repeat (any_goals (first | assumption | with_reducible refine wpAny_askSetting ?_ | ((with_reducible show wpAny _ _ (raiseNew _) _ _ _); refine Stop.mk ?_) | wp_step | (refine ite_no ?hc ?_; (case hc => exact hn))))
    refine Stop.out (wpAny_raiseNew_none (show A.in1.handled = none from hh) (wpAny_bind (wpAny_isInstance (T := "StopIteration") (b := true) ⟨_, Heap.get?_push_size _ rfl, rfl⟩ isSubtype_stop (wpAny_pure (h _ _ fun c o hc e => Heap.get?_push_of_some _ (Heap.get?_push_of_some _ ((Heap.SameBut.update ..).extBut c o hc e)))))))
  · repeat (any_goals (first | assumption | with_reducible refine wpAny_askSetting ?_ | ((with_reducible show wpAny _ _ (raiseNew _) _ _ _); refine Stop.mk ?_) | rw [pick1] | wp_step | (refine ite_yes ?hc ?_; (case hc => exact hb))))
    refine Stop.out (wpAny_raiseNew_none (show A.in1.handled = none from hh) (wpAny_bind (wpAny_isInstance (T := "StopIteration") (b := true) ⟨_, Heap.get?_push_size _ rfl, rfl⟩ isSubtype_stop (wpAny_pure (h _ _ fun c o hc e => Heap.get?_push_of_some _ (Heap.get?_push_of_some _ ((Heap.SameBut.update ..).extBut c o hc e)))))))
/-- the elements of a set of one bool -/
theorem unpack_set1 {D : Addr} {b : Bool} {Q : List Value → Shared → Prop} (hb : w.params.followText "set-order" = b) (hh : A.handled = none) (hD : s.heap.get? D = some (set1 b))
    (h : ∀ h' tk, Keep s.heap h' → Q [.bool true] { s with heap := h', toks := tk }) :
    wpAny (model prog w) A (unpackItems (.ref D) 1 none) Q E s := by
  have hDI : D ≠ s.heap.objs.size := Nat.ne_of_lt (Heap.lt_size hD)
  unfold unpackItems
  refine wpAny_bind ?_
  unfold notIterableAtAll
  refine wpAny_bind (wpAny_specialOf (T := "set") ⟨_, hD, rfl⟩ PySem.F.slot_set_iter.lookup (wpAny_pure ?_))
  simp only [Bool.false_eq_true, if_false]
  refine wpAny_bind (wpAny_holding (iter_set1 hD (wpAny_bind (wpAny_holding ?_))))
  have hD1 : (s.heap.push (setIt D 0 0)).get? D = some (set1 b) := Heap.get?_push_of_some _ hD
  unfold draw
  refine wpAny_bind (next_set1 hb (Heap.get?_push_size _ rfl) hD1 fun h₁ n tk hs₁ hI₁ hn₁ => ?_)
  unfold draw
  refine wpAny_bind (wpAny_holding (wpAny_pure (wpAny_pure ?_)))
  have hD2 : h₁.get? D = some (set1 b) := hs₁.extBut _ _ hDI hD1
  refine ite_no (by decide) ?_
  refine wpAny_bind (wpAny_holding (end_set1 hb hh hI₁ hD2 hn₁ fun h₂ tk₂ k₂ => ?_))
  simp only [Option.isSome_none, Bool.false_eq_true, if_false]
  exact wpAny_pure (h _ _ fun c o e => k₂ c o (Nat.ne_of_lt (Heap.lt_size e)) (hs₁.extBut c o (Nat.ne_of_lt (Heap.lt_size e)) (Heap.get?_push_of_some _ e)))
end

theorem off_S5 : True := by
  w_top off
  exact True.intro
theorem wtF_mem {y : Str} : ∀ {xs : List Str}, y ∈ xs → y.length + 1 ≤ wtF xs
  | z :: r, h => by
    rw [wtF_cons]
    rcases List.mem_cons.mp h with rfl | h
    · omega
    · have := wtF_mem h; omega
theorem strs_inj : ∀ {vs : List Value} {xs ys : List Str}, StrsAre vs xs → StrsAre vs ys → xs = ys
  | _, _, _, .nil, .nil => rfl
  | _, _, _, .cons _ _ r, .cons _ _ r' => by rw [strs_inj r r']
def filtOf (ls : List (Addr × Obj)) (q : Str → Bool) (v : Value) (zs : List Str) : Prop :=
  ∃ T o its n xs, v = .ref T ∧ (T, o) ∈ ls ∧ o.data = .seq (List.toArray its) n ∧ StrsAre its xs ∧ zs = xs.filter q
theorem lsts_filt {ls₀ : List (Addr × Obj)} {q : Str → Bool} (hu : ∀ T o o', (T, o) ∈ ls₀ → (T, o') ∈ ls₀ → o = o') : ∀ {ls : List (Addr × Obj)} {vs : List Value} {xss xss' : List (List Str)},
    LstsAre ls vs xss → (∀ p ∈ ls, p ∈ ls₀) → Paired (filtOf ls₀ q) vs xss' → xss' = xss.map (List.filter q)
  | _, _, _, _, .nil, _, .nil => rfl
  | _, _, _, _, .cons _ h2 h3 r, hs, .cons h hr => by
    obtain ⟨T, o, its, n, xs, e, hm, hd, hS, rfl⟩ := h
    cases e
    obtain rfl := hu _ _ _ hm (hs _ (.head _))
    rw [h2] at hd
    obtain rfl := Data.seq.inj hd |>.1 |> fun e => (congrArg Array.toList e : _)
    rw [List.map_cons, lsts_filt hu r (fun p hp => hs p (.tail _ hp)) hr, strs_inj h3 hS]
theorem mem_right {α : Type} {a b : List α} {x : α} (h : x ∈ b) : x ∈ a ++ b := List.mem_append_right a h
section
variable {prog : Program} {w : World} {A : Around} {E : Value → Shared → Prop} {s : Shared}
theorem assign_set1 {env : Env} {x : Str} {px pos : Pos} {k : Nat} {D : Addr} {b : Bool} {Q : Unit → Shared → Prop} (hb : w.params.followText "set-order" = b) (hh : A.handled = none) (hD : s.heap.get? D = some (set1 b))
    (h : ∀ h' tk, Keep s.heap h' → wpAny (model prog w) A (assignInOrder [assign (.Name x px) env] [.bool true]) Q E { s with heap := h', toks := tk }) :
    wpAny (model prog w) A (assign (.Tuple [.Name x px] k pos) env (.ref D)) Q E s := by
  rw [arm_assign_Tuple]
  refine wpAny_bind (wpAny_standAt ?_)
  show wpAny _ A (unpack (.ref D) [(false, assign (.Name x px) env)]) _ _ s
  unfold unpack
  exact wpAny_bind (wpAny_holding (unpack_set1 hb hh hD h))
end
local macro_rules | `(tactic| walk_at "assign Tuple") => `(tactic| ((with_reducible show wpAny _ _ (assign (Expr.Tuple [Expr.Name _ _] _ _) _ (Value.ref _)) _ _ _); refine Stop.mk ?_))

theorem off_X1 : True := by
  w_top off
  exact True.intro
def lexB (lt : Str → Str → Bool) (sz : Nat → Nat → Bool) : List Str → List Str → Bool
  | x :: xs, y :: ys => if x = y then lexB lt sz xs ys else lt x y
  | xs, ys => sz xs.length ys.length
section
variable {prog : Program} {w : World}
theorem strs_drop_cons {its : List Value} {i : Nat} {x : Str} {xs : List Str} (h : StrsAre (its.drop i) (x :: xs)) : ∃ t, its.toArray[((i : Nat) : Int).toNat]? = some (.str x t) ∧ StrsAre (its.drop (i + 1)) xs := by
  cases hd : its.drop i with
  | nil => rw [hd] at h; nomatch h
  | cons v r =>
    rw [hd] at h
    obtain _ | ⟨_, t, h'⟩ := h
    have e1 : its[i]? = some (.str x t) := by rw [← List.head?_drop, hd]; rfl
    refine ⟨t, by simpa using e1, ?_⟩
    rw [← List.tail_drop, hd]; exact h'
theorem strs_drop_nil {its : List Value} {i : Nat} (h : StrsAre (its.drop i) []) : its.toArray[((i : Nat) : Int).toNat]? = none := by
  cases hd : its.drop i with
  | nil => simpa using List.drop_eq_nil_iff.mp hd
  | cons v r => rw [hd] at h; nomatch h
def ltL : List Str → List Str → Bool := lexB (fun x y => decide (x.cps.toList < y.cps.toList)) (fun m n => decide (m < n))
theorem lst_loop_Lt {a b : Addr} {ia ib : List Value} {na nb : Nat} {da db : Option Addr} {sa sb : Array (Option Value)} : ∀ (xs ys : List Str) (i : Nat) {A : Around} {R : Result → Shared → Prop} (s : Shared), s.heap.get? a = some { cls := .type "list", dict := da, data := .seq ia.toArray na, slots := sa } → s.heap.get? b = some { cls := .type "list", dict := db, data := .seq ib.toArray nb, slots := sb } →
    StrsAre (ia.drop i) xs → StrsAre (ib.drop i) ys → i + xs.length = ia.length → i + ys.length = ib.length → R (.ok (.ret (.bool (ltL xs ys)))) s → codeAny (model prog w) A (.builtin "list.__eq__.loop" ⟨[.ref a, .ref b, rawInt i, rawInt 0], []⟩) R s
  | [], [], i, A, R, s, ha, hb, hx, hy, ea, eb, h => by
    refine codeAny_builtin MeetsSeq3.entry_eq_loop ?_
    rw [Around.under_plainId MeetsSeq3.plain_eq_loop _]
    have h1 := strs_drop_nil hx
    have h2 := strs_drop_nil hy
    repeat (any_goals (first | assumption | wp_step))
    rw [h1, h2]
    repeat (any_goals (first | assumption | wp_step))
    show R (.ok (.ret (.bool (decide (ia.toArray.size < ib.toArray.size))))) s
    have e : decide (ia.toArray.size < ib.toArray.size) = ltL [] [] := by
      show _ = decide (List.length ([] : List Str) < List.length ([] : List Str))
      exact decide_eq_decide.mpr (by simp only [List.size_toArray]; rw [← ea, ← eb]; constructor <;> intro _ <;> omega)
    rw [e]; exact h
  | x :: xs, [], i, A, R, s, ha, hb, hx, hy, ea, eb, h => by
    obtain ⟨t, h0, hx'⟩ := strs_drop_cons hx
    refine codeAny_builtin MeetsSeq3.entry_eq_loop ?_
    rw [Around.under_plainId MeetsSeq3.plain_eq_loop _]
    have h1 := h0
    have h2 := strs_drop_nil hy
    repeat (any_goals (first | assumption | wp_step))
    rw [h1, h2]
    repeat (any_goals (first | assumption | wp_step))
    show R (.ok (.ret (.bool (decide (ia.toArray.size < ib.toArray.size))))) s
    have e : decide (ia.toArray.size < ib.toArray.size) = ltL (x :: xs) [] := by
      show _ = decide (List.length ((x :: xs) : List Str) < List.length ([] : List Str))
      exact decide_eq_decide.mpr (by simp only [List.size_toArray]; rw [← ea, ← eb]; constructor <;> intro _ <;> omega)
    rw [e]; exact h
  | [], y :: ys, i, A, R, s, ha, hb, hx, hy, ea, eb, h => by
    obtain ⟨t, h0, hx'⟩ := strs_drop_cons hy
    refine codeAny_builtin MeetsSeq3.entry_eq_loop ?_
    rw [Around.under_plainId MeetsSeq3.plain_eq_loop _]
    have h1 := strs_drop_nil hx
    have h2 := h0
    repeat (any_goals (first | assumption | wp_step))
    rw [h1, h2]
    repeat (any_goals (first | assumption | wp_step))
    show R (.ok (.ret (.bool (decide (ia.toArray.size < ib.toArray.size))))) s
    have e : decide (ia.toArray.size < ib.toArray.size) = ltL [] (y :: ys) := by
      show _ = decide (List.length ([] : List Str) < List.length ((y :: ys) : List Str))
      exact decide_eq_decide.mpr (by simp only [List.size_toArray]; rw [← ea, ← eb]; constructor <;> intro _ <;> omega)
    rw [e]; exact h
  | x :: xs, y :: ys, i, A, R, s, ha, hb, hx, hy, ea, eb, h => by
    refine codeAny_builtin MeetsSeq3.entry_eq_loop ?_
    rw [Around.under_plainId MeetsSeq3.plain_eq_loop _]
    obtain ⟨t, h1, hx'⟩ := strs_drop_cons hx
    obtain ⟨u, h2, hy'⟩ := strs_drop_cons hy
    repeat (any_goals (first | assumption | wp_step))
    rw [h1, h2]
    repeat (any_goals (first | assumption | with_reducible refine wpAny_eqBool_str ?_ | wp_step))
    have el : ltL (x :: xs) (y :: ys) = if x = y then ltL xs ys else decide (x.cps.toList < y.cps.toList) := rfl
    by_cases hxy : x = y
    · refine ite_yes (decide_eq_true hxy) (wpAny_pure (show _ ∧ _ from ⟨plainId_quiet MeetsSeq3.plain_eq_loop _, ?_⟩))
      rw [el, if_pos hxy] at h
      have hc : ((i : Int) + 1) = ((i + 1 : Nat) : Int) := by push_cast; rfl
      rw [hc]
      simp only [List.length_cons] at ea eb
      exact lst_loop_Lt xs ys (i + 1) s ha hb hx' hy' (by omega) (by omega) h
    · refine ite_no (by simp [hxy]) ?_
      rw [el, if_neg hxy] at h
      repeat (any_goals (first | assumption | wp_step))
      rw [h1, h2]
      repeat (any_goals (first | assumption | ((with_reducible show wpAny _ _ (richCompare _ _ _) _ _ _); refine PyProof.Rows.lt_str ?_) | wp_step))
def gtL : List Str → List Str → Bool := lexB (fun x y => decide (y.cps.toList < x.cps.toList)) (fun m n => decide (m > n))
theorem lst_loop_Gt {a b : Addr} {ia ib : List Value} {na nb : Nat} {da db : Option Addr} {sa sb : Array (Option Value)} : ∀ (xs ys : List Str) (i : Nat) {A : Around} {R : Result → Shared → Prop} (s : Shared), s.heap.get? a = some { cls := .type "list", dict := da, data := .seq ia.toArray na, slots := sa } → s.heap.get? b = some { cls := .type "list", dict := db, data := .seq ib.toArray nb, slots := sb } →
    StrsAre (ia.drop i) xs → StrsAre (ib.drop i) ys → i + xs.length = ia.length → i + ys.length = ib.length → R (.ok (.ret (.bool (gtL xs ys)))) s → codeAny (model prog w) A (.builtin "list.__eq__.loop" ⟨[.ref a, .ref b, rawInt i, rawInt 4], []⟩) R s
  | [], [], i, A, R, s, ha, hb, hx, hy, ea, eb, h => by
    refine codeAny_builtin MeetsSeq3.entry_eq_loop ?_
    rw [Around.under_plainId MeetsSeq3.plain_eq_loop _]
    have h1 := strs_drop_nil hx
    have h2 := strs_drop_nil hy
    repeat (any_goals (first | assumption | wp_step))
    rw [h1, h2]
    repeat (any_goals (first | assumption | wp_step))
    show R (.ok (.ret (.bool (decide (ia.toArray.size > ib.toArray.size))))) s
    have e : decide (ia.toArray.size > ib.toArray.size) = gtL [] [] := by
      show _ = decide (List.length ([] : List Str) > List.length ([] : List Str))
      exact decide_eq_decide.mpr (by simp only [List.size_toArray]; rw [← ea, ← eb]; constructor <;> intro _ <;> omega)
    rw [e]; exact h
  | x :: xs, [], i, A, R, s, ha, hb, hx, hy, ea, eb, h => by
    obtain ⟨t, h0, hx'⟩ := strs_drop_cons hx
    refine codeAny_builtin MeetsSeq3.entry_eq_loop ?_
    rw [Around.under_plainId MeetsSeq3.plain_eq_loop _]
    have h1 := h0
    have h2 := strs_drop_nil hy
    repeat (any_goals (first | assumption | wp_step))
    rw [h1, h2]
    repeat (any_goals (first | assumption | wp_step))
    show R (.ok (.ret (.bool (decide (ia.toArray.size > ib.toArray.size))))) s
    have e : decide (ia.toArray.size > ib.toArray.size) = gtL (x :: xs) [] := by
      show _ = decide (List.length ((x :: xs) : List Str) > List.length ([] : List Str))
      exact decide_eq_decide.mpr (by simp only [List.size_toArray]; rw [← ea, ← eb]; constructor <;> intro _ <;> omega)
    rw [e]; exact h
  | [], y :: ys, i, A, R, s, ha, hb, hx, hy, ea, eb, h => by
    obtain ⟨t, h0, hx'⟩ := strs_drop_cons hy
    refine codeAny_builtin MeetsSeq3.entry_eq_loop ?_
    rw [Around.under_plainId MeetsSeq3.plain_eq_loop _]
    have h1 := strs_drop_nil hx
    have h2 := h0
    repeat (any_goals (first | assumption | wp_step))
    rw [h1, h2]
    repeat (any_goals (first | assumption | wp_step))
    show R (.ok (.ret (.bool (decide (ia.toArray.size > ib.toArray.size))))) s
    have e : decide (ia.toArray.size > ib.toArray.size) = gtL [] (y :: ys) := by
      show _ = decide (List.length ([] : List Str) > List.length ((y :: ys) : List Str))
      exact decide_eq_decide.mpr (by simp only [List.size_toArray]; rw [← ea, ← eb]; constructor <;> intro _ <;> omega)
    rw [e]; exact h
  | x :: xs, y :: ys, i, A, R, s, ha, hb, hx, hy, ea, eb, h => by
    refine codeAny_builtin MeetsSeq3.entry_eq_loop ?_
    rw [Around.under_plainId MeetsSeq3.plain_eq_loop _]
    obtain ⟨t, h1, hx'⟩ := strs_drop_cons hx
    obtain ⟨u, h2, hy'⟩ := strs_drop_cons hy
    repeat (any_goals (first | assumption | wp_step))
    rw [h1, h2]
    repeat (any_goals (first | assumption | with_reducible refine wpAny_eqBool_str ?_ | wp_step))
    have el : gtL (x :: xs) (y :: ys) = if x = y then gtL xs ys else decide (y.cps.toList < x.cps.toList) := rfl
    by_cases hxy : x = y
    · refine ite_yes (decide_eq_true hxy) (wpAny_pure (show _ ∧ _ from ⟨plainId_quiet MeetsSeq3.plain_eq_loop _, ?_⟩))
      rw [el, if_pos hxy] at h
      have hc : ((i : Int) + 1) = ((i + 1 : Nat) : Int) := by push_cast; rfl
      rw [hc]
      simp only [List.length_cons] at ea eb
      exact lst_loop_Gt xs ys (i + 1) s ha hb hx' hy' (by omega) (by omega) h
    · refine ite_no (by simp [hxy]) ?_
      rw [el, if_neg hxy] at h
      repeat (any_goals (first | assumption | wp_step))
      rw [h1, h2]
      repeat (any_goals (first | assumption | ((with_reducible show wpAny _ _ (richCompare _ _ _) _ _ _); refine PySem.P.gt_str ?_) | wp_step))
end

theorem off_X2 : True := by
  w_top off
  exact True.intro
section
variable {prog : Program} {w : World} {A : Around} {E : Value → Shared → Prop} {s : Shared}
theorem meets_list_lt {a b : Addr} {ia ib : List Value} {na nb : Nat} {da db : Option Addr} {sa sb : Array (Option Value)} {xs ys : List Str} (hx : StrsAre ia xs) (hy : StrsAre ib ys) :
    Meets (Builtin.«list.__lt__» ⟨[.ref a, .ref b], []⟩) (fun _ R s => s.heap.get? a = some { cls := .type "list", dict := da, data := .seq ia.toArray na, slots := sa } ∧ s.heap.get? b = some { cls := .type "list", dict := db, data := .seq ib.toArray nb, slots := sb } ∧ R (.ok (.ret (.bool (ltL xs ys)))) s) :=
  fun prog w A R s h => by
    have hsub : isSubtype (.type "list") (.type "list") = pure true := by rw [isSubtype_type]; kernel_rfl
    obtain ⟨ha, hb, h⟩ := h
    have ea := strs_len hx
    have eb := strs_len hy
    repeat (any_goals (first | assumption | wp_step))
    exact ⟨plainId_quiet MeetsSeq3.plain_eq_loop _, lst_loop_Lt xs ys 0 s ha hb hx hy (by rw [Nat.zero_add]; exact ea.symm) (by rw [Nat.zero_add]; exact eb.symm) h⟩
theorem meets_list_gt {a b : Addr} {ia ib : List Value} {na nb : Nat} {da db : Option Addr} {sa sb : Array (Option Value)} {xs ys : List Str} (hx : StrsAre ia xs) (hy : StrsAre ib ys) :
    Meets (Builtin.«list.__gt__» ⟨[.ref a, .ref b], []⟩) (fun _ R s => s.heap.get? a = some { cls := .type "list", dict := da, data := .seq ia.toArray na, slots := sa } ∧ s.heap.get? b = some { cls := .type "list", dict := db, data := .seq ib.toArray nb, slots := sb } ∧ R (.ok (.ret (.bool (gtL xs ys)))) s) :=
  fun prog w A R s h => by
    have hsub : isSubtype (.type "list") (.type "list") = pure true := by rw [isSubtype_type]; kernel_rfl
    obtain ⟨ha, hb, h⟩ := h
    have ea := strs_len hx
    have eb := strs_len hy
    repeat (any_goals (first | assumption | wp_step))
    exact ⟨plainId_quiet MeetsSeq3.plain_eq_loop _, lst_loop_Gt xs ys 0 s ha hb hx hy (by rw [Nat.zero_add]; exact ea.symm) (by rw [Nat.zero_add]; exact eb.symm) h⟩
theorem rich_lt {a b : Addr} {ia ib : List Value} {na nb : Nat} {da db : Option Addr} {sa sb : Array (Option Value)} {xs ys : List Str} {Q : Value → Shared → Prop} (hu : A.units < cLine) (ha : s.heap.get? a = some { cls := .type "list", dict := da, data := .seq ia.toArray na, slots := sa }) (hb : s.heap.get? b = some { cls := .type "list", dict := db, data := .seq ib.toArray nb, slots := sb })
    (hx : StrsAre ia xs) (hy : StrsAre ib ys) (h : Q (.bool (ltL xs ys)) s) : wpAny (model prog w) A (richCompare .Lt (.ref a) (.ref b)) Q E s :=
  richCompare_meets_room ⟨_, ha, rfl⟩ ⟨_, hb, rfl⟩ PySem.F.slot_list_lt PySem.F.entry_list_lt (PySem.F.args_list_lt_2 _ _) (meets_list_lt hx hy) ⟨ha, hb, ⟨nofun, h⟩⟩ hu
theorem rich_gt {a b : Addr} {ia ib : List Value} {na nb : Nat} {da db : Option Addr} {sa sb : Array (Option Value)} {xs ys : List Str} {Q : Value → Shared → Prop} (hu : A.units < cLine) (ha : s.heap.get? a = some { cls := .type "list", dict := da, data := .seq ia.toArray na, slots := sa }) (hb : s.heap.get? b = some { cls := .type "list", dict := db, data := .seq ib.toArray nb, slots := sb })
    (hx : StrsAre ia xs) (hy : StrsAre ib ys) (h : Q (.bool (gtL xs ys)) s) : wpAny (model prog w) A (richCompare .Gt (.ref a) (.ref b)) Q E s :=
  richCompare_meets_room ⟨_, ha, rfl⟩ ⟨_, hb, rfl⟩ PySem.F.slot_list_gt PySem.F.entry_list_gt (PySem.F.args_list_gt_2 _ _) (meets_list_gt hx hy) ⟨ha, hb, ⟨nofun, h⟩⟩ hu
end

theorem off_X3 : True := by
  w_top off
  exact True.intro
theorem obj_list {o : Obj} {d : Data} (hc : o.cls = .type "list") (hd : o.data = d) : o = { cls := .type "list", dict := o.dict, data := d, slots := o.slots } := by
  cases o; cases hc; cases hd; rfl
def bestL (lt : List Str → List Str → Bool) (m : List Str) (xss : List (List Str)) : List Str := xss.foldl (fun m x => if lt x m then x else m) m
theorem bestL_cons (lt : List Str → List Str → Bool) (m x : List Str) (xss : List (List Str)) : bestL lt m (x :: xss) = bestL lt (if lt x m then x else m) xss := rfl
section
variable {prog : Program} {w : World} {D I S : Addr}
theorem min_loop (hDI : D ≠ I) (hSI : S ≠ I) (hSD : S ≠ D) : ∀ {ls : List (Addr × Obj)} {vs : List Value} {xss : List (List Str)} (_ : LstsAre ls vs xss) (pre : List Value) {A : Around} {R : Result → Shared → Prop} {s : Shared} {T₀ : Addr} {o₀ : Obj} {its₀ : List Value} {n₀ c : Nat} {xs₀ : List Str},
    A.handled = none → A.units + 1 < cLine → s.heap.IsListIter I D pre.length → s.heap.IsList D (pre ++ vs).toArray →
    s.heap.get? S = some { cls := .type "list", data := .seq #[.ref T₀, .ref T₀] c } → s.heap.get? T₀ = some o₀ → o₀.cls = .type "list" → o₀.data = .seq its₀.toArray n₀ → StrsAre its₀ xs₀ → T₀ ≠ I → T₀ ≠ S →
    (∀ p ∈ ls, s.heap.get? p.1 = some p.2 ∧ p.1 ≠ I ∧ p.1 ≠ S) →
    (∀ T o its n h' tk, (T, o) ∈ (T₀, o₀) :: ls → o.cls = .type "list" → o.data = .seq its.toArray n → StrsAre its (bestL ltL xs₀ xss) → (∀ b ob, b ≠ I → b ≠ S → s.heap.get? b = some ob → h'.get? b = some ob) → R (.ok (.ret (.ref T))) { s with heap := h', toks := tk }) →
    codeAny (model prog w) A (.builtin "min.loop" ⟨[.ref I, .none, .ref S], []⟩) R s
  | _, _, _, .nil, pre, A, R, s, T₀, o₀, its₀, n₀, c, xs₀, hh, hu, hit, hl, hS, hT, hc, hd, hx, hTI, hTS, hls, h => by
    refine codeAny_builtin PySem.F.entry_min_loop ?_
    rw [Around.under_plainId PySem.F.plain_min_loop _]
    have hx0 : (pre ++ ([] : List Value)).toArray[pre.length]? = none := by simp
    show wpAny _ A.in1 (seqItems? (.ref S) >>= _) _ _ _
    refine wpAny_bind (wpAny_seqItems hS rfl ?_)
    show wpAny _ A.in1 (tryCatch (pyNext (.ref I)) _ >>= _) _ _ _
    refine wpAny_bind (wpAny_tryCatch (wpAny_pyNext_list_end (show A.in1.handled = none from hh) hit hl hx0 fun h1 e1 => ?_))
    have hS1 := e1 S _ hSI hS
    show wpAny _ A.in1 (updateSeq S (fun _ => #[]) >>= _) _ _ _
    refine wpAny_bind (wpAny_updateSeq hS1 rfl (wpAny_bind (wpAny_letGo (wpAny_pure ?_))))
    exact h T₀ o₀ its₀ n₀ _ _ (.head _) hc hd hx fun b ob hb1 hb2 e => (Heap.get?_update_other _ _ (Ne.symm hb2)).trans (e1 b ob hb1 e)
  | _, _, _, .cons (T := T₁) (o := o₁) (its := its₁) (n := n₁) (xs := xs₁) (ls := ls₁) (vs := vs₁) (xss := xss₁) c1 d1 x1 r, pre, A, R, s, T₀, o₀, its₀, n₀, c, xs₀, hh, hu, hit, hl, hS, hT, hc, hd, hx, hTI, hTS, hls, h => by
    have hname : (toString "min" ++ toString ".loop" : String) = "min.loop" := by decide
    refine codeAny_builtin PySem.F.entry_min_loop ?_
    rw [Around.under_plainId PySem.F.plain_min_loop _]
    have hx0 : (pre ++ Value.ref T₁ :: vs₁).toArray[pre.length]? = some (.ref T₁) := by simp
    have happ : pre ++ Value.ref T₁ :: vs₁ = (pre ++ [.ref T₁]) ++ vs₁ := by simp
    have hpl : pre.length + 1 = (pre ++ [Value.ref T₁]).length := by simp
    show wpAny _ A.in1 (seqItems? (.ref S) >>= _) _ _ _
    refine wpAny_bind (wpAny_seqItems hS rfl ?_)
    show wpAny _ A.in1 (tryCatch (pyNext (.ref I)) _ >>= _) _ _ _
    refine wpAny_bind (wpAny_tryCatch (wpAny_pyNext_list_item hit hl hx0 fun h1 i1 k1 => ?_))
    have hS1 := k1.extBut S _ hSI hS
    obtain ⟨g1, gI, gS⟩ := hls _ (.head _)
    have hT1 := k1.extBut T₀ _ hTI hT
    have g1' := k1.extBut T₁ _ gI g1
    have hl1 := hl.at fun o e => k1.extBut D _ hDI e
    rw [obj_list hc hd] at hT1
    rw [obj_list c1 d1] at g1'
    show wpAny _ A.in1 (tryCatch (holding [.ref T₁, .ref T₁] (richCompare .Lt (.ref T₁) (.ref T₀) >>= _)) _ >>= _) _ _ _
    refine wpAny_bind (wpAny_tryCatch (wpAny_holding (wpAny_bind (rich_lt (show A.in1.units < cLine from hu) g1' hT1 x1 hx ?_))))
    refine wpAny_bind (wpAny_holding (wpAny_truthy_bool ?_))
    refine wpAny_bind (wpAny_letGo (wpAny_pure ?_))
    rw [bestL_cons] at h
    cases hb : ltL xs₁ xs₀ with
    | true =>
      simp only [if_true]
      rw [hb, if_pos rfl] at h
      refine wpAny_bind (wpAny_updateSeq hS1 rfl (wpAny_bind (wpAny_letGo ?_)))
      have up : ∀ b ob, b ≠ S → h1.get? b = some ob → (h1.update S (Obj.mapSeq fun _ => #[Value.ref T₁, Value.ref T₁])).get? b = some ob := fun b ob hb e => (Heap.get?_update_other _ _ (Ne.symm hb)).trans e
      rw [hname]
      refine wpAny_pure ⟨plainId_quiet PySem.F.plain_min_loop _, min_loop hDI hSI hSD r (pre ++ [.ref T₁]) hh hu (by rw [← hpl]; exact let ⟨o, ho, e1, e2⟩ := i1; ⟨o, up I _ (Ne.symm hSI) ho, e1, e2⟩) (by rw [← happ]; exact hl1.at fun o e => up D _ (Ne.symm hSD) e) (Heap.get?_update_self _ hS1 rfl) (up T₁ o₁ gS (k1.extBut T₁ _ gI g1)) c1 d1 x1 gI gS (fun p hp => ?_) fun T o its n h' tk hm hc hd hs hk => ?_⟩
      · obtain ⟨a1, a2, a3⟩ := hls p (.tail _ hp)
        exact ⟨up _ _ a3 (k1.extBut _ _ a2 a1), a2, a3⟩
      · exact h T o its n h' tk (.tail _ hm) hc hd hs fun b ob hb1 hb2 e => hk b ob hb1 hb2 (up b ob hb2 (k1.extBut b _ hb1 e))
    | false =>
      simp only [Bool.false_eq_true, if_false]
      rw [hb, if_neg (by decide)] at h
      refine wpAny_bind (wpAny_letGo ?_)
      rw [hname]
      refine wpAny_pure ⟨plainId_quiet PySem.F.plain_min_loop _, min_loop hDI hSI hSD r (pre ++ [.ref T₁]) hh hu (by rw [← hpl]; exact i1) (by rw [← happ]; exact hl1) hS1 (k1.extBut T₀ _ hTI hT) hc hd hx hTI hTS (fun p hp => ?_) fun T o its n h' tk hm hc hd hs hk => ?_⟩
      · obtain ⟨a1, a2, a3⟩ := hls p (.tail _ hp)
        exact ⟨k1.extBut _ _ a2 a1, a2, a3⟩
      · refine h T o its n h' tk ?_ hc hd hs fun b ob hb1 hb2 e => hk b ob hb1 hb2 (k1.extBut b _ hb1 e)
        rcases List.mem_cons.mp hm with e | hm
        · rw [e]; exact .head _
        · exact .tail _ (.tail _ hm)
theorem max_loop (hDI : D ≠ I) (hSI : S ≠ I) (hSD : S ≠ D) : ∀ {ls : List (Addr × Obj)} {vs : List Value} {xss : List (List Str)} (_ : LstsAre ls vs xss) (pre : List Value) {A : Around} {R : Result → Shared → Prop} {s : Shared} {T₀ : Addr} {o₀ : Obj} {its₀ : List Value} {n₀ c : Nat} {xs₀ : List Str},
    A.handled = none → A.units + 1 < cLine → s.heap.IsListIter I D pre.length → s.heap.IsList D (pre ++ vs).toArray →
    s.heap.get? S = some { cls := .type "list", data := .seq #[.ref T₀, .ref T₀] c } → s.heap.get? T₀ = some o₀ → o₀.cls = .type "list" → o₀.data = .seq its₀.toArray n₀ → StrsAre its₀ xs₀ → T₀ ≠ I → T₀ ≠ S →
    (∀ p ∈ ls, s.heap.get? p.1 = some p.2 ∧ p.1 ≠ I ∧ p.1 ≠ S) →
    (∀ T o its n h' tk, (T, o) ∈ (T₀, o₀) :: ls → o.cls = .type "list" → o.data = .seq its.toArray n → StrsAre its (bestL gtL xs₀ xss) → (∀ b ob, b ≠ I → b ≠ S → s.heap.get? b = some ob → h'.get? b = some ob) → R (.ok (.ret (.ref T))) { s with heap := h', toks := tk }) →
    codeAny (model prog w) A (.builtin "max.loop" ⟨[.ref I, .none, .ref S], []⟩) R s
  | _, _, _, .nil, pre, A, R, s, T₀, o₀, its₀, n₀, c, xs₀, hh, hu, hit, hl, hS, hT, hc, hd, hx, hTI, hTS, hls, h => by
    refine codeAny_builtin PySem.F.entry_max_loop ?_
    rw [Around.under_plainId PySem.F.plain_max_loop _]
    have hx0 : (pre ++ ([] : List Value)).toArray[pre.length]? = none := by simp
    show wpAny _ A.in1 (seqItems? (.ref S) >>= _) _ _ _
    refine wpAny_bind (wpAny_seqItems hS rfl ?_)
    show wpAny _ A.in1 (tryCatch (pyNext (.ref I)) _ >>= _) _ _ _
    refine wpAny_bind (wpAny_tryCatch (wpAny_pyNext_list_end (show A.in1.handled = none from hh) hit hl hx0 fun h1 e1 => ?_))
    have hS1 := e1 S _ hSI hS
    show wpAny _ A.in1 (updateSeq S (fun _ => #[]) >>= _) _ _ _
    refine wpAny_bind (wpAny_updateSeq hS1 rfl (wpAny_bind (wpAny_letGo (wpAny_pure ?_))))
    exact h T₀ o₀ its₀ n₀ _ _ (.head _) hc hd hx fun b ob hb1 hb2 e => (Heap.get?_update_other _ _ (Ne.symm hb2)).trans (e1 b ob hb1 e)
  | _, _, _, .cons (T := T₁) (o := o₁) (its := its₁) (n := n₁) (xs := xs₁) (ls := ls₁) (vs := vs₁) (xss := xss₁) c1 d1 x1 r, pre, A, R, s, T₀, o₀, its₀, n₀, c, xs₀, hh, hu, hit, hl, hS, hT, hc, hd, hx, hTI, hTS, hls, h => by
    have hname : (toString "max" ++ toString ".loop" : String) = "max.loop" := by decide
    refine codeAny_builtin PySem.F.entry_max_loop ?_
    rw [Around.under_plainId PySem.F.plain_max_loop _]
    have hx0 : (pre ++ Value.ref T₁ :: vs₁).toArray[pre.length]? = some (.ref T₁) := by simp
    have happ : pre ++ Value.ref T₁ :: vs₁ = (pre ++ [.ref T₁]) ++ vs₁ := by simp
    have hpl : pre.length + 1 = (pre ++ [Value.ref T₁]).length := by simp
    show wpAny _ A.in1 (seqItems? (.ref S) >>= _) _ _ _
    refine wpAny_bind (wpAny_seqItems hS rfl ?_)
    show wpAny _ A.in1 (tryCatch (pyNext (.ref I)) _ >>= _) _ _ _
    refine wpAny_bind (wpAny_tryCatch (wpAny_pyNext_list_item hit hl hx0 fun h1 i1 k1 => ?_))
    have hS1 := k1.extBut S _ hSI hS
    obtain ⟨g1, gI, gS⟩ := hls _ (.head _)
    have hT1 := k1.extBut T₀ _ hTI hT
    have g1' := k1.extBut T₁ _ gI g1
    have hl1 := hl.at fun o e => k1.extBut D _ hDI e
    rw [obj_list hc hd] at hT1
    rw [obj_list c1 d1] at g1'
    show wpAny _ A.in1 (tryCatch (holding [.ref T₁, .ref T₁] (richCompare .Gt (.ref T₁) (.ref T₀) >>= _)) _ >>= _) _ _ _
    refine wpAny_bind (wpAny_tryCatch (wpAny_holding (wpAny_bind (rich_gt (show A.in1.units < cLine from hu) g1' hT1 x1 hx ?_))))
    refine wpAny_bind (wpAny_holding (wpAny_truthy_bool ?_))
    refine wpAny_bind (wpAny_letGo (wpAny_pure ?_))
    rw [bestL_cons] at h
    cases hb : gtL xs₁ xs₀ with
    | true =>
      simp only [if_true]
      rw [hb, if_pos rfl] at h
      refine wpAny_bind (wpAny_updateSeq hS1 rfl (wpAny_bind (wpAny_letGo ?_)))
      have up : ∀ b ob, b ≠ S → h1.get? b = some ob → (h1.update S (Obj.mapSeq fun _ => #[Value.ref T₁, Value.ref T₁])).get? b = some ob := fun b ob hb e => (Heap.get?_update_other _ _ (Ne.symm hb)).trans e
      rw [hname]
      refine wpAny_pure ⟨plainId_quiet PySem.F.plain_max_loop _, max_loop hDI hSI hSD r (pre ++ [.ref T₁]) hh hu (by rw [← hpl]; exact let ⟨o, ho, e1, e2⟩ := i1; ⟨o, up I _ (Ne.symm hSI) ho, e1, e2⟩) (by rw [← happ]; exact hl1.at fun o e => up D _ (Ne.symm hSD) e) (Heap.get?_update_self _ hS1 rfl) (up T₁ o₁ gS (k1.extBut T₁ _ gI g1)) c1 d1 x1 gI gS (fun p hp => ?_) fun T o its n h' tk hm hc hd hs hk => ?_⟩
      · obtain ⟨a1, a2, a3⟩ := hls p (.tail _ hp)
        exact ⟨up _ _ a3 (k1.extBut _ _ a2 a1), a2, a3⟩
      · exact h T o its n h' tk (.tail _ hm) hc hd hs fun b ob hb1 hb2 e => hk b ob hb1 hb2 (up b ob hb2 (k1.extBut b _ hb1 e))
    | false =>
      simp only [Bool.false_eq_true, if_false]
      rw [hb, if_neg (by decide)] at h
      refine wpAny_bind (wpAny_letGo ?_)
      rw [hname]
      refine wpAny_pure ⟨plainId_quiet PySem.F.plain_max_loop _, max_loop hDI hSI hSD r (pre ++ [.ref T₁]) hh hu (by rw [← hpl]; exact i1) (by rw [← happ]; exact hl1) hS1 (k1.extBut T₀ _ hTI hT) hc hd hx hTI hTS (fun p hp => ?_) fun T o its n h' tk hm hc hd hs hk => ?_⟩
      · obtain ⟨a1, a2, a3⟩ := hls p (.tail _ hp)
        exact ⟨k1.extBut _ _ a2 a1, a2, a3⟩
      · refine h T o its n h' tk ?_ hc hd hs fun b ob hb1 hb2 e => hk b ob hb1 hb2 (k1.extBut b _ hb1 e)
        rcases List.mem_cons.mp hm with e | hm
        · rw [e]; exact .head _
        · exact .tail _ (.tail _ hm)
end
section
variable {prog : Program} {w : World} {A : Around} {E : Value → Shared → Prop} {s : Shared} {h₀ : Heap} {L D : Addr} {m : Str → Option Value} {news ls : List (Addr × Obj)} {ys : List Value} {xs₀ : List Str} {xss : List (List Str)} {n : Nat} {Q : Value → Shared → Prop}
theorem min_K (hh : A.handled = none) (hu : A.units + 1 < cLine) (F : Fr h₀ L s.heap m) (N : News h₀ L s.heap news) (hD : (D, ({ cls := .type "list", data := .seq (List.toArray ys) n } : Obj)) ∈ news)
    (hls : LstsAre ls ys (xs₀ :: xss)) (hsub : ∀ p ∈ ls, p ∈ news)
    (h : ∀ T o its k h' tk, (T, o) ∈ ls → o.cls = .type "list" → o.data = .seq (List.toArray its) k → StrsAre its (bestL ltL xs₀ xss) → Fr h₀ L h' m → News h₀ L h' news → Q (.ref T) { s with heap := h', toks := tk }) :
    wpAny (model prog w) A (call (.builtin "min") [.ref D]) Q E s := by
  have hname : (toString "min" ++ toString ".loop" : String) = "min.loop" := by decide
  obtain _ | @⟨T₀, o₀, its₀, n₀, _, ls₁, vs₁, _, c0, d0, x0, r⟩ := hls
  have hl : s.heap.IsList D (List.toArray (.ref T₀ :: vs₁)) := ⟨_, News.get N hD, rfl, _, rfl⟩
  have hDlt : D < s.heap.objs.size := Heap.lt_size (News.get N hD)
  refine call_function_tree PySem.F.kind_min PySem.F.plain_min PySem.F.entry_min (PySem.F.args_min1 _) ?_
  show wpAny _ A.in1 (Builtin.Builtins.bindParams "min" ["key", "default"] 0 ⟨[], []⟩ >>= _) _ _ s
  refine wpAny_bind (wpAny_of_eq (show Builtin.Builtins.bindParams "min" ["key", "default"] 0 ⟨[], []⟩ = pure [none, none] from rfl) ?_)
  refine wpAny_bind (wpAny_pure ?_)
  refine wpAny_bind (wpAny_pyIter_list hl ?_)
  refine wpAny_bind (wpAny_newList ?_ (Nat.zero_le _))
  rw [hname]
  have hsz : (s.heap.push { cls := .type "list_iterator", data := .fields #[.ref D, .int 0 0] }).objs.size = s.heap.objs.size + 1 := size_push' ..
  have hDI : D ≠ s.heap.objs.size := Nat.ne_of_lt hDlt
  have hSI : (s.heap.push { cls := .type "list_iterator", data := .fields #[.ref D, .int 0 0] }).objs.size ≠ s.heap.objs.size := by rw [hsz]; exact Nat.ne_of_gt (Nat.lt_succ_self _)
  have hSD : (s.heap.push { cls := .type "list_iterator", data := .fields #[.ref D, .int 0 0] }).objs.size ≠ D := by rw [hsz]; exact Nat.ne_of_gt (Nat.lt_succ_of_lt hDlt)
  have up : ∀ b ob, s.heap.get? b = some ob → b ≠ s.heap.objs.size ∧ b ≠ (s.heap.push { cls := .type "list_iterator", data := .fields #[.ref D, .int 0 0] }).objs.size ∧
      ((s.heap.push { cls := .type "list_iterator", data := .fields #[.ref D, .int 0 0] }).push { cls := .type "list", data := .seq (List.toArray []) }).get? b = some ob := fun b ob e =>
    ⟨Nat.ne_of_lt (Heap.lt_size e), by rw [hsz]; exact Nat.ne_of_lt (Nat.lt_succ_of_lt (Heap.lt_size e)), Heap.get?_push_of_some _ (Heap.get?_push_of_some _ e)⟩
  have gI : ((s.heap.push { cls := .type "list_iterator", data := .fields #[.ref D, .int 0 0] }).push { cls := .type "list", data := .seq (List.toArray []) }).IsListIter s.heap.objs.size D 0 :=
    ⟨_, Heap.get?_push_of_some _ (Heap.get?_push_size _ rfl), rfl, rfl⟩
  have gS : ((s.heap.push { cls := .type "list_iterator", data := .fields #[.ref D, .int 0 0] }).push { cls := .type "list", data := .seq (List.toArray []) }).get? (s.heap.push { cls := .type "list_iterator", data := .fields #[.ref D, .int 0 0] }).objs.size = some { cls := .type "list", data := .seq (List.toArray []) } := Heap.get?_push_size _ rfl
  have hl0 := hl.at fun o e => (up D o e).2.2
  generalize ((s.heap.push { cls := .type "list_iterator", data := .fields #[.ref D, .int 0 0] }).push { cls := .type "list", data := .seq (List.toArray []) }) = H at *
  generalize (s.heap.push { cls := .type "list_iterator", data := .fields #[.ref D, .int 0 0] }).objs.size = S at *
  generalize hI : s.heap.objs.size = I at *
  refine wpAny_pure ⟨plainId_quiet PySem.F.plain_min_loop _, ?_⟩
  refine codeAny_builtin PySem.F.entry_min_loop ?_
  rw [Around.under_plainId PySem.F.plain_min_loop _]
  show wpAny _ A.in1 (seqItems? (.ref S) >>= _) _ _ _
  refine wpAny_bind (wpAny_seqItems gS rfl ?_)
  show wpAny _ A.in1 (tryCatch (pyNext (.ref I)) _ >>= _) _ _ _
  refine wpAny_bind (wpAny_tryCatch (wpAny_pyNext_list_item gI hl0 (x := .ref T₀) (by simp) fun h1 i1 k1 => ?_))
  have hS1 := k1.extBut S _ hSI gS
  have hl1 := hl0.at fun o e => k1.extBut D _ hDI e
  have up1 : ∀ b ob, s.heap.get? b = some ob → (h1.update S (Obj.mapSeq fun _ => #[Value.ref T₀, Value.ref T₀])).get? b = some ob := fun b ob e =>
    (Heap.get?_update_other _ _ (Ne.symm (up b ob e).2.1)).trans (k1.extBut b ob (up b ob e).1 (up b ob e).2.2)
  show wpAny _ A.in1 (updateSeq S (fun _ => #[.ref T₀, .ref T₀]) >>= _) _ _ _
  refine wpAny_bind (wpAny_updateSeq hS1 rfl ?_)
  rw [hname]
  have g0 := News.get N (hsub _ (.head _))
  refine wpAny_pure ⟨plainId_quiet PySem.F.plain_min_loop _, min_loop hDI hSI hSD r [.ref T₀] hh hu ?_ (hl1.at fun o e => (Heap.get?_update_other _ _ hSD).trans e) (Heap.get?_update_self _ hS1 rfl) (up1 _ _ g0) c0 d0 x0 (up _ _ g0).1 (up _ _ g0).2.1 (fun p hp => ?_) fun T o its k h' tk hm hc hd hs hk => ?_⟩
  · obtain ⟨o, ho, e1, e2⟩ := i1
    exact ⟨o, (Heap.get?_update_other _ _ hSI).trans ho, e1, e2⟩
  · have gp := News.get N (hsub _ (.tail _ hp))
    exact ⟨up1 _ _ gp, (up _ _ gp).1, (up _ _ gp).2.1⟩
  · have kk : Keep s.heap h' := fun b ob e => hk b ob (up b ob e).1 (up b ob e).2.1 (up1 b ob e)
    exact h T o its k h' tk hm hc hd hs (kk.fr F) (kk.news N)
end
section
variable {prog : Program} {w : World} {A : Around} {E : Value → Shared → Prop} {s : Shared} {h₀ : Heap} {L D : Addr} {m : Str → Option Value} {news ls : List (Addr × Obj)} {ys : List Value} {xs₀ : List Str} {xss : List (List Str)} {n : Nat} {Q : Value → Shared → Prop}
theorem max_K (hh : A.handled = none) (hu : A.units + 1 < cLine) (F : Fr h₀ L s.heap m) (N : News h₀ L s.heap news) (hD : (D, ({ cls := .type "list", data := .seq (List.toArray ys) n } : Obj)) ∈ news)
    (hls : LstsAre ls ys (xs₀ :: xss)) (hsub : ∀ p ∈ ls, p ∈ news)
    (h : ∀ T o its k h' tk, (T, o) ∈ ls → o.cls = .type "list" → o.data = .seq (List.toArray its) k → StrsAre its (bestL gtL xs₀ xss) → Fr h₀ L h' m → News h₀ L h' news → Q (.ref T) { s with heap := h', toks := tk }) :
    wpAny (model prog w) A (call (.builtin "max") [.ref D]) Q E s := by
  have hname : (toString "max" ++ toString ".loop" : String) = "max.loop" := by decide
  obtain _ | @⟨T₀, o₀, its₀, n₀, _, ls₁, vs₁, _, c0, d0, x0, r⟩ := hls
  have hl : s.heap.IsList D (List.toArray (.ref T₀ :: vs₁)) := ⟨_, News.get N hD, rfl, _, rfl⟩
  have hDlt : D < s.heap.objs.size := Heap.lt_size (News.get N hD)
  refine call_function_tree PySem.F.kind_max PySem.F.plain_max PySem.F.entry_max (PySem.F.args_max1 _) ?_
  show wpAny _ A.in1 (Builtin.Builtins.bindParams "max" ["key", "default"] 0 ⟨[], []⟩ >>= _) _ _ s
  refine wpAny_bind (wpAny_of_eq (show Builtin.Builtins.bindParams "max" ["key", "default"] 0 ⟨[], []⟩ = pure [none, none] from rfl) ?_)
  refine wpAny_bind (wpAny_pure ?_)
  refine wpAny_bind (wpAny_pyIter_list hl ?_)
  refine wpAny_bind (wpAny_newList ?_ (Nat.zero_le _))
  rw [hname]
  have hsz : (s.heap.push { cls := .type "list_iterator", data := .fields #[.ref D, .int 0 0] }).objs.size = s.heap.objs.size + 1 := size_push' ..
  have hDI : D ≠ s.heap.objs.size := Nat.ne_of_lt hDlt
  have hSI : (s.heap.push { cls := .type "list_iterator", data := .fields #[.ref D, .int 0 0] }).objs.size ≠ s.heap.objs.size := by rw [hsz]; exact Nat.ne_of_gt (Nat.lt_succ_self _)
  have hSD : (s.heap.push { cls := .type "list_iterator", data := .fields #[.ref D, .int 0 0] }).objs.size ≠ D := by rw [hsz]; exact Nat.ne_of_gt (Nat.lt_succ_of_lt hDlt)
  have up : ∀ b ob, s.heap.get? b = some ob → b ≠ s.heap.objs.size ∧ b ≠ (s.heap.push { cls := .type "list_iterator", data := .fields #[.ref D, .int 0 0] }).objs.size ∧
      ((s.heap.push { cls := .type "list_iterator", data := .fields #[.ref D, .int 0 0] }).push { cls := .type "list", data := .seq (List.toArray []) }).get? b = some ob := fun b ob e =>
    ⟨Nat.ne_of_lt (Heap.lt_size e), by rw [hsz]; exact Nat.ne_of_lt (Nat.lt_succ_of_lt (Heap.lt_size e)), Heap.get?_push_of_some _ (Heap.get?_push_of_some _ e)⟩
  have gI : ((s.heap.push { cls := .type "list_iterator", data := .fields #[.ref D, .int 0 0] }).push { cls := .type "list", data := .seq (List.toArray []) }).IsListIter s.heap.objs.size D 0 :=
    ⟨_, Heap.get?_push_of_some _ (Heap.get?_push_size _ rfl), rfl, rfl⟩
  have gS : ((s.heap.push { cls := .type "list_iterator", data := .fields #[.ref D, .int 0 0] }).push { cls := .type "list", data := .seq (List.toArray []) }).get? (s.heap.push { cls := .type "list_iterator", data := .fields #[.ref D, .int 0 0] }).objs.size = some { cls := .type "list", data := .seq (List.toArray []) } := Heap.get?_push_size _ rfl
  have hl0 := hl.at fun o e => (up D o e).2.2
  generalize ((s.heap.push { cls := .type "list_iterator", data := .fields #[.ref D, .int 0 0] }).push { cls := .type "list", data := .seq (List.toArray []) }) = H at *
  generalize (s.heap.push { cls := .type "list_iterator", data := .fields #[.ref D, .int 0 0] }).objs.size = S at *
  generalize hI : s.heap.objs.size = I at *
  refine wpAny_pure ⟨plainId_quiet PySem.F.plain_max_loop _, ?_⟩
  refine codeAny_builtin PySem.F.entry_max_loop ?_
  rw [Around.under_plainId PySem.F.plain_max_loop _]
  show wpAny _ A.in1 (seqItems? (.ref S) >>= _) _ _ _
  refine wpAny_bind (wpAny_seqItems gS rfl ?_)
  show wpAny _ A.in1 (tryCatch (pyNext (.ref I)) _ >>= _) _ _ _
  refine wpAny_bind (wpAny_tryCatch (wpAny_pyNext_list_item gI hl0 (x := .ref T₀) (by simp) fun h1 i1 k1 => ?_))
  have hS1 := k1.extBut S _ hSI gS
  have hl1 := hl0.at fun o e => k1.extBut D _ hDI e
  have up1 : ∀ b ob, s.heap.get? b = some ob → (h1.update S (Obj.mapSeq fun _ => #[Value.ref T₀, Value.ref T₀])).get? b = some ob := fun b ob e =>
    (Heap.get?_update_other _ _ (Ne.symm (up b ob e).2.1)).trans (k1.extBut b ob (up b ob e).1 (up b ob e).2.2)
  show wpAny _ A.in1 (updateSeq S (fun _ => #[.ref T₀, .ref T₀]) >>= _) _ _ _
  refine wpAny_bind (wpAny_updateSeq hS1 rfl ?_)
  rw [hname]
  have g0 := News.get N (hsub _ (.head _))
  refine wpAny_pure ⟨plainId_quiet PySem.F.plain_max_loop _, max_loop hDI hSI hSD r [.ref T₀] hh hu ?_ (hl1.at fun o e => (Heap.get?_update_other _ _ hSD).trans e) (Heap.get?_update_self _ hS1 rfl) (up1 _ _ g0) c0 d0 x0 (up _ _ g0).1 (up _ _ g0).2.1 (fun p hp => ?_) fun T o its k h' tk hm hc hd hs hk => ?_⟩
  · obtain ⟨o, ho, e1, e2⟩ := i1
    exact ⟨o, (Heap.get?_update_other _ _ hSI).trans ho, e1, e2⟩
  · have gp := News.get N (hsub _ (.tail _ hp))
    exact ⟨up1 _ _ gp, (up _ _ gp).1, (up _ _ gp).2.1⟩
  · have kk : Keep s.heap h' := fun b ob e => hk b ob (up b ob e).1 (up b ob e).2.1 (up1 b ob e)
    exact h T o its k h' tk hm hc hd hs (kk.fr F) (kk.news N)
end

theorem off_Y1 : True := by
  w_top off
  exact True.intro
open PySem.W in
theorem allobj_mono : ∀ {ws : List (Addr × String)} {k k' : List (Addr × Obj) → Prop}, (∀ its, k its → k' its) → AllObj ws k → AllObj ws k'
  | [], _, _, h, x => h [] x
  | _ :: _, _, _, h, x => fun o ho => allobj_mono (fun its => h _) (x o ho)
section
open PySem.W
variable {prog : Program} {w : World} {A : Around} {E : Value → Shared → Prop} {s : Shared} {env : Env} {h₀ : Heap} {target : Expr} {body : List Stmt} {Q : Flow → Shared → Prop}
theorem unr_mono {L : Addr} {s₁ s₂ : Shared} {its : List (Addr × Obj)} {r r' : (Str → Option Value) → List (Addr × Obj) → Prop} {f : Flow} (h : ∀ m n, r m n → r' m n) (x : UnrPostW h₀ L s₁ its r Q f s₂) : UnrPostW h₀ L s₁ its r' Q f s₂ := by
  have key : UnrEndW h₀ L s₁ its r s₂ → UnrEndW h₀ L s₁ its r' s₂ := fun ⟨h', tk, m', news', e, F, N, o, x⟩ => ⟨h', tk, m', news', e, F, N, o, h _ _ x⟩
  cases f with
  | ret v => exact x
  | brk => exact x
  | next => exact key x
  | cont => exact key x
theorem unr_mono2 {L : Addr} {s₁ s₂ : Shared} {its : List (Addr × Obj)} {r r' : (Str → Option Value) → List (Addr × Obj) → Prop} {f : Flow} (h : ∀ m n, (∀ p ∈ n, ∀ q ∈ its, p.1 ≠ q.1) → r m n → r' m n) (x : UnrPostW h₀ L s₁ its r Q f s₂) : UnrPostW h₀ L s₁ its r' Q f s₂ := by
  have key : UnrEndW h₀ L s₁ its r s₂ → UnrEndW h₀ L s₁ its r' s₂ := fun ⟨h', tk, m', news', e, F, N, o, x⟩ => ⟨h', tk, m', news', e, F, N, o, h _ _ o x⟩
  cases f with
  | ret v => exact x
  | brk => exact x
  | next => exact key x
  | cont => exact key x
theorem items_inv {ws : List (Addr × String)} {keep : List (Addr × Obj)} (J : List Itm → (Str → Option Value) → List (Addr × Obj) → Prop)
    (hend : ∀ m news h tk, J [] m news → Fr h₀ env.locals h m → News h₀ env.locals h news → Q .next { s with heap := h, toks := tk })
    (hstep : ∀ a r m news v h tk, J (a :: r) m news → a.Is v h → Fr h₀ env.locals h m → AllObj ws (fun its => News h₀ env.locals h (its ++ news) →
      wpAny (model prog w) A (assign target env v) (fun _ s₂ => wpAny (model prog w) A (execs body env) (UnrPostW h₀ env.locals { s with heap := h, toks := tk } its (fun m' n' => SubL keep n' ∧ J r m' n') Q) E s₂) E { s with heap := h, toks := tk })) :
    ∀ (xs : List Itm) (m : Str → Option Value) (news : List (Addr × Obj)), J xs m news → ItemsRest prog w A E h₀ env target body Q s ws keep xs m news
  | [], m, news, h => fun h' tk F N => hend m news h' tk h F N
  | a :: r, m, news, h => fun v h' tk hv F => allobj_mono (fun its x N => wpAny_mono (x N) (fun _ s₂ y => wpAny_mono y (fun f s₃ p => unr_mono (fun m' n' q => ⟨q.1, items_inv J hend hstep r m' n' q.2⟩) p) fun _ _ e => e) fun _ _ e => e) (hstep a r m news v h' tk h hv F)
theorem vals_inv {ws : List (Addr × String)} {keep : List (Addr × Obj)} (J : List Value → (Str → Option Value) → List (Addr × Obj) → Prop)
    (hend : ∀ m news h tk, J [] m news → Fr h₀ env.locals h m → News h₀ env.locals h news → Q .next { s with heap := h, toks := tk })
    (hstep : ∀ v r m news h tk, J (v :: r) m news → Fr h₀ env.locals h m → AllObj ws (fun its => News h₀ env.locals h (its ++ news) →
      wpAny (model prog w) A (assign target env v) (fun _ s₂ => wpAny (model prog w) A (execs body env) (UnrPostW h₀ env.locals { s with heap := h, toks := tk } its (fun m' n' => SubL keep n' ∧ J r m' n') Q) E s₂) E { s with heap := h, toks := tk })) :
    ∀ (vs : List Value) (m : Str → Option Value) (news : List (Addr × Obj)), J vs m news → ItemsRest prog w A E h₀ env target body Q s ws keep (vs.map .val) m news
  | [], m, news, h => fun h' tk F N => hend m news h' tk h F N
  | a :: r, m, news, h => fun v h' tk hv F => by
    have e : v = a := hv
    subst e
    exact allobj_mono (fun its x N => wpAny_mono (x N) (fun _ s₂ y => wpAny_mono y (fun f s₃ p => unr_mono (fun m' n' q => ⟨q.1, vals_inv J hend hstep r m' n' q.2⟩) p) fun _ _ e => e) fun _ _ e => e) (hstep v r m news h' tk h F)
/-- enumerate over a list; the loop leaves the ledger alone -/
theorem enum_inv {elts : List Expr} {k : Nat} {pos : Pos} {l : Addr} {lo : Obj} {vs : List Value} {n : Nat} {m₀ : Str → Option Value} {news : List (Addr × Obj)} (J : Nat → (Str → Option Value) → Prop)
    (hh : A.handled = none) (F : Fr h₀ env.locals s.heap m₀) (N : News h₀ env.locals s.heap news) (hm : (l, lo) ∈ news) (hc : lo.cls = .type "list") (hd : lo.data = .seq vs.toArray n) (h0 : J 0 m₀)
    (hend : ∀ m h tk, J vs.length m → Fr h₀ env.locals h m → News h₀ env.locals h news → Q .next { s with heap := h, toks := tk })
    (hstep : ∀ i v m h tk T t I oe oi, vs[i]? = some v → J i m → IsTup h T #[.int (i : Int) t, v] → Fr h₀ env.locals h m → (∀ p ∈ news, p.1 < I) → News h₀ env.locals h ((I + 1, oe) :: (I, oi) :: news) →
      wpAny (model prog w) A (assign (.Tuple elts k pos) env (.ref T)) (fun _ s₂ => wpAny (model prog w) A (execs body env) (UnrPostW h₀ env.locals { s with heap := h, toks := tk } [(I + 1, oe), (I, oi)] (fun m' n' => n' = news ∧ J (i + 1) m') Q) E s₂) E { s with heap := h, toks := tk }) :
    wpAny (model prog w) A (call (.type "enumerate") [.ref l]) (fun xv s₁ => wpAny (model prog w) A (pyIter xv) (fun it s₂ => TurnsAt prog w A h₀ env (.Tuple elts k pos) body Q E it s₂) E s₁) E s := by
  refine ktu_enum hh F N hm hc hd rfl fun I hI => ?_
  refine items_inv (fun rem m n => n = news ∧ ∃ i, rem = enumItems i (vs.drop i) ∧ i ≤ vs.length ∧ J i m) ?_ ?_ _ _ _ ⟨rfl, 0, rfl, Nat.zero_le _, h0⟩
  · rintro m _ h tk ⟨rfl, i, hr, hi, hJ⟩ F N
    have hi' : i = vs.length := by
      cases hq : vs.drop i with
      | nil => have := List.drop_eq_nil_iff.mp hq; omega
      | cons v r => rw [hq] at hr; cases hr
    exact hend m h tk (hi' ▸ hJ) F N
  · rintro a r m _ v h tk ⟨rfl, i, hr, hi, hJ⟩ ha F
    cases hq : vs.drop i with
    | nil => rw [hq] at hr; cases hr
    | cons x rest =>
      rw [hq] at hr
      have hx : vs[i]? = some x := by rw [← List.head?_drop, hq]; rfl
      have hrest : vs.drop (i + 1) = rest := by rw [← List.tail_drop, hq]; rfl
      obtain ⟨rfl, rfl⟩ := List.cons.inj hr
      obtain ⟨T, t, rfl, hT⟩ := ha
      refine AllObj.cons fun oe _ => AllObj.cons fun oi _ => AllObj.nil fun N => ?_
      refine wpAny_mono (hstep i x m h tk T t I oe oi hx hJ hT F hI N) (fun _ s₂ y => wpAny_mono y (fun f s₃ p => unr_mono (fun m' n' q => ?_) p) fun _ _ e => e) fun _ _ e => e
      obtain ⟨rfl, q⟩ := q
      have hlt : i < vs.length := (List.getElem?_eq_some_iff.mp hx).1
      exact ⟨⟨hm, trivial⟩, rfl, i + 1, by rw [hrest], hlt, q⟩
end
local macro_rules | `(tactic| walk_at "exec For Tuple Call cons nil") => `(tactic| (with_reducible refine Stop.mk ?_))
local macro_rules | `(tactic| walk_at "call type:enumerate") => `(tactic| (with_reducible refine Stop.mk ?_))

theorem off_C5 : True := by
  w_top off
  exact True.intro
def upF : Nat → Str → List Str → List Str
  | 0, _, acc => acc
  | k + 1, y, acc => if y = PySem.Str.ofString "/" then acc else upF k (dnF y) (y :: acc)
def endsF : Nat → Str → Bool
  | 0, y => y == PySem.Str.ofString "/"
  | k + 1, y => y == PySem.Str.ofString "/" || (endsF k (dnF y) && decide (y.length ≤ 1000))
theorem ends_len : ∀ {k : Nat} {y : Str}, endsF k y = true → y.length ≤ 1000
  | 0, y, h => by have e : y = PySem.Str.ofString "/" := by simpa [endsF] using h
                  rw [e]; decide
  | k + 1, y, h => by
    simp only [endsF, Bool.or_eq_true, Bool.and_eq_true, decide_eq_true_eq, beq_iff_eq] at h
    rcases h with h | h
    · rw [h]; decide
    · exact h.2
theorem up_step {k : Nat} {y : Str} {acc : List Str} (hy : endsF k y = true) (hn : (y != PySem.Str.ofString "/") = true) :
    ∃ k', k = k' + 1 ∧ endsF k' (dnF y) = true ∧ upF k y acc = upF k' (dnF y) (y :: acc) := by
  have hne : y ≠ PySem.Str.ofString "/" := by simpa using hn
  cases k with
  | zero => exact absurd (by simpa [endsF] using hy) hne
  | succ k =>
    simp only [endsF, Bool.or_eq_true, Bool.and_eq_true, decide_eq_true_eq, beq_iff_eq] at hy
    exact ⟨k, rfl, (hy.resolve_left hne).1, by rw [upF, if_neg hne]⟩
theorem up_end {k : Nat} {y : Str} {acc : List Str} (hn : (y != PySem.Str.ofString "/") = false) : upF k y acc = acc := by
  have e : y = PySem.Str.ofString "/" := by simpa using hn
  cases k with
  | zero => rfl
  | succ k => rw [upF, if_pos e]
def upJ (y₀ : Str) (k : Nat) (m₁ : Str → Option Value) (news₁ : List (Addr × Obj)) : Prop :=
  ∃ (y : Str) (ty : Tok) (D : Addr) (vs : List Value) (acc : List Str) (ep : Nat), m₁ (PySem.Str.ofString "left") = some (.str y ty) ∧ m₁ (PySem.Str.ofString "told") = some (.ref D) ∧ news₁ = [(D, { cls := .type "list", data := .seq vs.toArray ep })] ∧ StrsAre vs acc ∧ endsF k y = true ∧ upF k y acc = upF 10 y₀ [] ∧ acc.length + k = 10
def keptF (x : Str) : Bool := !(PySem.Str.ofString "" == x || PySem.Str.ofString "." == x)
def normF (x : Str) : Str := PySem.Str.ofString "/" ++ Txt.join (PySem.Str.ofString "/") ((Txt.split x (PySem.Str.ofString "/")).filter keptF)
theorem c_folders : ∀ {w : World} {p : Program} {loose : List Str} {mean : ExcName → Option Value} {mg mb : Str → Option Value} {A : Around} {s : Shared} {R : Result → Shared → Prop} {x : Str} {t : Tok}
    (_ : (Mine.hd.heap_39 w.params).In s.heap) (_ : Top p loose mean mg mb s.heap) (_ : A.depth + 7 < recursionLimit) (_ : A.units + 19 < cLine) (_ : A.handled = none)
    (_ : x.length ≤ 1000) (_ : endsF 10 (normF x) = true)
    (_ : ∀ D vs n h' tk, Keep s.heap h' → h'.get? D = some { cls := .type "list", data := .seq vs.toArray n } → s.heap.get? D = none → StrsAre vs (upF 10 (normF x) []) → R (.ok (.ret (.ref D))) { s with heap := h', toks := tk }),
    codeAny (model PySem.Challenge.rw_in0137_01.row.prog w) A (.call (.ref 204) ⟨[.str x t], []⟩) R s := by
  k_fill
  intro w p loose mean mg mb A s R x t X T hd hu hh hx hw ret
  refine' enter_plain (binds := [("path", .str x t)]) X T.nolimit ?ho ?hcd ?hroom ?hbind ?hloc ?h ?hco ?hgen ?hk ?hcell
  case ho => k_is
  case hcd => k_is
  case hroom => omega
  case hbind => exact BindsTo.of_eq rfl
  case hloc => exact locs rfl
  case hco => rfl
  case hgen => rfl
  case hk => rfl
  case hcell => decide
  intro L' h₁ F' N'
  (try dsimp only)
  k_steps
  refine Stop.out ?_
  k_fold
  refine wpAny_ListComp_free (strP keptF) (fun v y => y = v) (cl := []) ?_ ?_ ?_ ?_ ?_ ?_
  · rfl
  · decide
  · rfl
  · decide
  · decide
  k_steps
  refine Stop.out ?_
  refine comp_vals (strP keptF) (fun v y => y = v) hh (by kmk_list) (by omega) ⟨?_⟩ ?_ ?_
  · intro C v s₃ m₃ E' hv Fc Nc hm
    obtain ⟨y, ty, rfl, hy⟩ := strs_mem (by assumption) hv
    have hn := Fc.ns
    clear Fc Nc
    k_steps
    refine notin_two fun h9 k9 => ?_
    k_steps
    all_goals (try k_data)
    exact ⟨_, _, rfl, k9⟩
  · intro C v s₃ m₃ E' hv hp Fc Nc hm
    obtain ⟨y, ty, rfl, hy⟩ := strs_mem (by assumption) hv
    have hn := Fc.ns
    clear Fc Nc
    k_steps
    all_goals (try k_data)
    exact ⟨_, _, rfl, fun _ _ e => e⟩
  · intro D' ys n' h' tk' k' hD' hn' hP'
    have hS := strs_filter keptF (by assumption : StrsAre _ (Txt.split x (PySem.Str.ofString "/")))
    rw [← paired_eq hP'] at hS
    have hwt := Nat.le_trans (wtF_filter keptF (Txt.split x (PySem.Str.ofString "/"))) (wt_split x _ (by decide))
    have Fn := Keep.fr k' (by assumption)
    have Nn := (new_entry k' (by assumption) (by assumption) hD' hn').1
    k_steps
    refine Stop.out ?_
    refine' While_inv (upJ (normF x)) (n₀ := 10) ?wF ?wN ?wJ ?wT ?wE
    case wF => assumption
    case wN => exact cb_drop (news := [_]) (by assumption) (fun p hp => by rw [List.mem_singleton.mp hp]; exact .tail _ (.tail _ (.head _)))
    case wE => passes_own
    case wJ => exact ⟨_, _, _, [], [], 0, rfl, rfl, rfl, .nil, hw, rfl, rfl⟩
    rintro k m₁ news₁ h₂ tk₂ Fw Nw ⟨y, ty, D, vs, acc, ep, e1, e2, rfl, hS, hy, hU, hL⟩
    replace Fw := fr_name2 Fw e1 e2
    have hvl : vs.length ≤ 10 := by rw [strs_len hS]; omega
    have hyl := ends_len hy
    k_steps
    · obtain ⟨k', rfl, g1, g2⟩ := up_step (acc := acc) hy (by assumption)
      exact WhileStep.intro (news₂ := [_]) (by assumption) (cb_drop (by assumption) (fun p hp => by rw [List.mem_singleton.mp hp]; exact .head _)) (Nat.lt_succ_self _) ⟨_, _, _, _, y :: acc, _, rfl, rfl, rfl, .cons _ _ hS, g1, g2 ▸ hU, by rw [List.length_cons]; omega⟩
    · rw [up_end (by assumption)] at hU
      rw [hU] at hS
      exact ret _ _ _ _ _ (Fr.keep Fw) (News.get Nw (.head _)) (News.fresh Nw (.head _)) hS
theorem s_folders {w : World} {p : Program} {loose : List Str} {mean : ExcName → Option Value} {mg mb : Str → Option Value} {A : Around} {E : Value → Shared → Prop} {s : Shared} {h₀ : Heap} {L : Addr} {m : Str → Option Value} {news : List (Addr × Obj)} {Q : Value → Shared → Prop} {x : Str} {t : Tok}
    (F : Fr h₀ L s.heap m) (N : News h₀ L s.heap news) (X : (Mine.hd.heap_39 w.params).In h₀) (T : Top p loose mean mg mb h₀) (hd : A.depth + 7 < recursionLimit) (hu : A.units + 19 < cLine) (hh : A.handled = none)
    (hx : x.length ≤ 1000) (hw : endsF 10 (normF x) = true)
    (h : ∀ D vs n h' tk, Fr h₀ L h' m → News h₀ L h' ((D, { cls := .type "list", data := .seq vs.toArray n }) :: news) → (∀ p ∈ news, p.1 ≠ D) → StrsAre vs (upF 10 (normF x) []) → Q (.ref D) { s with heap := h', toks := tk }) :
    wpAny (model PySem.Challenge.rw_in0137_01.row.prog w) A (call (.ref 204) [.str x t] []) Q E s :=
  wpAny_call (c_folders (X.keeps F.keep) (T.keeps F.keep) hd hu hh hx hw fun D vs n h' tk k hD hn hS => h D vs n h' tk (k.fr F) (new_entry k F N hD hn).1 (new_entry k F N hD hn).2 hS)
local macro_rules | `(tactic| walk_at "call ref") => `(tactic| (k_here; (with_reducible show wpAny _ _ (call (Value.ref 204) [Value.str _ _] []) _ _ _); (refine' s_folders ?k1 ?k2 ?k3 ?k4 ?k5 ?k6 ?k7 ?h0 ?h1 ?_; (case k1 => k_asm); (case k2 => k_asm); (case k3 => k_asm); (case k4 => k_asm); (case k5 => (simp only [depth_deeper, depth_in1]; omega)); (case k6 => (simp only [Around.deeper_units, Around.in1_units]; omega)); (case k7 => assumption); (case h0 => omega); (case h1 => assumption)); intro D' vs' n' h' tk' F' N' ne' hS'; (try k_sweep)))

theorem off_C6 : True := by
  w_top off
  exact True.intro
def keepF (x : Str) : Bool := x.length != 0 && x != PySem.Str.ofString "."
def lexOK : List Str → List Str → Bool
  | x :: xs, y :: ys => if x = y then lexOK xs ys else true
  | [], _ => true
  | _ :: _, [] => false
def cpF : List Str → List Str → List Str
  | x :: xs, y :: ys => if x = y then x :: cpF xs ys else []
  | _, _ => []
theorem lex_at : ∀ (i : Nat) {xs ys : List Str}, lexOK (xs.drop i) (ys.drop i) = true → i < xs.length → ∃ x y, xs[i]? = some x ∧ ys[i]? = some y ∧ (x = y → lexOK (xs.drop (i + 1)) (ys.drop (i + 1)) = true)
  | i, xs, ys, h, hi => by
    rw [List.drop_eq_getElem_cons hi] at h
    cases hq : ys.drop i with
    | nil => rw [hq] at h; exact absurd h (by simp [lexOK])
    | cons y r =>
      have hy : ys[i]? = some y := by rw [← List.head?_drop, hq]; rfl
      have hr : ys.drop (i + 1) = r := by rw [← List.tail_drop, hq]; rfl
      refine ⟨_, y, List.getElem?_eq_getElem hi, hy, fun e => ?_⟩
      rw [hq, lexOK, if_pos e] at h
      rw [hr]; exact h
theorem cp_at {i : Nat} {xs ys : List Str} {x y : Str} (hx : xs[i]? = some x) (hy : ys[i]? = some y) : cpF (xs.drop i) (ys.drop i) = if x = y then x :: cpF (xs.drop (i + 1)) (ys.drop (i + 1)) else [] := by
  obtain ⟨h1, e1⟩ := List.getElem?_eq_some_iff.mp hx
  obtain ⟨h2, e2⟩ := List.getElem?_eq_some_iff.mp hy
  rw [List.drop_eq_getElem_cons h1, List.drop_eq_getElem_cons h2, e1, e2]; rfl
theorem cp_end {i : Nat} {xs ys : List Str} (hi : i = xs.length) : cpF (xs.drop i) (ys.drop i) = [] := by
  rw [List.drop_eq_nil_of_le (by omega)]; cases ys.drop i <;> rfl
theorem take_succ {α : Type} {i : Nat} {xs : List α} {x : α} (hx : xs[i]? = some x) : xs.take (i + 1) = xs.take i ++ [x] := by
  rw [List.take_add_one, hx]; rfl
theorem strs_get : ∀ {vs : List Value} {xs : List Str} {i : Nat} {x : Str}, StrsAre vs xs → xs[i]? = some x → ∃ t, vs[i]? = some (.str x t)
  | _, _, 0, _, .cons y t r, h => ⟨t, by simp at h; simp [h]⟩
  | _, _, i + 1, _, .cons y t r, h => by
    obtain ⟨u, e⟩ := strs_get r (by simpa using h)
    exact ⟨u, by simpa using e⟩
theorem strs_get' {vs : List Value} {xs : List Str} {i : Nat} {v : Value} (h : StrsAre vs xs) (e : vs[i]? = some v) : ∃ x t, v = .str x t ∧ xs[i]? = some x := by
  have hi := (List.getElem?_eq_some_iff.mp e).1
  rw [strs_len h] at hi
  obtain ⟨t, e'⟩ := strs_get h (List.getElem?_eq_getElem hi)
  rw [e] at e'
  exact ⟨_, t, Option.some.inj e', List.getElem?_eq_getElem hi⟩
theorem item_at {prog : Program} {w : World} {A : Around} {E : Value → Shared → Prop} {s : Shared} {value slice : PySem.Expr} {l : Addr} {vs : List Value} {i : Nat} {u : Tok} {v : Value} {Q : Value → Shared → Prop}
    (hl : s.heap.IsList l vs.toArray) (hi : i ≤ 5000) (hx : vs[i]? = some v) (h : Q v s)
    (hs : subscripted slice false (.ref l) (.int (i : Int) u) = operate [.ref l, .int (i : Int) u] (getItem (.ref l) (.int (i : Int) u))) :
    wpAny (model prog w) A (subscriptTail value slice (.ref l) (.int (i : Int) u)) Q E s :=
  tail_any hl.typeIs slot_list_getitem.lookup (wpAny_getItem_list hl (by omega) (by omega) (by simpa using hx) h) hs
local macro_rules | `(tactic| walk_at "subscriptTail Name Name ref int") => `(tactic| (k_here; (with_reducible show wpAny _ _ (subscriptTail _ _ (Value.ref _) (Value.int _ _)) _ _ _); k_dflt (refine' item_at ?l ?i ?x ?_ ?s; (case l => kmk_list); (case i => omega); (case x => assumption); (case s => with_unfolding_all rfl))))
local macro_rules | `(tactic| walk_at "subscriptTail Name Slice ref ref") => `(tactic| (k_here; (with_reducible show wpAny _ _ (subscriptTail _ (PySem.Expr.Slice none _ none _) (Value.ref _) (Value.ref _)) _ _ _); k_dflt (refine' slice_upto_K ?F ?N ?l ?z ?_ ?s ?t; (case F => k_asm); (case N => k_asm); (case l => kmk_list); (case z => omega); (case s => with_unfolding_all rfl); (case t => kmk_pure)); intro D' h' F' N' l1; (try k_lt l1); (try k_sweep)))
theorem fr_name4 {h₀ h : Heap} {L : Addr} {m : Str → Option Value} {x y z q : Str} {v u w r : Value} (F : Fr h₀ L h m) (e : m x = some v) (e2 : m y = some u) (e3 : m z = some w) (e4 : m q = some r) (h1 : y ≠ x := by decide) (h2 : z ≠ y := by decide) (h3 : z ≠ x := by decide) (h4 : q ≠ x := by decide) (h5 : q ≠ y := by decide) (h6 : q ≠ z := by decide) :
    Fr h₀ L h (fun k => if k = q then some r else if k = z then some w else if k = y then some u else if k = x then some v else m k) := fr_name (fr_name3 F e e2 e3 h1 h2 h3) (by rw [if_neg h6, if_neg h5, if_neg h4]; exact e4)
theorem wtF_take (i : Nat) (xs : List Str) : wtF (xs.take i) ≤ wtF xs := by
  have h := wtF_append (xs.take i) (xs.drop i)
  rw [List.take_append_drop] at h
  omega
def cmpF (xs : List Str) : List (List Str) := xs.map fun y => (Txt.split y (PySem.Str.ofString "/")).filter keepF
def loF : List (List Str) → List Str
  | [] => []
  | a :: r => bestL ltL a r
def hiF : List (List Str) → List Str
  | [] => []
  | a :: r => bestL gtL a r
def comF (xs : List Str) : Str := PySem.Str.ofString "/" ++ Txt.join (PySem.Str.ofString "/") (cpF (loF (cmpF xs)) (hiF (cmpF xs)))
theorem splits_of : ∀ {vs : List Value} {xs : List Str}, StrsAre vs xs → ∀ {xss : List (List Str)}, Paired (fun v zs => ∃ y t, v = .str y t ∧ zs = Txt.split y (PySem.Str.ofString "/")) vs xss → xss = xs.map fun y => Txt.split y (PySem.Str.ofString "/")
  | _, _, .nil, _, .nil => rfl
  | _, _, .cons y t r, _, .cons h hr => by
    obtain ⟨z, u, e, rfl⟩ := h
    cases e
    rw [List.map_cons, splits_of r hr]
theorem c_common : ∀ {w : World} {p : Program} {loose : List Str} {mean : ExcName → Option Value} {mg mb : Str → Option Value} {A : Around} {s : Shared} {R : Result → Shared → Prop} {l : Addr} {x₀ : Str} {t₀ : Tok} {vs : List Value} {xs : List Str}
    (_ : (Mine.hd.heap_39 w.params).In s.heap) (_ : Top p loose mean mg mb s.heap) (_ : A.depth + 9 < recursionLimit) (_ : A.units + 29 < cLine) (_ : A.handled = none)
    (_ : s.heap.IsList l (List.toArray (Value.str x₀ t₀ :: vs))) (_ : StrsAre (Value.str x₀ t₀ :: vs) (x₀ :: xs)) (_ : (Value.str x₀ t₀ :: vs).length ≤ 1000) (_ : ∀ x ∈ (x₀ :: xs), x.length ≤ 1000) (_ : ∀ x ∈ (x₀ :: xs), Txt.startswith x (PySem.Str.ofString "/") = true) (_ : lexOK (loF (cmpF (x₀ :: xs))) (hiF (cmpF (x₀ :: xs))) = true) (_ : wtF (loF (cmpF (x₀ :: xs))) ≤ 5000) (_ : (hiF (cmpF (x₀ :: xs))).length ≤ 5000)
    (_ : ∀ t h' tk, Keep s.heap h' → R (.ok (.ret (.str (comF (x₀ :: xs)) t))) { s with heap := h', toks := tk }),
    codeAny (model PySem.Challenge.rw_in0137_01.row.prog w) A (.call (.ref 120) ⟨[.ref l], []⟩) R s := by
  k_fill
  intro w p loose mean mg mb A s R l x₀ t₀ vs xs X T hd hu hh hl hvs hz hx hs hlx hwt hwh ret
  refine' enter_cells (binds := [("paths", .ref l)]) X T.nolimit ?ho ?hcd ?hroom ?hbind ?hkind ?hnd ?h ?hco ?hgen ?hk
  case ho => k_is
  case hcd => k_is
  case hroom => omega
  case hbind => exact BindsTo.of_eq rfl
  case hkind => rfl
  case hnd => decide +kernel
  case hco => rfl
  case hgen => rfl
  case hk => rfl
  intro L' h₁ tk' cells F' N' Y'
  k_cells Y'
  try simp only [List.cons_append, List.nil_append] at N'
  (try dsimp only)
  k_steps
  refine Stop.out ?_
  k_fold
  refine Assign_comp (cl := [(PySem.Str.ofString "sep", _)]) (by rfl) (by rfl) rfl (by decide) ?_ (by intro _; rfl)
  k_steps
  refine Stop.out ?_
  refine assign_lists (fun v zs => ∃ y t, v = .str y t ∧ zs = Txt.split y (PySem.Str.ofString "/")) hh (by assumption) (by assumption) (Or.inr (News.isTup (by assumption) (by k_mem))) (by omega) (by decide) rfl (by decide) (by rfl) (by rfl) ?_ (fun _ => splits_of hvs) ?_
  · intro C v s₃ m₃ E' hv Fc hm
    obtain ⟨y, ty, rfl, hy⟩ := strs_mem hvs hv
    have hyl := hx y hy
    have hn := Fc.ns
    have hcell := fun b o e => Fc.keep b o (News.get (by assumption) e)
    clear Fc
    k_steps
    refine' Stop.out (name_cell (o := ?o0) (v := ?v0) (hcell _ _ ?a0) ?b0 ?_ (by rfl) (by rfl) (by rfl) (by rfl))
    case a0 => k_mem
    case b0 => assumption
    k_steps
    exact split_raw (by decide) (by omega) fun D vs' h' k kp hD hl' hS => ⟨⟨D, _, rfl, hD, hl', _, hS, _, _, rfl, rfl⟩, _, _, rfl, kp⟩
  · intro D ys n ls h' tk F' N' hls
    k_steps
    refine Stop.out ?_
    k_fold
    refine SetComp_open (cl := [(PySem.Str.ofString "sep", _)]) (by rfl) rfl (by decide) ?_ (by intro _; rfl)
    k_steps
    refine Stop.out ?_
    refine set_true rfl hh (Or.inr (News.isTup (by assumption) (by k_mem))) (by rw [List.length_cons]; omega) (by decide) rfl (by decide) ?_ ?_
    · intro C v s₃ m₃ E' hv Fc hm
      obtain ⟨y, ty, rfl, hy⟩ := strs_mem hvs hv
      have hyl := hx y hy
      have hn := Fc.ns
      have hcell := fun b o e => Fc.keep b o (News.get (by assumption) e)
      clear Fc
      k_steps
      refine' Stop.out (name_cell (o := ?o1) (v := ?v1) (hcell _ _ ?a1) ?b1 ?_ (by rfl) (by rfl) (by rfl) (by rfl))
      case a1 => k_mem
      case b1 => assumption
      k_steps
      · rw [hs y hy]
      · exact ⟨_, _, rfl, fun _ _ e => e⟩
    · intro D' h' tk k hD' hD''
      replace F' := k.fr F'
      replace N' := k.news N'
      clear k
      refine Stop.mk ?_
      refine Stop.out (assign_set1 rfl hh hD'' fun h' tk k => ?_)
      replace F' := k.fr F'
      replace N' := k.news N'
      clear k hD' hD''
      k_steps
      refine Stop.out ?_
      k_fold
      refine Assign_comp (cl := [(PySem.Str.ofString "curdir", _)]) (by rfl) (by rfl) rfl (by decide) ?_ (by intro _; rfl)
      k_steps
      refine Stop.out ?_
      have hu : ∀ T o o', (T, o) ∈ ls → (T, o') ∈ ls → o = o' := fun T o o' h1 h2 => Option.some.inj ((News.get (by assumption) (.tail _ (mem_right h1))).symm.trans (News.get (by assumption) (.tail _ (mem_right h2))))
      refine assign_lists (filtOf ls keepF) hh (by assumption) (by assumption) (Or.inl (News.isList (by assumption) (by k_mem))) (by have h1 := hls.len; have h2 := strs_len hvs; simp only [List.length_map, List.length_cons] at h1 h2 hz; omega) (by decide) rfl (by decide) (by rfl) (by rfl) ?_ (fun _ => lsts_filt hu hls (fun _ h => h)) ?_
      · intro C v s₃ m₃ E' hv Fc hm
        obtain ⟨T, o, its, n, xs', ev, hT, ho, hd, hS, hxs⟩ := hls.mem hv
        rw [ev] at hm
        obtain ⟨y, hy, rfl⟩ := List.mem_map.mp hxs
        have hyl := hx y hy
        have hlen := Nat.le_trans (wtF_len _) (wt_split y (PySem.Str.ofString "/") (by decide))
        rw [← strs_len hS] at hlen
        have hn := Fc.ns
        have hcell := fun b o e => Fc.keep b o (News.get (by assumption) e)
        clear Fc
        have hcd := hcell _ _ (.tail _ (List.mem_append_left _ (.tail _ (.head _))))
        have hlT : s₃.heap.IsList T its.toArray := ⟨o, hcell _ _ (.tail _ (mem_right hT)), ho, n, hd⟩
        k_steps
        refine Stop.out ?_
        refine wpAny_ListComp_free (strP keepF) (fun v y => y = v) (cl := [(PySem.Str.ofString "curdir", L' + 1 + 1)]) ?_ ?_ ?_ ?_ ?_ ?_
        · rfl
        · decide
        · rfl
        · decide
        · decide
        k_steps
        refine Stop.out ?_
        refine comp_vals (Q := fun u s₄ => (∃ T its, u = Value.ref T ∧ s₃.heap.get? T = none ∧ s₄.heap.IsList T its ∧ ∃ xs, StrsAre its.toList xs ∧ filtOf ls keepF v xs) ∧ Keeps s₃ s₄) (strP keepF) (fun v y => y = v) (by exact hh) hlT (by omega) ⟨?_⟩ ?_ ?_
        · intro C v s₃ m₃ E' hv Fc Nc hm
          obtain ⟨z, tz, rfl, hz⟩ := strs_mem hS hv
          have hzl := Nat.le_trans (wtF_mem hz) (wt_split y (PySem.Str.ofString "/") (by decide))
          have hn := Fc.ns
          have hcd' := Fc.keep _ _ hcd
          clear Fc Nc
          k_steps
          · refine Stop.out (name_cell hcd' (by assumption) ?_ (by rfl) (by rfl) (by rfl) (by rfl))
            k_steps
            · have e1 : (z.length != 0) = true := bne_iff_ne.mpr (by omega)
              have e2 : (z != PySem.Str.ofString ".") = true := by assumption
              rw [strP, keepF, e1, e2]; rfl
            · exact ⟨_, _, rfl, fun _ _ e => e⟩
            · have e2 : (z != PySem.Str.ofString ".") = false := by assumption
              rw [strP, keepF, e2, Bool.and_false]
            · exact ⟨_, _, rfl, fun _ _ e => e⟩
          · have e1 : z.length = 0 := by omega
            rw [strP, keepF, e1]; rfl
          · exact ⟨_, _, rfl, fun _ _ e => e⟩
        · intro C v s₃ m₃ E' hv hp Fc Nc hm
          obtain ⟨y, ty, rfl, hy⟩ := strs_mem hS hv
          have hn := Fc.ns
          clear Fc Nc
          k_steps
          all_goals (try k_data)
          exact ⟨_, _, rfl, fun _ _ e => e⟩
        · intro D' ys n' h' tk' k' hD' hn' hP'
          have hS' := strs_filter keepF hS
          rw [← paired_eq hP'] at hS'
          exact ⟨⟨D', _, rfl, hn', ⟨_, hD', rfl, _, rfl⟩, _, by rw [List.toList_toArray]; exact hS', ⟨T, o, its, n, _, ev, hT, hd, hS, rfl⟩⟩, _, _, rfl, k'⟩
      · intro D ys n ls h' tk F' N' hls
        k_steps
        refine min_K (xs₀ := (Txt.split x₀ (PySem.Str.ofString "/")).filter keepF) (xss := (xs.map fun y => Txt.split y (PySem.Str.ofString "/")).map (List.filter keepF)) hh ?mu (by assumption) (by assumption) (.head _) hls (fun p hp => .tail _ (mem_right hp)) ?_
        case mu => (simp only [Around.deeper_units]; omega)
        intro T1 o1 its1 k1 h1' tk1 hT1 ho1 hd1 hS1 F' N'
        k_steps
        refine max_K (xs₀ := (Txt.split x₀ (PySem.Str.ofString "/")).filter keepF) (xss := (xs.map fun y => Txt.split y (PySem.Str.ofString "/")).map (List.filter keepF)) hh ?mu2 (by assumption) (by assumption) (.head _) hls (fun p hp => .tail _ (mem_right hp)) ?_
        case mu2 => (simp only [Around.deeper_units]; omega)
        intro T2 o2 its2 k2 h2' tk2 hT2 ho2 hd2 hS2 F' N'
        have hmm : ∀ zs, ((xs.map fun y => Txt.split y (PySem.Str.ofString "/")).map (List.filter keepF)) = zs → zs = cmpF xs := fun zs e => by rw [← e, cmpF, List.map_map]; rfl
        rw [hmm _ rfl] at hS1 hS2
        have hlx' : lexOK (bestL ltL ((Txt.split x₀ (PySem.Str.ofString "/")).filter keepF) (cmpF xs)) (bestL gtL ((Txt.split x₀ (PySem.Str.ofString "/")).filter keepF) (cmpF xs)) = true := hlx
        have hwt' : wtF (bestL ltL ((Txt.split x₀ (PySem.Str.ofString "/")).filter keepF) (cmpF xs)) ≤ 5000 := hwt
        have hwh' : (bestL gtL ((Txt.split x₀ (PySem.Str.ofString "/")).filter keepF) (cmpF xs)).length ≤ 5000 := hwh
        have hcom : comF (x₀ :: xs) = PySem.Str.ofString "/" ++ Txt.join (PySem.Str.ofString "/") (cpF (bestL ltL ((Txt.split x₀ (PySem.Str.ofString "/")).filter keepF) (cmpF xs)) (bestL gtL ((Txt.split x₀ (PySem.Str.ofString "/")).filter keepF) (cmpF xs))) := rfl
        rw [hcom] at ret
        generalize bestL ltL ((Txt.split x₀ (PySem.Str.ofString "/")).filter keepF) (cmpF xs) = lo at *
        generalize bestL gtL ((Txt.split x₀ (PySem.Str.ofString "/")).filter keepF) (cmpF xs) = hi at *
        obtain ⟨c1, e1, dt1, sl1⟩ := o1
        cases ho1
        cases hd1
        obtain ⟨c2, e2, dt2, sl2⟩ := o2
        cases ho2
        cases hd2
        have N'' : News s.heap L' h2' ((T1, { cls := .type "list", dict := e1, data := .seq its1.toArray k1, slots := sl1 }) :: (T2, { cls := .type "list", dict := e2, data := .seq its2.toArray k2, slots := sl2 }) :: _) := fun p hp => by
          rcases List.mem_cons.mp hp with rfl | hp
          · exact N' _ (.tail _ (mem_right hT1))
          · rcases List.mem_cons.mp hp with rfl | hp
            · exact N' _ (.tail _ (mem_right hT2))
            · exact N' _ hp
        clear N'
        have N' := N''
        clear N''
        k_steps
        refine Stop.out ?_
        have hl1 : its1.length ≤ 5000 := by rw [strs_len hS1]; exact Nat.le_trans (wtF_len _) hwt'
        have hl2 : its2.length ≤ 5000 := by rw [strs_len hS2]; exact hwh'
        refine For_turns (by assumption) ?_
        k_steps
        refine Stop.out ?_
        refine enum_inv (fun i m => m (PySem.Str.ofString "common") = some (.ref T1) ∧ m (PySem.Str.ofString "s1") = some (.ref T1) ∧ m (PySem.Str.ofString "s2") = some (.ref T2) ∧ m (PySem.Str.ofString "isabs") = some (.bool true) ∧ lexOK (lo.drop i) (hi.drop i) = true ∧ cpF lo hi = lo.take i ++ cpF (lo.drop i) (hi.drop i)) hh (by assumption) (by assumption) (.head _) rfl rfl ⟨rfl, rfl, rfl, rfl, hlx', rfl⟩ ?_ ?_
        · rintro m h3 tk3 ⟨m1, m2, m3, m4, _, m6⟩ F3 N3
          replace F3 := fr_name2 F3 m1 m4
          rw [cp_end (strs_len hS1)] at m6
          have hcl : cpF lo hi = lo := by rw [m6, List.append_nil, List.take_of_length_le (by rw [strs_len hS1]; exact Nat.le_refl _)]
          rw [hcl] at ret
          k_steps
          exact ret _ _ _ (Fr.keep (by assumption))
        · rintro i v m h3 tk3 T t I oe oi hv ⟨m1, m2, m3, m4, m5, m6⟩ hT F3 hI N3
          replace F3 := fr_name4 F3 m1 m2 m3 m4
          obtain ⟨x, tx, rfl, hxi⟩ := strs_get' hS1 hv
          have hil : i < lo.length := (List.getElem?_eq_some_iff.mp hxi).1
          obtain ⟨x', y, g1, g2, g3⟩ := lex_at i m5 hil
          obtain ⟨ty, hy2⟩ := strs_get hS2 g2
          have hi5 : i ≤ 5000 := by rw [strs_len hS1] at hl1; omega
          rw [hxi] at g1
          cases g1
          rw [cp_at hxi g2] at m6
          refine unpackN_ F3 N3 hT hh rfl rfl (fun h4 F4 N4 => ?_)
          dsimp only [assignEach, List.map]
          have hTk := strs_take i hS1
          have hwk : wtF (lo.take i) ≤ 5000 := Nat.le_trans (wtF_take i lo) hwt'
          k_steps
          · have hne : x ≠ y := by simpa using (by assumption : (x != y) = true)
            rw [if_neg hne, List.append_nil] at m6
            rw [m6] at ret
            exact ret _ _ _ (Fr.keep (by assumption))
          · have heq : x = y := by simpa using (by assumption : (x != y) = false)
            rw [if_pos heq] at m6
            refine ⟨_, _, _, _, rfl, (by assumption), (by assumption), fun p hp q hq => ?_, rfl, rfl, rfl, rfl, rfl, g3 heq, ?_⟩
            · rcases List.mem_cons.mp hq with rfl | hq
              · exact Nat.ne_of_lt (Nat.lt_succ_of_lt (hI p hp))
              · rw [List.mem_singleton.mp hq]; exact Nat.ne_of_lt (hI p hp)
            · rw [m6, take_succ hxi, List.append_assoc]; rfl

theorem off_G1 : True := by
  w_top off
  exact True.intro
/-- a heap without the objects at some addresses -/
def hide (h : Heap) (S : List Addr) : Heap := ⟨h.objs.mapIdx fun i o => if i ∈ S then { o with data := .freed } else o, h.life⟩
theorem size_hide (h : Heap) (S : List Addr) : (hide h S).objs.size = h.objs.size := by simp [hide]
theorem get_hide (h : Heap) (S : List Addr) (b : Addr) : (hide h S).get? b = if b ∈ S then none else h.get? b := by
  have e : (hide h S).objs[b]? = (h.objs[b]?).map fun o => if b ∈ S then { o with data := .freed } else o := by
    simp [hide, Array.getElem?_mapIdx]
  unfold Heap.get?
  rw [e]
  by_cases hb : b ∈ S
  · rw [if_pos hb]
    cases h.objs[b]? with
    | none => rfl
    | some o => simp [hb]
  · rw [if_neg hb]
    cases h.objs[b]? with
    | none => rfl
    | some o => simp [hb]
theorem keep_hide (h : Heap) (S : List Addr) : Keep (hide h S) h := fun b o e => by
  rw [get_hide] at e
  split at e
  · cases e
  · exact e
theorem hide_none {h : Heap} {S : List Addr} {b : Addr} (hb : b ∈ S) : (hide h S).get? b = none := by rw [get_hide, if_pos hb]
theorem hide_some {h : Heap} {S : List Addr} {b : Addr} {o : Obj} (hb : b ∉ S) (e : h.get? b = some o) : (hide h S).get? b = some o := by rw [get_hide, if_neg hb]; exact e
/-- objects apart from the ground -/
def Apart (g h : Heap) (tl : List (Addr × Obj)) : Prop := ∀ p ∈ tl, h.get? p.1 = some p.2 ∧ g.get? p.1 = none
theorem Apart.keep {g h h' : Heap} {tl : List (Addr × Obj)} (a : Apart g h tl) (k : Keep h h') : Apart g h' tl := fun p hp => ⟨k _ _ (a p hp).1, (a p hp).2⟩
theorem News.apart' {h₀ h : Heap} {L : Addr} {tl : List (Addr × Obj)} (N : News h₀ L h tl) : Apart h₀ h tl := fun p hp => ⟨(N p hp).1, (N p hp).2.2⟩
section
variable {prog : Program} {w : World} {A : Around} {s : Shared} {K : Frag} {R : Result → Shared → Prop} {name qual : Str} {params : Arguments} {body : List Stmt} {scope : Scope} {dV kV doc pm cdv ct oc : Value} {an od : Option Addr} {osl : Array (Option Value)} {f : Addr} {args : Args} {binds : List (Str × Value)} {g : Heap} {tl : List (Addr × Obj)}
theorem fr_sub {h : Heap} {L : Addr} {m : Str → Option Value} {h₀ : Heap} (F : Fr h₀ L h m) (hg : Keep g h₀) (hsz : g.objs.size ≤ h₀.objs.size) : Fr g L h m := ⟨F.ns, fun b o e => F.keep b o (hg b o e), Nat.le_trans hsz F.above⟩
/-- entering a def, some objects told apart from the ground -/
theorem enter_g (hg : Keep g s.heap) (hsz : g.objs.size ≤ s.heap.objs.size) (hap : Apart g s.heap tl) (X : K.In g) (hlim : g.NoLimit)
    (ho : K.lookup f = some ⟨oc, od, .func (fnOf name qual params body scope dV kV doc pm an cdv ct), osl⟩) (hcd : codeIn K cdv qual = true) (hroom : A.depth < recursionLimit)
    (hbind : BindsTo s (fnOf name qual params body scope dV kV doc pm an cdv ct) args binds) (hloc : ∀ y ∈ binds, scope.names.lookup y.1 = some .local)
    (h : ∀ L' h₁, Fr g L' h₁ (fun y => binds.reverse.lookup y) → News g L' h₁ tl → (∀ p ∈ tl, p.1 < L') →
      wpAny (model prog w) (A.deeper (envOf qual scope L' f cdv)) (execs body (envOf qual scope L' f cdv))
        (fun fl s' => R (.ok (.ret (match fl with | .ret v => v | _ => .none))) s') (fun _ _ => False)
        { s with heap := h₁, toks := s.toks + binds.length })
    (hco : scope.isCoroutine = false) (hgen : scope.isGenerator = false) (hk : scope.kind = .function)
    (hcell : ∀ x ∈ scope.names, x.2 ≠ .cell) : codeAny (model prog w) A (.call (.ref f) args) R s := by
  refine enter_plain (X.keeps hg) (hlim.keeps hg) ho hcd hroom hbind hloc (fun L' h₁ F N => ?_) hco hgen hk hcell
  have hlt : ∀ p ∈ tl, p.1 < L' := fun p hp => Nat.lt_of_lt_of_le (Heap.lt_size (hap p hp).1) F.above
  exact h L' h₁ (fr_sub F hg hsz) (fun p hp => ⟨F.keep _ _ (hap p hp).1, Nat.ne_of_lt (hlt p hp), (hap p hp).2⟩) hlt
theorem enter_cells_g (hg : Keep g s.heap) (hsz : g.objs.size ≤ s.heap.objs.size) (hap : Apart g s.heap tl) (X : K.In g) (hlim : g.NoLimit)
    (ho : K.lookup f = some ⟨oc, od, .func (fnOf name qual params body scope dV kV doc pm an cdv ct), osl⟩) (hcd : codeIn K cdv qual = true) (hroom : A.depth < recursionLimit)
    (hbind : BindsTo s (fnOf name qual params body scope dV kV doc pm an cdv ct) args binds) (hkind : (binds.all fun y => scope.names.lookup y.1 == some .local || scope.names.lookup y.1 == some .cell) = true)
    (hnd : ((cellsFrom 0 scope.names []).map (·.1)).Nodup)
    (h : ∀ L' h₁ tk cells, Fr g L' h₁ (bindL (envOfC qual scope L' f cdv).kindOf binds fun _ => none) → News g L' h₁ cells → News g L' h₁ tl → (∀ p ∈ tl, p.1 < L') →
      CellsAre (bindC (envOfC qual scope L' f cdv).kindOf binds fun _ => none) (cellsFrom (L' + 1) scope.names []) cells →
      wpAny (model prog w) (A.deeper (envOfC qual scope L' f cdv)) (execs body (envOfC qual scope L' f cdv))
        (fun fl s' => R (.ok (.ret (match fl with | .ret v => v | _ => .none))) s') (fun _ _ => False)
        { s with heap := h₁, toks := tk })
    (hco : scope.isCoroutine = false) (hgen : scope.isGenerator = false) (hk : scope.kind = .function) : codeAny (model prog w) A (.call (.ref f) args) R s := by
  refine enter_cells (X.keeps hg) (hlim.keeps hg) ho hcd hroom hbind hkind hnd (fun L' h₁ tk cells F N Y => ?_) hco hgen hk
  have hlt : ∀ p ∈ tl, p.1 < L' := fun p hp => Nat.lt_of_lt_of_le (Heap.lt_size (hap p hp).1) F.above
  refine h L' h₁ tk cells (fr_sub F hg hsz) (fun p hp => ⟨(N p hp).1, (N p hp).2.1, ?_⟩) (fun p hp => ⟨F.keep _ _ (hap p hp).1, Nat.ne_of_lt (hlt p hp), (hap p hp).2⟩) hlt Y
  cases q : g.get? p.1 with
  | none => rfl
  | some o => have := (N p hp).2.2; rw [hg _ _ q] at this; cases this
end
/-- what a call may do that minds the ground: the caller's side -/
theorem ground_of {h₀ h : Heap} {L : Addr} {m : Str → Option Value} {news tl : List (Addr × Obj)} (F : Fr h₀ L h m) (N : News h₀ L h news) (hsub : ∀ p ∈ tl, p ∈ news) :
    ∃ g, Keep g h ∧ g.objs.size ≤ h.objs.size ∧ Apart g h tl ∧ Keep h₀ g ∧
      (∀ h' keep, Keep g h' → (∀ p ∈ keep, p ∈ news ∧ ∀ q ∈ tl, p.1 ≠ q.1) → Fr h₀ L h' m ∧ News h₀ L h' keep) ∧
      (∀ tl' h', Keep g h' → Apart g h' tl' → News h₀ L h' tl') ∧ (∀ b o, (∀ q ∈ tl, b ≠ q.1) → h.get? b = some o → g.get? b = some o) := by
  have hno : ∀ b, b ∈ tl.map (·.1) → ∃ p ∈ tl, p.1 = b := fun b hb => by simpa using hb
  have up : ∀ b o, (∀ q ∈ tl, b ≠ q.1) → h.get? b = some o → (hide h (tl.map (·.1))).get? b = some o := fun b o hb e => hide_some (fun hm => let ⟨p, hp, e⟩ := hno b hm; hb p hp e.symm) e
  obtain ⟨oL, a1, a2, hoL, a3⟩ := F.ns
  have hL := up L oL (fun q hq e => (N _ (hsub q hq)).2.1 e.symm) hoL
  have k0 : Keep h₀ (hide h (tl.map (·.1))) := fun b o e => up b o (fun q hq e' => by have := (N _ (hsub q hq)).2.2; rw [← e', e] at this; cases this) (F.keep b o e)
  refine ⟨hide h (tl.map (·.1)), keep_hide _ _, Nat.le_of_eq (size_hide _ _), fun p hp => ⟨(N p (hsub p hp)).1, hide_none (List.mem_map.mpr ⟨p, hp, rfl⟩)⟩, k0, fun h' keep k hk => ⟨⟨⟨oL, a1, a2, k _ _ hL, a3⟩, fun b o e => k _ _ (k0 b o e), F.above⟩, fun p hp => ⟨k _ _ (up _ _ (hk p hp).2 (N p (hk p hp).1).1), (N p (hk p hp).1).2⟩⟩, fun tl' h' k ha p hp => ⟨(ha p hp).1, fun e => ?_, ?_⟩, up⟩
  · have := (ha p hp).2
    rw [e, hL] at this
    cases this
  · cases q : h₀.get? p.1 with
    | none => rfl
    | some o => have := (ha p hp).2; rw [k0 _ _ q] at this; cases this
theorem apart3 {g h : Heap} {a b c : Addr} {oa ob oc : Obj} {p q r : Prop} (x : h.get? a = some oa ∧ p ∧ g.get? a = none) (y : h.get? b = some ob ∧ q ∧ g.get? b = none) (z : h.get? c = some oc ∧ r ∧ g.get? c = none) : Apart g h [(a, oa), (b, ob), (c, oc)] := fun k hk => by
  rcases List.mem_cons.mp hk with rfl | hk
  · exact ⟨x.1, x.2.2⟩
  rcases List.mem_cons.mp hk with rfl | hk
  · exact ⟨y.1, y.2.2⟩
  rw [List.mem_singleton.mp hk]
  exact ⟨z.1, z.2.2⟩

theorem off_G0 : True := by
  w_top off
  exact True.intro
section
open PyProof.Rows PySem.W
theorem adjust_init (n : Nat) (hn : 1 ≤ n) : Builtin.Slice.sliceAdjust none (some (-1)) 1 (n : Int) = (0, ((n - 1 : Nat) : Int)) := by
  unfold Builtin.Slice.sliceAdjust
  have h1 : ¬ ((1 : Int) < 0) := by omega
  have h2 : ((-1 : Int) < 0) := by omega
  simp only [h1, h2, if_false, if_true]
  congr 1
  omega
theorem places_init (n : Nat) : Builtin.Slice.slicePlaces 0 (n : Int) 1 = n := by
  unfold Builtin.Slice.slicePlaces
  have h1 : (1 : Int) > 0 := by omega
  simp only [h1, if_true, Int.ediv_one]
  split <;> omega
theorem pick_init (xs : Array Value) (n : Nat) (hn : n ≤ xs.size) : ((List.range n).filterMap fun (k : Nat) => xs[((0 : Int) + (k : Int) * 1).toNat]?).toArray = (xs.toList.take n).toArray := by
  have e : (fun (k : Nat) => xs[((0 : Int) + (k : Int) * 1).toNat]?) = fun k => xs[k]? := by
    funext k
    have : ((0 : Int) + (k : Int) * 1).toNat = k := by omega
    rw [this]
  rw [e]
  congr 1
  induction n with
  | zero => rfl
  | succ n ih =>
    rw [List.range_succ, List.filterMap_append, ih (by omega), List.take_add_one]
    have : xs[n]? = xs.toList[n]? := by simp
    cases q : xs.toList[n]? with
    | none => simp [this, q]
    | some v => simp [this, q]
variable {prog : Program} {w : World} {A : Around} {E : Value → Shared → Prop} {s : Shared} {h₀ : Heap} {L : Addr} {m : Str → Option Value} {news : List (Addr × Obj)}
theorem sliceApplied_init {sl : Addr} {n : Nat} {u : Tok} {Q : Int × Int × Nat → Shared → Prop} (hs : s.heap.IsSliceOf sl .none (.int (-1) u) .none) (hn : 1 ≤ n) (h : Q (0, 1, n - 1) s) :
    wpAny (model prog w) A (Builtin.Slice.sliceApplied (.ref sl) (pure (n : Int))) Q E s := by
  obtain ⟨os, hos, hcs, hds⟩ := id hs
  unfold Builtin.Slice.sliceApplied Builtin.Slice.sliceFields
  refine wpAny_bind (wpAny_bind (wpAny_field hos hds (x := .none) rfl (wpAny_bind (wpAny_field hos hds (x := .int (-1) u) rfl (wpAny_bind (wpAny_field hos hds (x := .none) rfl (wpAny_pure ?_)))))))
  refine wpAny_bind (slicePart_none ?_)
  show wpAny _ _ (if ((1 : Int) == 0) = true then _ else _) _ _ s
  rw [if_neg (by decide)]
  refine wpAny_bind (slicePart_none (wpAny_bind (slicePart_int (wpAny_bind (wpAny_pure ?_)))))
  show wpAny _ _ (match Builtin.Slice.sliceAdjust none (some (-1)) 1 (n : Int) with | (lo, hi) => pure (lo, (1 : Int), Builtin.Slice.slicePlaces lo hi 1)) _ _ s
  rw [adjust_init n hn]
  show wpAny _ _ (pure ((0 : Int), (1 : Int), Builtin.Slice.slicePlaces 0 ((n - 1 : Nat) : Int) 1)) _ _ s
  rw [places_init]
  exact wpAny_pure h
theorem getItem_tuple_init {t sl : Addr} {items : Array Value} {u : Tok} {Q : Value → Shared → Prop} (ht : IsTup s.heap t items) (hs : s.heap.IsSliceOf sl .none (.int (-1) u) .none) (hn : 1 ≤ items.size)
    (h : Q (.ref s.heap.objs.size) { s with heap := s.heap.push { cls := .type "tuple", data := .seq (items.toList.take (items.size - 1)).toArray } })
    (hsz : items.size ≤ sizeLine) : wpAny (model prog w) A (getItem (.ref t) (.ref sl)) Q E s := by
  have hdrop : sizeOk (.seq (items.toList.take (items.size - 1)).toArray) := by
    show (items.toList.take (items.size - 1)).toArray.size ≤ sizeLine
    rw [List.size_toArray, List.length_take, Array.length_toList]
    omega
  obtain ⟨os, hos, hcs, hds⟩ := id hs
  have hTs : s.TypeIs (.ref sl) "slice" := ⟨os, hos, hcs⟩
  unfold getItem
  try with_reducible refine wpAny_holding ?_
  first | refine wpAny_bind (wpAny_pure ?_) | skip
  refine wpAny_bind (wpAny_sequenceKey ht.typeIs (by decide) ?_)
  refine wpAny_bind (wpAny_callSpecial?_slot (name := Str.ofString "__getitem__") ht.typeIs slot_tuple_getitem
    (wpAny_call_entry slot_tuple_getitem ht.typeIs entry_tuple_getitem ?_ (args_tuple_getitem _ _)))
  show wpAny _ _ (Builtin.Tuple.tupleItemsOf (.ref t) >>= _) _ _ s
  refine wpAny_bind (tupleItemsOf_ ht ?_)
  refine wpAny_bind (wpAny_typeOf hTs ?_)
  rw [if_pos (by decide)]
  refine wpAny_bind (sliceApplied_init hs hn ?_)
  have hno : ¬ (((0 : Int) == 0 && (1 : Int) == 1 && (items.size - 1) == items.size) = true) := by
    have : ((items.size - 1) == items.size) = false := by rw [beq_eq_false_iff_ne]; omega
    rw [this]; simp
  show wpAny _ _ (if ((0 : Int) == 0 && (1 : Int) == 1 && (items.size - 1) == items.size) = true then _ else _) _ _ s
  rw [if_neg hno, pick_init items _ (by omega)]
  first
    | exact wpAny_bind (m := Builtin.Tuple.tupleExact _) (wpAny_newObj_type (wpAny_pure ⟨_, rfl, wpAny_pure h⟩) hdrop)
    | exact wpAny_bind (m := Builtin.Tuple.tupleExact _) (wpAny_newObj_type (wpAny_bind (wpAny_pure (wpAny_pure ⟨_, rfl, wpAny_pure h⟩))) hdrop)
/-- all but the last of a tuple -/
theorem init_K {value slice : PySem.Expr} {t : Addr} {vs : List Value} {u : Tok} {Q : Value → Shared → Prop}
    (F : Fr h₀ L s.heap m) (N : News h₀ L s.heap news) (hm : (t, ({ cls := .type "tuple", data := .seq vs.toArray } : Obj)) ∈ news) (hne : vs ≠ []) (hz : vs.length ≤ 5000)
    (h : ∀ D h', Fr h₀ L h' m → News h₀ L h' ((D, { cls := .type "tuple", data := .seq vs.dropLast.toArray }) :: news) → (∀ p ∈ news, p.1 < D) → Q (.ref D) { s with heap := h' })
    (hs : subscripted slice false (.ref t) (.ref s.heap.objs.size) = operate [.ref s.heap.objs.size, .ref t] (getItem (.ref t) (.ref s.heap.objs.size)))
    (hg : ∀ r, letTemporaryGo value (.ref t) r = pure ()) :
    wpAny (model prog w) A (subscriptTail value slice (.ref t) (.ref s.heap.objs.size)) Q E { s with heap := s.heap.push { cls := .type "slice", data := .fields #[.none, .int (-1) u, .none] } } := by
  have ht : IsTup s.heap t vs.toArray := ⟨_, (N _ hm).1, rfl, _, rfl⟩
  have ht' : IsTup (s.heap.push { cls := .type "slice", data := .fields #[.none, .int (-1) u, .none] }) t vs.toArray := ht.keeps fun _ _ e => Heap.get?_push_of_some _ e
  have hn : 1 ≤ vs.toArray.size := by rw [List.size_toArray]; exact List.length_pos_iff.mpr hne
  refine subscriptTail_ops (s := { s with heap := s.heap.push { cls := .type "slice", data := .fields #[.none, .int (-1) u, .none] } }) ht'.typeIs slot_tuple_getitem.lookup
    (getItem_tuple_init ht' (Heap.IsSliceOf.new ..) hn ?_ (by rw [sizeLine_eq, List.size_toArray]; omega)) hs hg
  have N1 := News.push (F.push { cls := .type "slice", data := .fields #[.none, .int (-1) u, .none] }) (N.grown fun _ _ e => Heap.get?_push_of_some _ e) { cls := .type "tuple", data := .seq vs.dropLast.toArray }
  rw [Heap.size_push] at N1
  show Q (.ref (s.heap.push _).objs.size) _
  rw [Heap.size_push]
  have e : (vs.toArray.toList.take (vs.toArray.size - 1)).toArray = vs.dropLast.toArray := by rw [List.size_toArray, List.toList_toArray, List.dropLast_eq_take]
  rw [e]
  exact h _ _ ((F.push _).push _) N1 fun p hp => Nat.lt_succ_of_lt (Heap.lt_size (N p hp).1)
theorem truthy_ne {t : Addr} {vs : List Value} {Q : Bool → Shared → Prop} (N : News h₀ L s.heap news) (hm : (t, ({ cls := .type "tuple", data := .seq vs.toArray } : Obj)) ∈ news) (hne : vs ≠ []) (hz : vs.length ≤ 1000)
    (h : Q true { s with toks := s.toks + 1 + 1 }) : wpAny (model prog w) A (truthy (.ref t)) Q E s :=
  ktl_truthyK N hm hz (by have e : (!vs.isEmpty) = true := by cases vs <;> simp_all
                          rw [e]; exact h)
theorem last_K {value slice : PySem.Expr} {t : Addr} {vs : List Value} {u : Tok} {x : Value} {Q : Value → Shared → Prop} (N : News h₀ L s.heap news) (hm : (t, ({ cls := .type "tuple", data := .seq vs.toArray } : Obj)) ∈ news)
    (hz : vs.length ≤ 5000) (hx : vs.getLast? = some x) (h : Q x s)
    (hs : subscripted slice false (.ref t) (.int (-1) u) = operate [.ref t, .int (-1) u] (getItem (.ref t) (.int (-1) u))) :
    wpAny (model prog w) A (subscriptTail value slice (.ref t) (.int (-1) u)) Q E s := by
  have hne : vs ≠ [] := by rintro rfl; simp at hx
  have hp := List.length_pos_iff.mpr hne
  have hj : seqIndex? (-1) vs.length = some (vs.length - 1) := by
    unfold seqIndex?
    simp only [show ((-1 : Int) < 0) by decide, if_true]
    rw [if_pos (by simp only [Bool.and_eq_true, decide_eq_true_eq]; omega)]
    congr 1
    omega
  exact item_tupleT (l := vs) (k := -1) (j := vs.length - 1) ⟨_, (N _ hm).1, rfl, _, rfl⟩ (by decide) (by decide) hj (by rw [← hx, List.getLast?_eq_getElem?]) h hs
end
local macro_rules | `(tactic| walk_at "subscriptTail Name Slice ref ref") => `(tactic| (k_here; (with_reducible show wpAny _ _ (subscriptTail _ (PySem.Expr.Slice none (some (PySem.Expr.UnaryOp _ _ _)) none _) (Value.ref _) (Value.ref _)) _ _ _); k_dflt (refine' init_K ?F ?N ?l ?e ?z ?_ ?s ?t; (case F => k_asm); (case N => k_asm); (case l => k_mem); (case e => assumption); (case z => omega); (case s => with_unfolding_all rfl); (case t => kmk_pure)); intro D' h' F' N' l1; (try k_lt l1); (try k_sweep)))
local macro_rules | `(tactic| walk_at "truthy ref") => `(tactic| (k_here; k_dflt (refine' truthy_ne ?N ?m ?e ?z ?_; (case N => k_asm); (case m => k_mem); (case e => assumption); (case z => assumption))))
local macro_rules | `(tactic| walk_at "subscriptTail") => `(tactic| (k_here; (with_reducible show wpAny _ _ (subscriptTail _ _ (Value.ref _) (Value.int _ _)) _ _ _); k_dflt (refine' last_K ?N ?m ?z ?x ?_ ?s; (case N => k_asm); (case m => k_mem); (case z => omega); (case x => assumption); (case s => with_unfolding_all rfl))))

theorem off_G3 : True := by
  w_top off
  exact True.intro
section
open PyProof.V PySem.Spec
def flagEs (w : World) (d q : Addr) (t1 t2 : Tok) : List DictEntry :=
  [{ hash := PyData.keyHash w.params (PySem.Str.ofString "_flags"), key := .str (PySem.Str.ofString "_flags") t1, val := .ref d },
   { hash := PyData.keyHash w.params (PySem.Str.ofString "_pending_flags"), key := .str (PySem.Str.ofString "_pending_flags") t2, val := .ref q }]
structure Nd where
  na : Addr
  fa : Addr
  ra : Addr
  ca : Addr
  S : Int → Bool
  R : Int → Bool
def nodeKvs (nd : Nd) : List (Str × Value) := [(PySem.Str.ofString "flags", .ref nd.fa), (PySem.Str.ofString "recursive_flags", .ref nd.ra), (PySem.Str.ofString "nested", .ref nd.ca)]
/-- the trie of the flags, on a ledger -/
structure Trie (prog : Program) (w : World) (root : Addr) (tl : List (Addr × Obj)) (B : Nat) (T : List Str → Option Nd) (own : Addr → Option (List Str × Nat)) : Prop where
  nodup : (tl.map (·.1)).Nodup
  root : ∃ nd, T [] = some nd ∧ nd.ca = root
  up : ∀ p k, (T (p ++ [k])).isSome = true → (T p).isSome = true
  kids : ∀ p nd, T p = some nd → own nd.ca = some (p, 3) ∧ (nd.ca == sysModules) = false ∧ ∃ o kvs, (nd.ca, o) ∈ tl ∧ o.IsDictOf (PySem.strKind prog w) kvs ∧ kvs.length ≤ B ∧ ∀ k, valueAt kvs k = (T (p ++ [k])).map fun x => .ref x.na
  node : ∀ p nd, T p = some nd → p ≠ [] → own nd.na = some (p, 0) ∧ (nd.na == sysModules) = false ∧ ∃ o, (nd.na, o) ∈ tl ∧ o.IsDictOf (PySem.strKind prog w) (nodeKvs nd)
  flg : ∀ p nd, T p = some nd → p ≠ [] → own nd.fa = some (p, 1) ∧ ∃ o n, (nd.fa, o) ∈ tl ∧ o.SetObjOf (PySem.intKind prog w) nd.S n ∧ n ≤ B
  rfl' : ∀ p nd, T p = some nd → p ≠ [] → own nd.ra = some (p, 2) ∧ ∃ o n, (nd.ra, o) ∈ tl ∧ o.SetObjOf (PySem.intKind prog w) nd.R n ∧ n ≤ B
abbrev Op := List Str × Int × Bool
def TrieIs (prog : Program) (w : World) (root : Addr) (tl : List (Addr × Obj)) (B : Nat) (ops : List Op) : Prop :=
  ∃ T own, Trie prog w root tl B T own ∧ (∀ p nd, T p = some nd → p ≠ [] → ∀ n, nd.S n = ops.contains (p, n, false) ∧ nd.R n = ops.contains (p, n, true)) ∧ ∀ op ∈ ops, op.1 ≠ [] ∧ (T op.1).isSome = true
theorem trie_new {prog : Program} {w : World} {d : Addr} {o : Obj} (hd : o.IsDictOf (PySem.strKind prog w) []) (lo : (d == sysModules) = false) : TrieIs prog w d [(d, o)] 0 [] := by
  refine ⟨fun p => if p = [] then some ⟨d, d, d, d, fun _ => false, fun _ => false⟩ else none, fun a => if a = d then some ([], 3) else none, ⟨by simp, ⟨_, rfl, rfl⟩, ?_, ?_, ?_, ?_, ?_⟩, ?_, by simp⟩
  · intro p k h; simp at h
  · intro p nd h
    by_cases hp : p = []
    · subst hp
      cases h
      exact ⟨by simp, lo, o, [], .head _, hd, Nat.le_refl _, fun k => by simp [valueAt]⟩
    · simp [hp] at h
  all_goals
    intro p nd h hp
    simp [hp] at h
end

theorem off_D0 : True := by
  w_top off
  exact True.intro
section
open PySem.W PyProof.V PySem.Spec
variable {prog : Program} {w : World} {A : Around} {E : Value → Shared → Prop} {s : Shared} {h₀ : Heap} {L d : Addr} {m : Str → Option Value} {news : List (Addr × Obj)} {o : Obj} {kvs : List (Str × Value)} {k : Str} {tk : Tok} {v : Value}
theorem dict_in_some {Q : Value → Shared → Prop} (N : News h₀ L s.heap news) (hp : (d, o) ∈ news) (hd : o.IsDictOf (PySem.strKind prog w) kvs) (lo : (d == sysModules) = false) (hv : valueAt kvs k = some v) (h : Q (.bool true) { s with toks := s.toks + 1 }) :
    wpAny (model prog w) A (compareOp .In (.str k tk) (.ref d)) Q E s := wpAny_in_of (strKind_is _ _ _ _) lo (kda_dict N hp hd).mapOf (by rw [hv]; exact h)
theorem dict_in_none {Q : Value → Shared → Prop} (N : News h₀ L s.heap news) (hp : (d, o) ∈ news) (hd : o.IsDictOf (PySem.strKind prog w) kvs) (lo : (d == sysModules) = false) (hv : valueAt kvs k = none) (h : Q (.bool false) { s with toks := s.toks + 1 }) :
    wpAny (model prog w) A (compareOp .In (.str k tk) (.ref d)) Q E s := wpAny_in_of (strKind_is _ _ _ _) lo (kda_dict N hp hd).mapOf (by rw [hv]; exact h)
theorem dict_notin_some {Q : Value → Shared → Prop} (N : News h₀ L s.heap news) (hp : (d, o) ∈ news) (hd : o.IsDictOf (PySem.strKind prog w) kvs) (lo : (d == sysModules) = false) (hv : valueAt kvs k = some v) (h : Q (.bool false) { s with toks := s.toks + 1 }) :
    wpAny (model prog w) A (compareOp .NotIn (.str k tk) (.ref d)) Q E s := wpAny_notIn_of (strKind_is _ _ _ _) lo (kda_dict N hp hd).mapOf (by rw [hv]; exact h)
theorem dict_notin_none {Q : Value → Shared → Prop} (N : News h₀ L s.heap news) (hp : (d, o) ∈ news) (hd : o.IsDictOf (PySem.strKind prog w) kvs) (lo : (d == sysModules) = false) (hv : valueAt kvs k = none) (h : Q (.bool true) { s with toks := s.toks + 1 }) :
    wpAny (model prog w) A (compareOp .NotIn (.str k tk) (.ref d)) Q E s := wpAny_notIn_of (strKind_is _ _ _ _) lo (kda_dict N hp hd).mapOf (by rw [hv]; exact h)
theorem dict_item {value slice : PySem.Expr} {Q : Value → Shared → Prop} (N : News h₀ L s.heap news) (hp : (d, o) ∈ news) (hd : o.IsDictOf (PySem.strKind prog w) kvs) (hv : valueAt kvs k = some v) (h : Q v { s with toks := s.toks + 1 })
    (hs : subscripted slice false (.ref d) (.str k tk) = operate [.ref d, .str k tk] (getItem (.ref d) (.str k tk))) :
    wpAny (model prog w) A (subscriptTail value slice (.ref d) (.str k tk)) Q E s :=
  have hD := kda_dict N hp hd
  tail_any hD.typeIs slot_dict_getitem.lookup (wpAny_getItem_of (strKind_is _ _ _ _) hD.mapOf hv h) hs
variable {S : Int → Bool} {n : Nat} {f : Int} {b : Bool}
theorem set_in {Q : Value → Shared → Prop} (N : News h₀ L s.heap news) (hp : (d, o) ∈ news) (hS : o.SetObjOf (PySem.intKind prog w) S n) (hb : n ≤ 2000) (hv : S f = b) (h : Q (.bool b) { s with toks := s.toks + 1 }) :
    wpAny (model prog w) A (compareOp .In (.int f tk) (.ref d)) Q E s :=
  wpAny_inSet_of (intKind_is _ _ _ _) rfl (hS.setOf (N _ hp).1 (by unfold scanBound; omega)) (by rw [hv]; exact h)
theorem set_addm {pl : Sem Bool} {Q : Value × List Value → Shared → Prop} (N : News h₀ L s.heap news) (hp : (d, o) ∈ news) (hS : o.SetObjOf (PySem.intKind prog w) S n) (hb : n ≤ 2000) (h : Q (.builtin "set.add", [.ref d]) s) :
    wpAny (model prog w) A (getMethod (.ref d) "add" pl) Q E s := getMethod_set_add (hS.setOf (N _ hp).1 (by unfold scanBound; omega)) h
def putA (tl : List (Addr × Obj)) (d : Addr) (o' : Obj) : List (Addr × Obj) := tl.map fun p => if p.1 = d then (d, o') else p
theorem putA_keys (tl : List (Addr × Obj)) (d : Addr) (o' : Obj) : (putA tl d o').map (·.1) = tl.map (·.1) := by
  unfold putA
  rw [List.map_map]
  refine List.map_congr_left fun p _ => ?_
  show (if p.1 = d then (d, o') else p).1 = p.1
  by_cases h : p.1 = d
  · rw [if_pos h]; exact h.symm
  · rw [if_neg h]
theorem putA_self {tl : List (Addr × Obj)} {d : Addr} {o o' : Obj} (h : (d, o) ∈ tl) : (d, o') ∈ putA tl d o' := List.mem_map.mpr ⟨_, h, by simp⟩
theorem putA_other {tl : List (Addr × Obj)} {d a : Addr} {o o' : Obj} (h : (a, o) ∈ tl) (hne : a ≠ d) : (a, o) ∈ putA tl d o' := List.mem_map.mpr ⟨_, h, by simp [hne]⟩
theorem news_put {h h' : Heap} {fx tl : List (Addr × Obj)} {o' : Obj} (F : Fr h₀ L h m) (N : News h₀ L h (fx ++ tl)) (hm : (d, o) ∈ tl) (hfx : ∀ p ∈ fx, p.1 ≠ d) (hs : Heap.SameBut d h h') (ho' : h'.get? d = some o') :
    Fr h₀ L h' m ∧ News h₀ L h' (fx ++ putA tl d o') := by
  have hd := N _ (List.mem_append_right _ hm)
  refine ⟨F.change hs hd.2.1 hd.2.2, fun p hp => ?_⟩
  rcases List.mem_append.mp hp with hp | hp
  · have a := N p (List.mem_append_left _ hp)
    exact ⟨(hs.2 _ (hfx p hp)).trans a.1, a.2⟩
  · obtain ⟨q, hq, rfl⟩ := List.mem_map.mp hp
    have a := N q (List.mem_append_right _ hq)
    by_cases e : q.1 = d
    · rw [if_pos e]
      exact ⟨ho', hd.2⟩
    · rw [if_neg e]
      exact ⟨(hs.2 _ e).trans a.1, a.2⟩
theorem dict_set {fx tl : List (Addr × Obj)} {Q : Unit → Shared → Prop} (F : Fr h₀ L s.heap m) (N : News h₀ L s.heap (fx ++ tl)) (hm : (d, o) ∈ tl) (hfx : ∀ p ∈ fx, p.1 ≠ d) (hd : o.IsDictOf (PySem.strKind prog w) kvs) (hz : kvs.length ≤ 2000)
    (h : ∀ h' o', Fr h₀ L h' m → News h₀ L h' (fx ++ putA tl d o') → o'.IsDictOf (PySem.strKind prog w) (stored kvs k v) → Q () { s with heap := h', toks := s.toks + 1 }) :
    wpAny (model prog w) A (setItem (.ref d) (.str k tk) v) Q E s := by
  refine wpAny_setItem_pairs (hsz := by rw [sizeLine_eq]; omega) (strKind_is _ _ _ _) (Heap.dictOf_iff.mpr ⟨o, (N _ (List.mem_append_right _ hm)).1, hd⟩) fun h' hmm hs => ?_
  obtain ⟨o', ho', hd'⟩ := Heap.dictOf_iff.mp hmm
  obtain ⟨F', N'⟩ := news_put F N hm hfx hs ho'
  exact h h' o' F' N' hd'
theorem set_add {fx tl : List (Addr × Obj)} {Q : Value → Shared → Prop} (F : Fr h₀ L s.heap m) (N : News h₀ L s.heap (fx ++ tl)) (hm : (d, o) ∈ tl) (hfx : ∀ p ∈ fx, p.1 ≠ d) (hS : o.SetObjOf (PySem.intKind prog w) S n) (hz : n ≤ 2000)
    (h : ∀ h' o', Fr h₀ L h' m → News h₀ L h' (fx ++ putA tl d o') → o'.SetObjOf (PySem.intKind prog w) (fun k' => S k' || decide (k' = f)) (if S f then n else n + 1) → Q .none { s with heap := h', toks := s.toks + 1 }) :
    wpAny (model prog w) A (call (.builtin "set.add") [.ref d, .int f tk]) Q E s := by
  refine call_set_add (intKind_is _ _ _ _) rfl (hS.setOf (N _ (List.mem_append_right _ hm)).1 (by unfold scanBound; omega)) (by unfold scanBound; omega) fun h' hsb hS' => ?_
  obtain ⟨so', ho', hso'⟩ := hS'.objOf
  obtain ⟨F', N'⟩ := news_put F N hm hfx hsb ho'
  exact h h' so' F' N' hso'
theorem dict_pop {fx tl : List (Addr × Obj)} {x : Value} {Q : Value → Shared → Prop} (F : Fr h₀ L s.heap m) (N : News h₀ L s.heap (fx ++ tl)) (hm : (d, o) ∈ tl) (hfx : ∀ p ∈ fx, p.1 ≠ d) (hd : o.IsDictOf (PySem.strKind prog w) kvs) (hz : kvs.length ≤ 2000) (hv : valueAt kvs k = some v)
    (h : ∀ h' o', Fr h₀ L h' m → News h₀ L h' (fx ++ putA tl d o') → o'.IsDictOf (PySem.strKind prog w) (without kvs k) → Q v { s with heap := h', toks := s.toks + 1 }) :
    wpAny (model prog w) A (call (.builtin "dict.pop") [.ref d, .str k tk, x]) Q E s := by
  have hD : s.heap.DictOf (PySem.strKind prog w) d kvs := Heap.dictOf_iff.mpr ⟨o, (N _ (List.mem_append_right _ hm)).1, hd⟩
  refine call_meetsIn PySem.F.slot_dict_pop hD.typeIs PySem.F.entry_dict_pop (PySem.F.args_dict_pop_3 _ _ _) (meets_dict_pop_there (PySem.strKind prog w) d (strKind_is _ _ _ _) [x] (.inr ⟨x, rfl⟩) (by rfl)) ⟨kvs, v, hD, by rw [sizeLine_eq]; omega, hv, fun h' hmm hs => ?_⟩
  obtain ⟨o', ho', hd'⟩ := Heap.dictOf_iff.mp hmm
  obtain ⟨F', N'⟩ := news_put F N hm hfx hs ho'
  exact h h' o' F' N' hd'
variable {env : Env} {target : Expr} {body : List Stmt}
theorem tup_inv {ax : Addr} {lo : Obj} {vs : List Value} {n : Nat} {m₀ : Str → Option Value} {Q : Flow → Shared → Prop} (J : List Value → (Str → Option Value) → List (Addr × Obj) → Prop)
    (hh : A.handled = none) (F : Fr h₀ env.locals s.heap m₀) (N : News h₀ env.locals s.heap news) (hm : (ax, lo) ∈ news) (hc : lo.cls = .type "tuple") (hd : lo.data = .seq vs.toArray n) (h0 : J vs m₀ news)
    (hend : ∀ m news h tk, J [] m news → Fr h₀ env.locals h m → News h₀ env.locals h news → Q .next { s with heap := h, toks := tk })
    (hstep : ∀ I, (∀ p ∈ news, p.1 < I) → ∀ v r m news' h tk oi, J (v :: r) m news' → (∀ p ∈ news', p.1 ≠ I) → Fr h₀ env.locals h m → News h₀ env.locals h ((I, oi) :: news') →
      wpAny (model prog w) A (assign target env v) (fun _ s₂ => wpAny (model prog w) A (execs body env) (UnrPostW h₀ env.locals { s with heap := h, toks := tk } [(I, oi)] (fun m' n' => (ax, lo) ∈ n' ∧ J r m' n') Q) E s₂) E { s with heap := h, toks := tk }) :
    wpAny (model prog w) A (pyIter (.ref ax)) (fun it s₂ => TurnsAt prog w A h₀ env target body Q E it s₂) E s := by
  refine iter_tupTurns hh F N hm hc hd fun I hI => vals_inv (fun rem m n => (∀ p ∈ n, p.1 ≠ I) ∧ J rem m n) (fun m n h tk hJ F' N' => hend m n h tk hJ.2 F' N') (fun v r m news' h tk hJ F' => ?_) _ _ _ ⟨fun p hp => Nat.ne_of_lt (hI p hp), h0⟩
  refine AllObj.cons fun oi _ => AllObj.nil fun N' => wpAny_mono (hstep I hI v r m news' h tk oi hJ.2 hJ.1 F' N') (fun _ s₂ y => wpAny_mono y (fun f s₃ p => unr_mono2 (fun m' n' d q => ⟨⟨q.1, trivial⟩, fun p hp => d p hp _ (.head _), q.2⟩) p) fun _ _ e => e) fun _ _ e => e
theorem list_inv {ax : Addr} {lo : Obj} {vs : List Value} {n : Nat} {m₀ : Str → Option Value} {Q : Flow → Shared → Prop} (J : List Value → (Str → Option Value) → List (Addr × Obj) → Prop)
    (hh : A.handled = none) (F : Fr h₀ env.locals s.heap m₀) (N : News h₀ env.locals s.heap news) (hm : (ax, lo) ∈ news) (hc : lo.cls = .type "list") (hd : lo.data = .seq vs.toArray n) (h0 : J vs m₀ news)
    (hend : ∀ m news h tk, J [] m news → Fr h₀ env.locals h m → News h₀ env.locals h news → Q .next { s with heap := h, toks := tk })
    (hstep : ∀ I, (∀ p ∈ news, p.1 < I) → ∀ v r m news' h tk oi, J (v :: r) m news' → (∀ p ∈ news', p.1 ≠ I) → Fr h₀ env.locals h m → News h₀ env.locals h ((I, oi) :: news') →
      wpAny (model prog w) A (assign target env v) (fun _ s₂ => wpAny (model prog w) A (execs body env) (UnrPostW h₀ env.locals { s with heap := h, toks := tk } [(I, oi)] (fun m' n' => (ax, lo) ∈ n' ∧ J r m' n') Q) E s₂) E { s with heap := h, toks := tk }) :
    wpAny (model prog w) A (pyIter (.ref ax)) (fun it s₂ => TurnsAt prog w A h₀ env target body Q E it s₂) E s := by
  refine iter_listTurns hh F N hm hc hd fun I hI => vals_inv (fun rem m n => (∀ p ∈ n, p.1 ≠ I) ∧ J rem m n) (fun m n h tk hJ F' N' => hend m n h tk hJ.2 F' N') (fun v r m news' h tk hJ F' => ?_) _ _ _ ⟨fun p hp => Nat.ne_of_lt (hI p hp), h0⟩
  refine AllObj.cons fun oi _ => AllObj.nil fun N' => wpAny_mono (hstep I hI v r m news' h tk oi hJ.2 hJ.1 F' N') (fun _ s₂ y => wpAny_mono y (fun f s₃ p => unr_mono2 (fun m' n' d q => ⟨⟨q.1, trivial⟩, fun p hp => d p hp _ (.head _), q.2⟩) p) fun _ _ e => e) fun _ _ e => e
theorem tup_fix {ax : Addr} {lo : Obj} {vs : List Value} {n : Nat} {m₀ : Str → Option Value} {Q : Flow → Shared → Prop} (J : List Value → (Str → Option Value) → Prop)
    (hh : A.handled = none) (F : Fr h₀ env.locals s.heap m₀) (N : News h₀ env.locals s.heap news) (hm : (ax, lo) ∈ news) (hc : lo.cls = .type "tuple") (hd : lo.data = .seq vs.toArray n) (h0 : J vs m₀)
    (hend : ∀ m h tk, J [] m → Fr h₀ env.locals h m → News h₀ env.locals h news → Q .next { s with heap := h, toks := tk })
    (hstep : ∀ I, (∀ p ∈ news, p.1 < I) → ∀ v r m h tk oi, J (v :: r) m → Fr h₀ env.locals h m → News h₀ env.locals h ((I, oi) :: news) →
      wpAny (model prog w) A (assign target env v) (fun _ s₂ => wpAny (model prog w) A (execs body env) (UnrPostW h₀ env.locals { s with heap := h, toks := tk } [(I, oi)] (fun m' n' => n' = news ∧ J r m') Q) E s₂) E { s with heap := h, toks := tk }) :
    wpAny (model prog w) A (pyIter (.ref ax)) (fun it s₂ => TurnsAt prog w A h₀ env target body Q E it s₂) E s :=
  tup_inv (fun r m n => n = news ∧ J r m) hh F N hm hc hd ⟨rfl, h0⟩ (fun m _ h tk hJ F N => hend m h tk hJ.2 F (hJ.1 ▸ N)) fun I hI v r m _ h tk oi hJ _ F N =>
    wpAny_mono (hstep I hI v r m h tk oi hJ.2 F (hJ.1 ▸ N)) (fun _ s₂ y => wpAny_mono y (fun f s₃ p => unr_mono (fun m' n' (q : n' = news ∧ J r m') => ⟨by rw [q.1]; exact hm, q⟩) p) fun _ _ e => e) fun _ _ e => e
theorem list_fix {ax : Addr} {lo : Obj} {vs : List Value} {n : Nat} {m₀ : Str → Option Value} {Q : Flow → Shared → Prop} (J : List Value → (Str → Option Value) → Prop)
    (hh : A.handled = none) (F : Fr h₀ env.locals s.heap m₀) (N : News h₀ env.locals s.heap news) (hm : (ax, lo) ∈ news) (hc : lo.cls = .type "list") (hd : lo.data = .seq vs.toArray n) (h0 : J vs m₀)
    (hend : ∀ m h tk, J [] m → Fr h₀ env.locals h m → News h₀ env.locals h news → Q .next { s with heap := h, toks := tk })
    (hstep : ∀ I, (∀ p ∈ news, p.1 < I) → ∀ v r m h tk oi, J (v :: r) m → Fr h₀ env.locals h m → News h₀ env.locals h ((I, oi) :: news) →
      wpAny (model prog w) A (assign target env v) (fun _ s₂ => wpAny (model prog w) A (execs body env) (UnrPostW h₀ env.locals { s with heap := h, toks := tk } [(I, oi)] (fun m' n' => n' = news ∧ J r m') Q) E s₂) E { s with heap := h, toks := tk }) :
    wpAny (model prog w) A (pyIter (.ref ax)) (fun it s₂ => TurnsAt prog w A h₀ env target body Q E it s₂) E s :=
  list_inv (fun r m n => n = news ∧ J r m) hh F N hm hc hd ⟨rfl, h0⟩ (fun m _ h tk hJ F N => hend m h tk hJ.2 F (hJ.1 ▸ N)) fun I hI v r m _ h tk oi hJ _ F N =>
    wpAny_mono (hstep I hI v r m h tk oi hJ.2 F (hJ.1 ▸ N)) (fun _ s₂ y => wpAny_mono y (fun f s₃ p => unr_mono (fun m' n' (q : n' = news ∧ J r m') => ⟨by rw [q.1]; exact hm, q⟩) p) fun _ _ e => e) fun _ _ e => e
/-- a turn's end: the ledger as it stood -/
theorem unr_end {s₁ : Shared} {h' : Heap} {tk : Nat} {m' : Str → Option Value} {I : Addr} {oi : Obj} {keep : Addr × Obj} {news' : List (Addr × Obj)} {r : (Str → Option Value) → List (Addr × Obj) → Prop}
    (F : Fr h₀ L h' m') (N : News h₀ L h' ((I, oi) :: news')) (hI : ∀ p ∈ news', p.1 ≠ I) (hk : keep ∈ news') (hr : r m' news') :
    UnrEndW h₀ L s₁ [(I, oi)] (fun m n => keep ∈ n ∧ r m n) { s₁ with heap := h', toks := tk } :=
  ⟨h', tk, m', news', rfl, F, N, fun p hp q hq => by rw [List.mem_singleton.mp hq]; exact hI p hp, hk, hr⟩
theorem unr_fix {s₁ : Shared} {h' : Heap} {tk : Nat} {m' : Str → Option Value} {I : Addr} {oi : Obj} {news' : List (Addr × Obj)} {r : (Str → Option Value) → Prop}
    (F : Fr h₀ L h' m') (N : News h₀ L h' ((I, oi) :: news')) (hI : ∀ p ∈ news', p.1 < I) (hr : r m') :
    UnrEndW h₀ L s₁ [(I, oi)] (fun m n => n = news' ∧ r m) { s₁ with heap := h', toks := tk } :=
  ⟨h', tk, m', news', rfl, F, N, fun p hp q hq => by rw [List.mem_singleton.mp hq]; exact Nat.ne_of_lt (hI p hp), rfl, hr⟩
end
local macro_rules | `(tactic| walk_at "compareOp In str ref") => `(tactic| (k_here; k_dflt (first | (refine' dict_in_some ?N ?m ?d ?lo ?v ?_; (case N => k_asm); (case m => k_mem); (case d => assumption); (case lo => assumption); (case v => assumption)) | (refine' dict_in_none ?N ?m ?d ?lo ?v ?_; (case N => k_asm); (case m => k_mem); (case d => assumption); (case lo => assumption); (case v => assumption)))))
local macro_rules | `(tactic| walk_at "compareOp NotIn str ref") => `(tactic| (k_here; k_dflt (first | (refine' dict_notin_some ?N ?m ?d ?lo ?v ?_; (case N => k_asm); (case m => k_mem); (case d => assumption); (case lo => assumption); (case v => assumption)) | (refine' dict_notin_none ?N ?m ?d ?lo ?v ?_; (case N => k_asm); (case m => k_mem); (case d => assumption); (case lo => assumption); (case v => assumption)))))
local macro_rules | `(tactic| walk_at "subscriptTail") => `(tactic| (k_here; (with_reducible show wpAny _ _ (subscriptTail _ _ (Value.ref _) (Value.str _ _)) _ _ _); k_dflt (refine' dict_item ?N ?m ?d ?v ?_ ?s; (case N => k_asm); (case m => k_mem); (case d => assumption); (case v => assumption); (case s => with_unfolding_all rfl))))
local macro_rules | `(tactic| walk_at "compareOp In int ref") => `(tactic| (k_here; k_dflt (refine' set_in ?N ?m ?d ?b ?v ?_; (case N => k_asm); (case m => k_mem); (case d => assumption); (case b => omega); (case v => assumption))))
local macro_rules | `(tactic| walk_at "getMethod ref") => `(tactic| (k_here; (with_reducible show wpAny _ _ (getMethod (Value.ref _) (PySem.Str.ofString "add") _) _ _ _); k_dflt (refine' set_addm ?N ?m ?d ?b ?_; (case N => k_asm); (case m => k_mem); (case d => assumption); (case b => omega))))
local macro_rules | `(tactic| walk_at "exec For Name Subscript cons nil") => `(tactic| (k_here; (rename Fr _ _ _ _ => lF'); (with_unfolding_all refine' For_turns lF' ?_; k_whole)))

theorem off_G2 : True := by
  w_top off
  exact True.intro
theorem c_init : ∀ {w : World} {p : Program} {loose : List Str} {mean : ExcName → Option Value} {mg mb : Str → Option Value} {A : Around} {s : Shared} {R : Result → Shared → Prop} {g : Heap} {x dx : Addr}
    (_ : Keep g s.heap) (_ : g.objs.size ≤ s.heap.objs.size) (_ : Apart g s.heap ([(x, instObj 181 dx), (dx, dictOf [] 0)])) (_ : (Mine.hd.heap_39 w.params).In g) (_ : Top p loose mean mg mb g) (_ : A.depth + 3 < recursionLimit) (_ : A.units + 9 < cLine) (_ : A.handled = none)
    (_ : @LT.lt Nat _ dx x)
    (_ : ∀ h' tk d q o t1 t2, Keep g h' → Apart g h' [(x, instObj 181 dx), (dx, dictOf (flagEs w d q t1 t2) 2), (d, o)] → @LT.lt Nat _ x d → (d == sysModules) = false → o.IsDictOf (PySem.strKind PySem.Challenge.rw_in0137_01.row.prog w) [] → R (.ok (.ret .none)) { s with heap := h', toks := tk }),
    codeAny (model PySem.Challenge.rw_in0137_01.row.prog w) A (.call (.ref 143) ⟨[.ref x], []⟩) R s := by
  k_fill
  intro w p loose mean mg mb A s R g x dx hg hgs hap X T hd hu hh hlt ret
  refine' enter_g (binds := [("self", .ref x)]) hg hgs hap X T.nolimit ?ho ?hcd ?hroom ?hbind ?hloc ?h ?hco ?hgen ?hk ?hcell
  case ho => k_is
  case hcd => k_is
  case hroom => omega
  case hbind => exact BindsTo.of_eq rfl
  case hloc => exact locs rfl
  case hco => rfl
  case hgen => rfl
  case hk => rfl
  case hcell => decide
  intro L' h₁ F' N' l0
  (try dsimp only)
  k_steps
  rename_i l1 _ _ _ _ _ _ _ _ F' N'
  exact ret _ _ _ _ _ _ _ (Fr.keep F') (apart3 (N' _ (.tail _ (.tail _ (.head _)))) (N' _ (.tail _ (.tail _ (.tail _ (.head _))))) (N' _ (.tail _ (.head _)))) l1.1 (by assumption) (by assumption)

theorem off_G4 : True := by
  w_top off
  exact True.intro
theorem strs_dropLast : ∀ {vs : List Value} {xs : List Str}, StrsAre vs xs → StrsAre vs.dropLast xs.dropLast
  | _, _, .nil => .nil
  | _, _, .cons y t .nil => .nil
  | _, _, .cons y t (.cons z u r) => .cons y t (strs_dropLast (.cons z u r))
theorem strs_last {vs : List Value} {xs : List Str} (h : StrsAre vs xs) (hne : xs ≠ []) : ∃ z t, vs.getLast? = some (.str z t) ∧ xs = xs.dropLast ++ [z] := by
  induction h with
  | nil => exact absurd rfl hne
  | cons y t r ih =>
    cases r with
    | nil => exact ⟨y, t, rfl, rfl⟩
    | cons z u r' =>
      obtain ⟨z', t', e1, e2⟩ := ih (by simp)
      refine ⟨z', t', by rw [List.getLast?_cons_cons]; exact e1, ?_⟩
      rw [List.dropLast_cons_cons, List.cons_append, ← e2]
theorem news_front {h₀ h : Heap} {L a : Addr} {o : Obj} {news : List (Addr × Obj)} (N : News h₀ L h news) (hm : (a, o) ∈ news) : News h₀ L h ((a, o) :: news) := fun p hp => by
  rcases List.mem_cons.mp hp with rfl | hp
  · exact N _ hm
  · exact N p hp
theorem up_all {prog : Program} {w : World} {root : Addr} {tl : List (Addr × Obj)} {B : Nat} {T : List Str → Option Nd} {own : Addr → Option (List Str × Nat)} (hT : Trie prog w root tl B T own) : ∀ (l p : List Str), (T (p ++ l)).isSome = true → (T p).isSome = true
  | [], p, h => by rw [List.append_nil] at h; exact h
  | k :: l, p, h => hT.up p k (up_all hT l (p ++ [k]) (by rw [List.append_assoc]; exact h))
def isO (ops : List Op) (key : List Str) (f : Int) : Bool :=
  (List.range key.length).any (fun i => decide (0 < i) && ops.contains (key.take i, f, true)) || ops.contains (key, f, false) || ops.contains (key, f, true)
theorem isO_own {ops : List Op} {key : List Str} {f : Int} (h1 : ∀ i, 0 < i → i < key.length → ops.contains (key.take i, f, true) = false) : isO ops key f = (ops.contains (key, f, false) || ops.contains (key, f, true)) := by
  have : (List.range key.length).any (fun i => decide (0 < i) && ops.contains (key.take i, f, true)) = false := by
    rw [List.any_eq_false]
    intro i hi
    have hi' := List.mem_range.mp hi
    by_cases h0 : 0 < i
    · rw [h1 i h0 hi']; simp
    · simp [h0]
  rw [isO, this, Bool.false_or]
theorem isO_rec {ops : List Op} {key : List Str} {f : Int} {i : Nat} (h0 : 0 < i) (hi : i < key.length) (h : ops.contains (key.take i, f, true) = true) : isO ops key f = true := by
  have : (List.range key.length).any (fun i => decide (0 < i) && ops.contains (key.take i, f, true)) = true := by
    rw [List.any_eq_true]
    exact ⟨i, List.mem_range.mpr hi, by rw [h]; simp [h0]⟩
  rw [isO, this, Bool.true_or, Bool.true_or]
theorem isO_none {prog : Program} {w : World} {root : Addr} {tl : List (Addr × Obj)} {B : Nat} {T : List Str → Option Nd} {own : Addr → Option (List Str × Nat)} {ops : List Op} {key pre : List Str} {f : Int} (hT : Trie prog w root tl B T own) (hops : ∀ op ∈ ops, op.1 ≠ [] ∧ (T op.1).isSome = true)
    (hp : pre <+: key) (hne : pre ≠ []) (hq : T pre = none) (h1 : ∀ i, 0 < i → i < pre.length → ops.contains (key.take i, f, true) = false) : isO ops key f = false := by
  have hno : ∀ i b, pre.length ≤ i → ops.contains (key.take i, f, b) = false := fun i b hi => by
    cases hc : ops.contains (key.take i, f, b) with
    | false => rfl
    | true =>
      have hm := List.contains_iff_mem.mp hc
      have h2 := (hops _ hm).2
      obtain ⟨l, hl⟩ : pre <+: key.take i := by
        have e := List.prefix_iff_eq_take.mp hp
        rw [e]
        exact List.take_prefix_take_left (by omega)
      have h3 := up_all hT l pre (by rw [hl]; exact h2)
      rw [hq] at h3
      cases h3
  have hk : key.take key.length = key := List.take_length
  have hl := hp.length_le
  rw [isO_own (fun i h0 hi => ?_)]
  · have a := hno key.length false hl
    have c := hno key.length true hl
    rw [hk] at a c
    rw [a, c]; rfl
  · by_cases h : i < pre.length
    · exact h1 i h0 h
    · exact hno i true (by omega)
theorem c_is : ∀ {w : World} {p : Program} {loose : List Str} {mean : ExcName → Option Value} {mg mb : Str → Option Value} {A : Around} {s : Shared} {R : Result → Shared → Prop} {g : Heap} {x dx root q ka : Addr} {t1 t2 : Tok} {tl : List (Addr × Obj)} {B : Nat} {ops : List Op} {kvs : List Value} {key : List Str} {f : Int} {tf : Tok}
    (_ : Keep g s.heap) (_ : g.objs.size ≤ s.heap.objs.size) (_ : Apart g s.heap ((x, instObj 181 dx) :: (dx, dictOf (flagEs w root q t1 t2) 2) :: (ka, { cls := .type "tuple", data := .seq kvs.toArray }) :: tl)) (_ : (Mine.hd.heap_39 w.params).In g) (_ : Top p loose mean mg mb g) (_ : A.depth + 3 < recursionLimit) (_ : A.units + 9 < cLine) (_ : A.handled = none)
    (_ : TrieIs PySem.Challenge.rw_in0137_01.row.prog w root tl B ops) (_ : B ≤ 1000) (_ : StrsAre kvs key) (_ : key.length ≤ 1000) (_ : key ≠ [])
    (_ : ∀ h' tk, Keep g h' → Apart g h' ((x, instObj 181 dx) :: (dx, dictOf (flagEs w root q t1 t2) 2) :: (ka, { cls := .type "tuple", data := .seq kvs.toArray }) :: tl) → R (.ok (.ret (.bool (isO ops key f)))) { s with heap := h', toks := tk }),
    codeAny (model PySem.Challenge.rw_in0137_01.row.prog w) A (.call (.ref 178) ⟨[.ref x, .ref ka, .int f tf], []⟩) R s := by
  k_fill
  intro w p loose mean mg mb A s R g x dx root q ka t1 t2 tl B ops kvs key f tf hg hgs hap X T hd hu hh hT hB hkv hkl hkn ret
  refine' enter_g (binds := [("self", .ref x), ("key", .ref ka), ("flag", .int f tf)]) hg hgs hap X T.nolimit ?ho ?hcd ?hroom ?hbind ?hloc ?h ?hco ?hgen ?hk ?hcell
  case ho => k_is
  case hcd => k_is
  case hroom => omega
  case hbind => exact BindsTo.of_eq rfl
  case hloc => exact locs rfl
  case hco => rfl
  case hgen => rfl
  case hk => rfl
  case hcell => decide
  intro L' h₁ F' N' l0
  (try dsimp only)
  have hvn : kvs ≠ [] := by rintro rfl; exact hkn (by cases hkv; rfl)
  have hvl : kvs.length ≤ 1000 := by rw [strs_len hkv]; exact hkl
  obtain ⟨T, own, hTr, hSR, hops⟩ := hT
  obtain ⟨nd0, hnd0, hroot⟩ := hTr.root
  subst hroot
  have hgl : kvs.getLast? ≠ none := by simpa using hvn
  k_steps
  refine Stop.out ?_
  refine tup_fix (fun rem m => ∃ pre nd rest, StrsAre rem rest ∧ key.dropLast = pre ++ rest ∧ T pre = some nd ∧ m (PySem.Str.ofString "cont") = some (.ref nd.ca) ∧ m (PySem.Str.ofString "flag") = some (.int f tf) ∧ m (PySem.Str.ofString "key") = some (.ref ka) ∧ ∀ i, 0 < i → i ≤ pre.length → ops.contains (key.take i, f, true) = false) hh (by assumption) (by assumption) (.head _) rfl rfl ⟨[], nd0, key.dropLast, strs_dropLast hkv, rfl, hnd0, rfl, rfl, rfl, fun i h1 h2 => absurd h2 (by simp; omega)⟩ ?_ ?_
  · rintro m h tk ⟨pre, nd, rest, hr, hk, hnd, m1, m2, m3, hno⟩ F N
    have hrest : rest = [] := by cases hr; rfl
    subst hrest
    rw [List.append_nil] at hk
    obtain ⟨z, tz, hgz, hkz⟩ := strs_last hkv hkn
    rw [hk] at hkz
    have hpl : pre.length + 1 = key.length := by rw [hkz, List.length_append]; rfl
    obtain ⟨_, lo1, o1, kvs1, hm1, hd1, hz1, hv1⟩ := hTr.kids pre nd hnd
    have hv := hv1 z
    rw [← hkz] at hv
    have hno' : ∀ i, 0 < i → i < key.length → ops.contains (key.take i, f, true) = false := fun i h1 h2 => hno i h1 (by omega)
    replace F := fr_name3 F m1 m2 m3
    have N2 := news_front N (o := o1) (.tail _ (.tail _ (.tail _ (.tail _ hm1))))
    clear N
    cases hq : T key with
    | none =>
      rw [hq] at hv
      have hv' : valueAt kvs1 z = none := hv
      k_steps
      rw [isO_none hTr hops (pre := key) (List.prefix_refl _) hkn hq (fun i h1 h2 => hno' i h1 h2)] at ret
      rename News _ _ _ _ => NN
      exact ret _ _ (Fr.keep (by assumption)) (fun p hp => ⟨(NN p (.tail _ (.tail _ hp))).1, (NN p (.tail _ (.tail _ hp))).2.2⟩)
    | some nd2 =>
      rw [hq] at hv
      have hv' : valueAt kvs1 z = some (.ref nd2.na) := hv
      obtain ⟨_, lo2, o2, hm2, hd2⟩ := hTr.node _ nd2 hq hkn
      obtain ⟨_, o3, n3, hm3, hS3, hz3⟩ := hTr.rfl' _ nd2 hq hkn
      obtain ⟨_, o4, n4, hm4, hS4, hz4⟩ := hTr.flg _ nd2 hq hkn
      have g1 : valueAt (nodeKvs nd2) (PySem.Str.ofString "recursive_flags") = some (.ref nd2.ra) := by rfl
      have g2 : valueAt (nodeKvs nd2) (PySem.Str.ofString "flags") = some (.ref nd2.fa) := by rfl
      have N3 := news_front (news_front (news_front N2 (o := o2) (.tail _ (.tail _ (.tail _ (.tail _ (.tail _ hm2)))))) (o := o3) (.tail _ (.tail _ (.tail _ (.tail _ (.tail _ (.tail _ hm3))))))) (o := o4) (.tail _ (.tail _ (.tail _ (.tail _ (.tail _ (.tail _ (.tail _ hm4)))))))
      clear N2
      have hsr := hSR key nd2 hq hkn f
      have hfin : isO ops key f = (nd2.S f || nd2.R f) := by rw [isO_own hno', hsr.1, hsr.2]
      rw [hfin] at ret
      cases hS : nd2.S f with
      | true =>
        rw [hS] at ret
        k_steps
        rename News _ _ _ _ => NN
        exact ret _ _ (Fr.keep (by assumption)) (fun p hp => ⟨(NN p (.tail _ (.tail _ (.tail _ (.tail _ (.tail _ hp)))))).1, (NN p (.tail _ (.tail _ (.tail _ (.tail _ (.tail _ hp)))))).2.2⟩)
      | false =>
        rw [hS] at ret
        cases hR : nd2.R f with
        | true =>
          rw [hR] at ret
          k_steps
          rename News _ _ _ _ => NN
          exact ret _ _ (Fr.keep (by assumption)) (fun p hp => ⟨(NN p (.tail _ (.tail _ (.tail _ (.tail _ (.tail _ hp)))))).1, (NN p (.tail _ (.tail _ (.tail _ (.tail _ (.tail _ hp)))))).2.2⟩)
        | false =>
          rw [hR] at ret
          k_steps
          rename News _ _ _ _ => NN
          exact ret _ _ (Fr.keep (by assumption)) (fun p hp => ⟨(NN p (.tail _ (.tail _ (.tail _ (.tail _ (.tail _ hp)))))).1, (NN p (.tail _ (.tail _ (.tail _ (.tail _ (.tail _ hp)))))).2.2⟩)
  · rintro I hI v r m h tk oi ⟨pre, nd, rest, hr, hk, hnd, m1, m2, m3, hno⟩ F N
    obtain _ | ⟨y, ty, hr'⟩ := hr
    rename_i rest
    obtain ⟨z, tz, hgz, hkz⟩ := strs_last hkv hkn
    rw [hk] at hkz
    have hpre : pre ++ [y] <+: key := ⟨rest ++ [z], by rw [hkz]; simp⟩
    have htk : key.take (pre.length + 1) = pre ++ [y] := by
      have := List.prefix_iff_eq_take.mp hpre
      rw [this]; simp
    have hpl : pre.length + 1 < key.length := by rw [hkz]; simp
    obtain ⟨_, lo1, o1, kvs1, hm1, hd1, hz1, hv1⟩ := hTr.kids pre nd hnd
    have hv := hv1 y
    replace F := fr_name3 F m1 m2 m3
    have N2 := news_front N (o := o1) (.tail _ (.tail _ (.tail _ (.tail _ (.tail _ hm1)))))
    clear N
    have hne : pre ++ [y] ≠ [] := by simp
    cases hq : T (pre ++ [y]) with
    | none =>
      rw [hq] at hv
      have hv' : valueAt kvs1 y = none := hv
      k_steps
      rw [isO_none hTr hops hpre hne hq (fun i h1 h2 => hno i h1 (by simp at h2; omega))] at ret
      rename News _ _ _ _ => NN
      exact ret _ _ (Fr.keep (by assumption)) (fun p hp => ⟨(NN p (.tail _ (.tail _ (.tail _ hp)))).1, (NN p (.tail _ (.tail _ (.tail _ hp)))).2.2⟩)
    | some nd2 =>
      rw [hq] at hv
      have hv' : valueAt kvs1 y = some (.ref nd2.na) := hv
      obtain ⟨_, lo2, o2, hm2, hd2⟩ := hTr.node _ nd2 hq hne
      obtain ⟨_, o3, n3, hm3, hS3, hz3⟩ := hTr.rfl' _ nd2 hq hne
      have g1 : valueAt (nodeKvs nd2) (PySem.Str.ofString "recursive_flags") = some (.ref nd2.ra) := by rfl
      have g2 : valueAt (nodeKvs nd2) (PySem.Str.ofString "nested") = some (.ref nd2.ca) := by rfl
      have N3 := news_front (news_front N2 (o := o2) (.tail _ (.tail _ (.tail _ (.tail _ (.tail _ (.tail _ hm2))))))) (o := o3) (.tail _ (.tail _ (.tail _ (.tail _ (.tail _ (.tail _ (.tail _ hm3)))))))
      clear N2
      have hsr := hSR _ nd2 hq hne f
      cases hR : nd2.R f with
      | true =>
        rw [isO_rec (i := pre.length + 1) (by omega) hpl (by rw [htk, ← hsr.2]; exact hR)] at ret
        k_steps
        rename News _ _ _ _ => NN
        exact ret _ _ (Fr.keep (by assumption)) (fun p hp => ⟨(NN p (.tail _ (.tail _ (.tail _ (.tail _ (.tail _ hp)))))).1, (NN p (.tail _ (.tail _ (.tail _ (.tail _ (.tail _ hp)))))).2.2⟩)
      | false =>
        k_steps
        rename News _ _ _ _ => NN
        refine unr_fix (by assumption) (fun p hp => NN p (.tail _ (.tail _ (.tail _ hp)))) hI ⟨pre ++ [y], nd2, rest, hr', by rw [hk]; simp, hq, rfl, rfl, rfl, fun i h1 h2 => ?_⟩
        rw [List.length_append, List.length_singleton] at h2
        by_cases hi : i ≤ pre.length
        · exact hno i h1 hi
        · rw [show i = pre.length + 1 by omega, htk, ← hsr.2]; exact hR

theorem off_G6 : True := by
  w_top off
  exact True.intro
section
open PyProof.V PySem.Spec
theorem valueAt_stored (kvs : List (Str × Value)) (y k : Str) (v : Value) : valueAt (stored kvs y v) k = if k = y then some v else valueAt kvs k := by
  unfold stored
  by_cases hc : kvs.any (fun kv => kv.1 = y) = true
  · rw [if_pos hc]
    induction kvs with
    | nil => simp at hc
    | cons a r ih =>
      unfold valueAt at *
      simp only [List.map_cons, List.find?_cons]
      by_cases ha : a.1 = y
      · by_cases hk : k = y
        · subst hk; simp [ha]
        · have h1 : ¬ y = k := fun e => hk e.symm
          have h2 : ¬ a.1 = k := fun e => hk (e.symm.trans ha)
          simp only [ha, if_true, h1, h2, decide_false, if_neg hk]
          by_cases hr : r.any (fun kv => kv.1 = y) = true
          · have := ih hr
            rw [if_neg hk] at this
            exact this
          · have e : (r.map fun kv => if kv.1 = y then (kv.1, v) else kv) = r := by
              rw [show r = r.map id from (List.map_id r).symm, List.map_map]
              refine List.map_congr_left fun x hx => ?_
              have hx' : ¬ x.1 = y := fun e => hr (List.any_eq_true.mpr ⟨x, hx, by simpa using e⟩)
              simp [hx']
            rw [e]
      · have hr : r.any (fun kv => kv.1 = y) = true := by simpa [ha] using hc
        simp only [ha, if_false]
        by_cases hk : a.1 = k
        · have : ¬ k = y := fun e => ha (hk.trans e)
          simp [hk, this]
        · simp only [hk, decide_false]
          exact ih hr
  · rw [if_neg hc]
    unfold valueAt
    rw [List.find?_append]
    by_cases hk : k = y
    · subst hk
      have : kvs.find? (fun kv => decide (kv.1 = k)) = none := by
        rw [List.find?_eq_none]
        intro x hx e
        exact hc (List.any_eq_true.mpr ⟨x, hx, e⟩)
      simp [this]
    · have h1 : ¬ y = k := fun e => hk e.symm
      simp [h1, hk]
theorem stored_len (kvs : List (Str × Value)) (y : Str) (v : Value) : (stored kvs y v).length ≤ kvs.length + 1 := by
  unfold stored
  split <;> simp
theorem mem_keys {a : Addr} {o : Obj} {tl : List (Addr × Obj)} (h : (a, o) ∈ tl) : a ∈ tl.map (·.1) := List.mem_map.mpr ⟨_, h, rfl⟩
theorem snoc_inj {p q : List Str} {x y : Str} (h : p ++ [x] = q ++ [y]) : p = q ∧ x = y := by
  have h1 := List.append_inj' h rfl
  exact ⟨h1.1, by simpa using h1.2⟩
variable {prog : Program} {w : World} {root : Addr} {tl : List (Addr × Obj)} {B : Nat} {T : List Str → Option Nd} {own : Addr → Option (List Str × Nat)}
theorem Trie.mono {B' : Nat} (h : Trie prog w root tl B T own) (hB : B ≤ B') : Trie prog w root tl B' T own where
  nodup := h.nodup
  root := h.root
  up := h.up
  kids p nd e := let ⟨a, b, o, kvs, c, d, f, g⟩ := h.kids p nd e; ⟨a, b, o, kvs, c, d, Nat.le_trans f hB, g⟩
  node := h.node
  flg p nd e hp := let ⟨a, o, n, b, c, d⟩ := h.flg p nd e hp; ⟨a, o, n, b, c, Nat.le_trans d hB⟩
  rfl' p nd e hp := let ⟨a, o, n, b, c, d⟩ := h.rfl' p nd e hp; ⟨a, o, n, b, c, Nat.le_trans d hB⟩
theorem trie_add (hT : Trie prog w root tl B T own) {p : List Str} {nd : Nd} {y : Str} (hp : T p = some nd) (hq : T (p ++ [y]) = none) {o o' : Obj} {kvs : List (Str × Value)} (hm : (nd.ca, o) ∈ tl) (hz : kvs.length ≤ B)
    (hv : ∀ k, valueAt kvs k = (T (p ++ [k])).map fun x => .ref x.na)
    {na fa ra ca : Addr} {oN oF oR oC : Obj} (hd' : o'.IsDictOf (PySem.strKind prog w) (stored kvs y (.ref na)))
    (n1 : na ∉ tl.map (·.1)) (n2 : fa ∉ tl.map (·.1)) (n3 : ra ∉ tl.map (·.1)) (n4 : ca ∉ tl.map (·.1)) (hnd : [na, fa, ra, ca].Nodup) (s1 : (na == sysModules) = false) (s4 : (ca == sysModules) = false)
    (hN : oN.IsDictOf (PySem.strKind prog w) (nodeKvs ⟨na, fa, ra, ca, fun _ => false, fun _ => false⟩)) (hF : oF.SetObjOf (PySem.intKind prog w) (fun _ => false) 0) (hR : oR.SetObjOf (PySem.intKind prog w) (fun _ => false) 0) (hC : oC.IsDictOf (PySem.strKind prog w) []) :
    Trie prog w root ([(na, oN), (fa, oF), (ra, oR), (ca, oC)] ++ putA tl nd.ca o') (B + 1) (fun q => if q = p ++ [y] then some ⟨na, fa, ra, ca, fun _ => false, fun _ => false⟩ else T q)
      (fun a => if a = na then some (p ++ [y], 0) else if a = fa then some (p ++ [y], 1) else if a = ra then some (p ++ [y], 2) else if a = ca then some (p ++ [y], 3) else own a) := by
  simp only [List.nodup_cons, List.mem_cons, List.not_mem_nil, or_false, not_or, List.nodup_nil, and_true] at hnd
  obtain ⟨⟨d1, d2, d3⟩, ⟨d4, d5⟩, d6, -⟩ := hnd
  have old : ∀ {a : Addr} {ob : Obj}, (a, ob) ∈ tl → a ≠ na ∧ a ≠ fa ∧ a ≠ ra ∧ a ≠ ca := fun h => ⟨fun e => n1 (e ▸ mem_keys h), fun e => n2 (e ▸ mem_keys h), fun e => n3 (e ▸ mem_keys h), fun e => n4 (e ▸ mem_keys h)⟩
  have hnil : ∀ k, T (p ++ [y] ++ [k]) = none := fun k => by
    cases h : T (p ++ [y] ++ [k]) with
    | none => rfl
    | some x => have := hT.up (p ++ [y]) k (by rw [h]; rfl); rw [hq] at this; cases this
  have hpy : p ≠ p ++ [y] := fun e => by have := congrArg List.length e; simp at this
  have hpo := (hT.kids p nd hp).1
  have keep : ∀ {a : Addr} {ob : Obj}, (a, ob) ∈ tl → a ≠ nd.ca → (a, ob) ∈ [(na, oN), (fa, oF), (ra, oR), (ca, oC)] ++ putA tl nd.ca o' := fun h e => List.mem_append_right _ (putA_other h e)
  refine ⟨?_, ?_, ?_, ?_, ?_, ?_, ?_⟩
  · rw [List.map_append, putA_keys]
    refine List.nodup_append.mpr ⟨?_, hT.nodup, ?_⟩
    · simp [d1, d2, d3, d4, d5, d6]
    · intro a ha b hb e
      subst e
      simp only [List.map_cons, List.map_nil, List.mem_cons, List.not_mem_nil, or_false] at ha
      rcases ha with rfl | rfl | rfl | rfl
      · exact n1 hb
      · exact n2 hb
      · exact n3 hb
      · exact n4 hb
  · obtain ⟨x, h1, h2⟩ := hT.root
    exact ⟨x, by rw [if_neg (by simp)]; exact h1, h2⟩
  · intro q k h
    (try dsimp only at h); (try dsimp only)
    by_cases e : q ++ [k] = p ++ [y]
    · obtain ⟨rfl, rfl⟩ := snoc_inj e
      rw [if_neg hpy, hp]; rfl
    · rw [if_neg e] at h
      by_cases e2 : q = p ++ [y]
      · rw [if_pos e2]; rfl
      · rw [if_neg e2]; exact hT.up q k h
  · intro q x h
    (try dsimp only at h); (try dsimp only)
    by_cases e : q = p ++ [y]
    · subst e
      rw [if_pos rfl] at h
      obtain rfl := Option.some.inj h
      dsimp only
      refine ⟨by rw [if_neg (Ne.symm d3), if_neg (Ne.symm d5), if_neg (Ne.symm d6), if_pos rfl], s4, oC, [], by simp, hC, Nat.zero_le _, fun k => ?_⟩
      have e3 : ¬ (p ++ [y] ++ [k] = p ++ [y]) := fun e => by have := congrArg List.length e; simp at this
      rw [if_neg e3, hnil k]; rfl
    · rw [if_neg e] at h
      obtain ⟨a1, a2, ob, kv, a3, a4, a5, a6⟩ := hT.kids q x h
      obtain ⟨c1, c2, c3, c4⟩ := old a3
      refine ⟨by rw [if_neg c1, if_neg c2, if_neg c3, if_neg c4]; exact a1, a2, ?_⟩
      by_cases e2 : q = p
      · subst e2
        rw [hp] at h
        obtain rfl := Option.some.inj h
        refine ⟨o', stored kvs y (.ref na), List.mem_append_right _ (putA_self hm), hd', Nat.le_trans (stored_len _ _ _) (by omega), fun k => ?_⟩
        rw [valueAt_stored]
        by_cases hk : k = y
        · subst hk; rw [if_pos rfl, if_pos rfl]; rfl
        · rw [if_neg hk, if_neg (fun e => hk (snoc_inj e).2)]; exact hv k
      · have hne : x.ca ≠ nd.ca := fun e3 => e2 (by rw [e3, hpo] at a1; exact (Prod.mk.inj (Option.some.inj a1)).1.symm)
        refine ⟨ob, kv, keep a3 hne, a4, by omega, fun k => ?_⟩
        rw [if_neg (fun e => e2 (snoc_inj e).1)]
        exact a6 k
  · intro q x h hne
    (try dsimp only at h); (try dsimp only)
    by_cases e : q = p ++ [y]
    · subst e
      rw [if_pos rfl] at h
      obtain rfl := Option.some.inj h
      exact ⟨by rw [if_pos rfl], s1, oN, by simp, hN⟩
    · rw [if_neg e] at h
      obtain ⟨a1, a2, ob, a3, a4⟩ := hT.node q x h hne
      obtain ⟨c1, c2, c3, c4⟩ := old a3
      exact ⟨by rw [if_neg c1, if_neg c2, if_neg c3, if_neg c4]; exact a1, a2, ob, keep a3 (fun e3 => by rw [e3, hpo] at a1; cases (Prod.mk.inj (Option.some.inj a1)).2), a4⟩
  · intro q x h hne
    (try dsimp only at h); (try dsimp only)
    by_cases e : q = p ++ [y]
    · subst e
      rw [if_pos rfl] at h
      obtain rfl := Option.some.inj h
      exact ⟨by rw [if_neg (Ne.symm d1), if_pos rfl], oF, 0, by simp, hF, Nat.zero_le _⟩
    · rw [if_neg e] at h
      obtain ⟨a1, ob, n, a3, a4, a5⟩ := hT.flg q x h hne
      obtain ⟨c1, c2, c3, c4⟩ := old a3
      exact ⟨by rw [if_neg c1, if_neg c2, if_neg c3, if_neg c4]; exact a1, ob, n, keep a3 (fun e3 => by rw [e3, hpo] at a1; cases (Prod.mk.inj (Option.some.inj a1)).2), a4, by omega⟩
  · intro q x h hne
    (try dsimp only at h); (try dsimp only)
    by_cases e : q = p ++ [y]
    · subst e
      rw [if_pos rfl] at h
      obtain rfl := Option.some.inj h
      exact ⟨by rw [if_neg (Ne.symm d2), if_neg (Ne.symm d4), if_pos rfl], oR, 0, by simp, hR, Nat.zero_le _⟩
    · rw [if_neg e] at h
      obtain ⟨a1, ob, n, a3, a4, a5⟩ := hT.rfl' q x h hne
      obtain ⟨c1, c2, c3, c4⟩ := old a3
      exact ⟨by rw [if_neg c1, if_neg c2, if_neg c3, if_neg c4]; exact a1, ob, n, keep a3 (fun e3 => by rw [e3, hpo] at a1; cases (Prod.mk.inj (Option.some.inj a1)).2), a4, by omega⟩
/-- a flag put into one of a node's sets -/
theorem trie_flag (hT : Trie prog w root tl B T own) {p : List Str} {nd : Nd} (hp : T p = some nd) (hne : p ≠ []) {f : Int} {rec : Bool} {o' : Obj} {n : Nat}
    (hS : o'.SetObjOf (PySem.intKind prog w) (fun k' => (if rec then nd.R k' else nd.S k') || decide (k' = f)) n) (hn : n ≤ B + 1) :
    Trie prog w root (putA tl (if rec then nd.ra else nd.fa) o') (B + 1)
      (fun q => if q = p then some (if rec then { nd with R := fun k' => nd.R k' || decide (k' = f) } else { nd with S := fun k' => nd.S k' || decide (k' = f) }) else T q) own := by
  have hT1 := hT.mono (Nat.le_succ B)
  obtain ⟨f1, of, nf, f2, f3, f4⟩ := hT.flg p nd hp hne
  obtain ⟨r1, orr, nr, r2, r3, r4⟩ := hT.rfl' p nd hp hne
  cases rec with
  | true =>
    simp only [if_true] at hS ⊢
    have keep : ∀ {a : Addr} {ob : Obj}, (a, ob) ∈ tl → a ≠ nd.ra → (a, ob) ∈ putA tl nd.ra o' := fun h e => putA_other h e
    refine ⟨by rw [putA_keys]; exact hT.nodup, ?_, ?_, ?_, ?_, ?_, ?_⟩
    · obtain ⟨x, h1, h2⟩ := hT.root
      exact ⟨x, by rw [if_neg (Ne.symm hne)]; exact h1, h2⟩
    · intro q k h
      (try dsimp only at h); (try dsimp only)
      by_cases e2 : q = p
      · rw [if_pos e2]; rfl
      · rw [if_neg e2]
        by_cases e : q ++ [k] = p
        · exact hT.up q k (by rw [e, hp]; rfl)
        · rw [if_neg e] at h; exact hT.up q k h
    · intro q x h
      (try dsimp only at h); (try dsimp only)
      have key : ∃ x₀, T q = some x₀ ∧ x.ca = x₀.ca := by
        by_cases e : q = p
        · rw [if_pos e] at h; obtain rfl := Option.some.inj h; exact ⟨nd, e ▸ hp, rfl⟩
        · rw [if_neg e] at h; exact ⟨x, h, rfl⟩
      obtain ⟨x₀, hx₀, ec⟩ := key
      obtain ⟨a1, a2, ob, kv, a3, a4, a5, a6⟩ := hT1.kids q x₀ hx₀
      rw [ec]
      refine ⟨a1, a2, ob, kv, keep a3 (fun e3 => by rw [e3, r1] at a1; cases (Prod.mk.inj (Option.some.inj a1)).2), a4, a5, fun k => ?_⟩
      rw [a6 k]
      by_cases e : q ++ [k] = p
      · rw [if_pos e, e, hp]; rfl
      · rw [if_neg e]
    · intro q x h hq
      (try dsimp only at h); (try dsimp only)
      have key : ∃ x₀, T q = some x₀ ∧ x.na = x₀.na ∧ nodeKvs x = nodeKvs x₀ := by
        by_cases e : q = p
        · rw [if_pos e] at h; obtain rfl := Option.some.inj h; exact ⟨nd, e ▸ hp, rfl, rfl⟩
        · rw [if_neg e] at h; exact ⟨x, h, rfl, rfl⟩
      obtain ⟨x₀, hx₀, ec, ek⟩ := key
      obtain ⟨a1, a2, ob, a3, a4⟩ := hT1.node q x₀ hx₀ hq
      rw [ec, ek]
      exact ⟨a1, a2, ob, keep a3 (fun e3 => by rw [e3, r1] at a1; cases (Prod.mk.inj (Option.some.inj a1)).2), a4⟩
    · intro q x h hq
      (try dsimp only at h); (try dsimp only)
      have key : ∃ x₀, T q = some x₀ ∧ x.fa = x₀.fa ∧ x.S = x₀.S := by
        by_cases e : q = p
        · rw [if_pos e] at h; obtain rfl := Option.some.inj h; exact ⟨nd, e ▸ hp, rfl, rfl⟩
        · rw [if_neg e] at h; exact ⟨x, h, rfl, rfl⟩
      obtain ⟨x₀, hx₀, ec, ek⟩ := key
      obtain ⟨a1, ob, n', a3, a4, a5⟩ := hT1.flg q x₀ hx₀ hq
      rw [ec, ek]
      exact ⟨a1, ob, n', keep a3 (fun e3 => by rw [e3, r1] at a1; cases (Prod.mk.inj (Option.some.inj a1)).2), a4, a5⟩
    · intro q x h hq
      (try dsimp only at h); (try dsimp only)
      by_cases e : q = p
      · rw [if_pos e] at h
        obtain rfl := Option.some.inj h
        subst e
        exact ⟨r1, o', n, putA_self r2, hS, hn⟩
      · rw [if_neg e] at h
        obtain ⟨a1, ob, n', a3, a4, a5⟩ := hT1.rfl' q x h hq
        exact ⟨a1, ob, n', keep a3 (fun e3 => by rw [e3, r1] at a1; exact e (Prod.mk.inj (Option.some.inj a1)).1.symm), a4, a5⟩
  | false =>
    simp only [Bool.false_eq_true, if_false] at hS ⊢
    have keep : ∀ {a : Addr} {ob : Obj}, (a, ob) ∈ tl → a ≠ nd.fa → (a, ob) ∈ putA tl nd.fa o' := fun h e => putA_other h e
    refine ⟨by rw [putA_keys]; exact hT.nodup, ?_, ?_, ?_, ?_, ?_, ?_⟩
    · obtain ⟨x, h1, h2⟩ := hT.root
      exact ⟨x, by rw [if_neg (Ne.symm hne)]; exact h1, h2⟩
    · intro q k h
      (try dsimp only at h); (try dsimp only)
      by_cases e2 : q = p
      · rw [if_pos e2]; rfl
      · rw [if_neg e2]
        by_cases e : q ++ [k] = p
        · exact hT.up q k (by rw [e, hp]; rfl)
        · rw [if_neg e] at h; exact hT.up q k h
    · intro q x h
      (try dsimp only at h); (try dsimp only)
      have key : ∃ x₀, T q = some x₀ ∧ x.ca = x₀.ca := by
        by_cases e : q = p
        · rw [if_pos e] at h; obtain rfl := Option.some.inj h; exact ⟨nd, e ▸ hp, rfl⟩
        · rw [if_neg e] at h; exact ⟨x, h, rfl⟩
      obtain ⟨x₀, hx₀, ec⟩ := key
      obtain ⟨a1, a2, ob, kv, a3, a4, a5, a6⟩ := hT1.kids q x₀ hx₀
      rw [ec]
      refine ⟨a1, a2, ob, kv, keep a3 (fun e3 => by rw [e3, f1] at a1; cases (Prod.mk.inj (Option.some.inj a1)).2), a4, a5, fun k => ?_⟩
      rw [a6 k]
      by_cases e : q ++ [k] = p
      · rw [if_pos e, e, hp]; rfl
      · rw [if_neg e]
    · intro q x h hq
      (try dsimp only at h); (try dsimp only)
      have key : ∃ x₀, T q = some x₀ ∧ x.na = x₀.na ∧ nodeKvs x = nodeKvs x₀ := by
        by_cases e : q = p
        · rw [if_pos e] at h; obtain rfl := Option.some.inj h; exact ⟨nd, e ▸ hp, rfl, rfl⟩
        · rw [if_neg e] at h; exact ⟨x, h, rfl, rfl⟩
      obtain ⟨x₀, hx₀, ec, ek⟩ := key
      obtain ⟨a1, a2, ob, a3, a4⟩ := hT1.node q x₀ hx₀ hq
      rw [ec, ek]
      exact ⟨a1, a2, ob, keep a3 (fun e3 => by rw [e3, f1] at a1; cases (Prod.mk.inj (Option.some.inj a1)).2), a4⟩
    · intro q x h hq
      (try dsimp only at h); (try dsimp only)
      by_cases e : q = p
      · rw [if_pos e] at h
        obtain rfl := Option.some.inj h
        subst e
        exact ⟨f1, o', n, putA_self f2, hS, hn⟩
      · rw [if_neg e] at h
        obtain ⟨a1, ob, n', a3, a4, a5⟩ := hT1.flg q x h hq
        exact ⟨a1, ob, n', keep a3 (fun e3 => by rw [e3, f1] at a1; exact e (Prod.mk.inj (Option.some.inj a1)).1.symm), a4, a5⟩
    · intro q x h hq
      (try dsimp only at h); (try dsimp only)
      have key : ∃ x₀, T q = some x₀ ∧ x.ra = x₀.ra ∧ x.R = x₀.R := by
        by_cases e : q = p
        · rw [if_pos e] at h; obtain rfl := Option.some.inj h; exact ⟨nd, e ▸ hp, rfl, rfl⟩
        · rw [if_neg e] at h; exact ⟨x, h, rfl, rfl⟩
      obtain ⟨x₀, hx₀, ec, ek⟩ := key
      obtain ⟨a1, ob, n', a3, a4, a5⟩ := hT1.rfl' q x₀ hx₀ hq
      rw [ec, ek]
      exact ⟨a1, ob, n', keep a3 (fun e3 => by rw [e3, f1] at a1; cases (Prod.mk.inj (Option.some.inj a1)).2), a4, a5⟩
end
section
open PyProof.V PySem.Spec PySem.W
theorem allLt_mem {d : Addr} {l : List (Addr × Obj)} (h : AllLt d l) : ∀ p ∈ l, p.1 < d := by
  induction l with
  | nil => intro p hp; cases hp
  | cons q r ih =>
    intro p hp
    rcases List.mem_cons.mp hp with e | hp
    · rw [e]; exact h.1
    · exact ih h.2 p hp
variable {prog : Program} {w : World} {A : Around} {E : Value → Shared → Prop} {s : Shared} {g : Heap} {L root : Addr} {m : Str → Option Value} {fxx tl : List (Addr × Obj)} {B : Nat} {T : List Str → Option Nd} {own : Addr → Option (List Str × Nat)}
theorem add_node {p : List Str} {nd : Nd} {y : Str} {ty : Tok} {o1 oN oF oR oC : Obj} {kvs1 : List (Str × Value)} {d0 d1 d2 d3 : Addr} {Q : Unit → Shared → Prop}
    (F : Fr g L s.heap m) (N : News g L s.heap ((d0, oC) :: (d1, oR) :: (d2, oF) :: (d3, oN) :: (nd.ca, o1) :: (fxx ++ tl))) (hT : Trie prog w root tl B T own) (hp : T p = some nd) (hq : T (p ++ [y]) = none)
    (hm1 : (nd.ca, o1) ∈ tl) (hd1 : o1.IsDictOf (PySem.strKind prog w) kvs1) (hz1 : kvs1.length ≤ B) (hB : B ≤ 1000) (hv1 : ∀ k, valueAt kvs1 k = (T (p ++ [k])).map fun x => .ref x.na) (hfx : ∀ a ∈ fxx, ∀ r ∈ tl, a.1 ≠ r.1)
    (hlt : ∀ r ∈ fxx ++ tl, r.1 < d3) (c32 : @LT.lt Nat _ d3 d2) (c21 : @LT.lt Nat _ d2 d1) (c10 : @LT.lt Nat _ d1 d0) (s1 : (d3 == sysModules) = false) (s4 : (d0 == sysModules) = false)
    (hN : oN.IsDictOf (PySem.strKind prog w) (nodeKvs ⟨d3, d2, d1, d0, fun _ => false, fun _ => false⟩)) (hF : oF.SetObjOf (PySem.intKind prog w) (fun _ => false) 0) (hR : oR.SetObjOf (PySem.intKind prog w) (fun _ => false) 0) (hC : oC.IsDictOf (PySem.strKind prog w) [])
    (h : ∀ h' o' own', Fr g L h' m → News g L h' (fxx ++ ([(d3, oN), (d2, oF), (d1, oR), (d0, oC)] ++ putA tl nd.ca o')) → o'.IsDictOf (PySem.strKind prog w) (stored kvs1 y (.ref d3)) →
      Trie prog w root ([(d3, oN), (d2, oF), (d1, oR), (d0, oC)] ++ putA tl nd.ca o') (B + 1) (fun q => if q = p ++ [y] then some ⟨d3, d2, d1, d0, fun _ => false, fun _ => false⟩ else T q) own' →
      (∀ a ∈ fxx, ∀ r ∈ ([(d3, oN), (d2, oF), (d1, oR), (d0, oC)] ++ putA tl nd.ca o'), a.1 ≠ r.1) → (nd.ca, o') ∈ ([(d3, oN), (d2, oF), (d1, oR), (d0, oC)] ++ putA tl nd.ca o') → Q () { s with heap := h', toks := s.toks + 1 }) :
    wpAny (model prog w) A (setItem (.ref nd.ca) (.str y ty) (.ref d3)) Q E s := by
  have c20 : @LT.lt Nat _ d2 d0 := Nat.lt_trans c21 c10
  have c31 : @LT.lt Nat _ d3 d1 := Nat.lt_trans c32 c21
  have c30 : @LT.lt Nat _ d3 d0 := Nat.lt_trans c32 c20
  have big : ∀ r ∈ fxx ++ tl, r.1 ≠ d3 ∧ r.1 ≠ d2 ∧ r.1 ≠ d1 ∧ r.1 ≠ d0 := fun r hr => by
    have q : @LT.lt Nat _ r.1 d3 := hlt r hr
    exact ⟨Nat.ne_of_lt q, Nat.ne_of_lt (Nat.lt_trans q c32), Nat.ne_of_lt (Nat.lt_trans q c31), Nat.ne_of_lt (Nat.lt_trans q c30)⟩
  have key : ∀ {d : Addr}, (∀ r ∈ fxx ++ tl, r.1 ≠ d) → d ∉ tl.map (·.1) := fun hd hm => by
    obtain ⟨r, hr, e⟩ := List.mem_map.mp hm
    exact hd r (List.mem_append_right _ hr) e
  obtain ⟨b3, b2, b1, b0⟩ := big _ (List.mem_append_right _ hm1)
  have N' : News g L s.heap (fxx ++ ([(d3, oN), (d2, oF), (d1, oR), (d0, oC)] ++ tl)) := fun r hr => by
    rcases List.mem_append.mp hr with hr | hr
    · exact N r (.tail _ (.tail _ (.tail _ (.tail _ (.tail _ (List.mem_append_left _ hr))))))
    rcases List.mem_append.mp hr with hr | hr
    · simp only [List.mem_cons, List.not_mem_nil, or_false] at hr
      rcases hr with rfl | rfl | rfl | rfl
      · exact N _ (.tail _ (.tail _ (.tail _ (.head _))))
      · exact N _ (.tail _ (.tail _ (.head _)))
      · exact N _ (.tail _ (.head _))
      · exact N _ (.head _)
    · exact N r (.tail _ (.tail _ (.tail _ (.tail _ (.tail _ (List.mem_append_right _ hr))))))
  refine dict_set F N' (List.mem_append_right _ hm1) (fun a ha => hfx a ha _ hm1) hd1 (by omega) fun h' o' F' N'' hd' => ?_
  have e : putA ([(d3, oN), (d2, oF), (d1, oR), (d0, oC)] ++ tl) nd.ca o' = [(d3, oN), (d2, oF), (d1, oR), (d0, oC)] ++ putA tl nd.ca o' := by
    unfold putA
    rw [List.map_append]
    simp [Ne.symm b3, Ne.symm b2, Ne.symm b1, Ne.symm b0]
  rw [e] at N''
  refine h h' o' _ F' N'' hd' (trie_add hT hp hq hm1 hz1 hv1 hd' (key fun r hr => (big r hr).1) (key fun r hr => (big r hr).2.1) (key fun r hr => (big r hr).2.2.1) (key fun r hr => (big r hr).2.2.2) ?_ s1 s4 hN hF hR hC) (fun a ha r hr => ?_) (List.mem_append_right _ (putA_self hm1))
  · simp only [List.nodup_cons, List.mem_cons, List.not_mem_nil, or_false, not_or, List.nodup_nil, and_true, not_false_eq_true]
    exact ⟨⟨Nat.ne_of_lt c32, Nat.ne_of_lt c31, Nat.ne_of_lt c30⟩, ⟨Nat.ne_of_lt c21, Nat.ne_of_lt c20⟩, Nat.ne_of_lt c10⟩
  · obtain ⟨a3, a2, a1, a0⟩ := big a (List.mem_append_left _ ha)
    rcases List.mem_append.mp hr with hr | hr
    · simp only [List.mem_cons, List.not_mem_nil, or_false] at hr
      rcases hr with rfl | rfl | rfl | rfl
      · exact a3
      · exact a2
      · exact a1
      · exact a0
    · have hk : r.1 ∈ tl.map (·.1) := by rw [← putA_keys tl nd.ca o']; exact List.mem_map.mpr ⟨r, hr, rfl⟩
      obtain ⟨q, hq1, hq2⟩ := List.mem_map.mp hk
      rw [← hq2]
      exact hfx a ha q hq1
theorem sr_add {ops : List Op} {p : List Str} {y : Str} {n0 : Nd} (h0 : n0.S = fun _ => false) (h1 : n0.R = fun _ => false) (hq : T (p ++ [y]) = none)
    (hSR : ∀ p nd, T p = some nd → p ≠ [] → ∀ n, nd.S n = ops.contains (p, n, false) ∧ nd.R n = ops.contains (p, n, true)) (hops : ∀ op ∈ ops, op.1 ≠ [] ∧ (T op.1).isSome = true) :
    (∀ q nd, (if q = p ++ [y] then some n0 else T q) = some nd → q ≠ [] → ∀ n, nd.S n = ops.contains (q, n, false) ∧ nd.R n = ops.contains (q, n, true)) ∧ ∀ op ∈ ops, op.1 ≠ [] ∧ (if op.1 = p ++ [y] then some n0 else T op.1).isSome = true := by
  refine ⟨fun q nd h hq' n => ?_, fun op ho => ⟨(hops op ho).1, ?_⟩⟩
  · by_cases e : q = p ++ [y]
    · rw [if_pos e] at h
      obtain rfl := Option.some.inj h
      have hno : ∀ b, ops.contains (q, n, b) = false := fun b => by
        cases hc : ops.contains (q, n, b) with
        | false => rfl
        | true =>
          have := (hops _ (List.contains_iff_mem.mp hc)).2
          dsimp only at this
          rw [e, hq] at this
          cases this
      rw [h0, h1, hno, hno]
      exact ⟨rfl, rfl⟩
    · rw [if_neg e] at h
      exact hSR q nd h hq' n
  · by_cases e : op.1 = p ++ [y]
    · rw [if_pos e]; rfl
    · rw [if_neg e]; exact (hops op ho).2
end
theorem trieis_flag {prog : Program} {w : World} {root : Addr} {tl : List (Addr × Obj)} {B : Nat} {T : List Str → Option Nd} {own : Addr → Option (List Str × Nat)} {ops : List Op} (hT : Trie prog w root tl B T own) {p : List Str} {nd : Nd} (hp : T p = some nd) (hne : p ≠ []) {f : Int} {rec : Bool} {o' : Obj} {n : Nat}
    (hS : o'.SetObjOf (PySem.intKind prog w) (fun k' => (if rec then nd.R k' else nd.S k') || decide (k' = f)) n) (hn : n ≤ B + 1)
    (hSR : ∀ p nd, T p = some nd → p ≠ [] → ∀ n, nd.S n = ops.contains (p, n, false) ∧ nd.R n = ops.contains (p, n, true)) (hops : ∀ op ∈ ops, op.1 ≠ [] ∧ (T op.1).isSome = true) :
    TrieIs prog w root (putA tl (if rec then nd.ra else nd.fa) o') (B + 1) (ops ++ [(p, f, rec)]) := by
  refine ⟨_, own, trie_flag hT hp hne hS hn, fun q x h hq n => ?_, fun op ho => ?_⟩
  · by_cases e : q = p
    · subst e
      rw [if_pos rfl] at h
      obtain rfl := Option.some.inj h
      obtain ⟨a, b⟩ := hSR q nd hp hq n
      cases rec with
      | true =>
        simp only [if_true]
        rw [a, b]
        simp [List.contains_eq_any_beq]
      | false =>
        simp only [Bool.false_eq_true, if_false]
        rw [a, b]
        simp [List.contains_eq_any_beq]
    · rw [if_neg e] at h
      obtain ⟨a, b⟩ := hSR q x h hq n
      rw [a, b]
      simp [e]
  · rcases List.mem_append.mp ho with ho | ho
    · refine ⟨(hops op ho).1, ?_⟩
      by_cases e : op.1 = p
      · rw [if_pos e]; rfl
      · rw [if_neg e]; exact (hops op ho).2
    · rw [List.mem_singleton.mp ho]
      exact ⟨hne, by rw [if_pos rfl]; rfl⟩
theorem apart_put {tl : List (Addr × Obj)} {d : Addr} {o' : Obj} {a : Addr} (h : ∀ r ∈ tl, a ≠ r.1) : ∀ r ∈ putA tl d o', a ≠ r.1 := fun r hr => by
  have hk : r.1 ∈ tl.map (·.1) := by rw [← putA_keys tl d o']; exact List.mem_map.mpr ⟨r, hr, rfl⟩
  obtain ⟨q, hq1, hq2⟩ := List.mem_map.mp hk
  rw [← hq2]
  exact h q hq1

theorem off_G5 : True := by
  w_top off
  exact True.intro
theorem apart_of_nodup {fx tl : List (Addr × Obj)} (h : ((fx ++ tl).map (·.1)).Nodup) : ∀ p ∈ fx, ∀ r ∈ tl, p.1 ≠ r.1 := by
  rw [List.map_append] at h
  intro p hp r hr e
  exact (List.nodup_append.mp h).2.2 _ (List.mem_map.mpr ⟨p, hp, rfl⟩) _ (List.mem_map.mpr ⟨r, hr, rfl⟩) e
theorem ne_of_allLt {d : Addr} {l : List (Addr × Obj)} (h : AllLt d l) : ∀ p ∈ l, p.1 ≠ d := by
  induction l with
  | nil => intro p hp; cases hp
  | cons q r ih =>
    intro p hp
    rcases List.mem_cons.mp hp with e | hp
    · rw [e]; exact Nat.ne_of_lt h.1
    · exact ih h.2 p hp
local macro_rules | `(tactic| k_all) => `(tactic| (first | exact ne_of_allLt (by with_reducible assumption) | exact ne_of_allLt (And.right (by with_reducible assumption)) | exact ne_of_allLt (And.right (And.right (by with_reducible assumption))) | exact ne_of_allLt (And.right (And.right (And.right (by with_reducible assumption)))) | exact ne_of_allLt (And.right (And.right (And.right (And.right (by with_reducible assumption))))) | exact ne_of_allLt (And.right (And.right (And.right (And.right (And.right (by with_reducible assumption)))))) | exact ne_of_allLt (And.right (And.right (And.right (And.right (And.right (And.right (by with_reducible assumption))))))) | exact ne_of_allLt (And.right (And.right (And.right (And.right (And.right (And.right (And.right (by with_reducible assumption)))))))) | exact ne_of_allLt (And.right (And.right (And.right (And.right (And.right (And.right (And.right (And.right (by with_reducible assumption))))))))) | exact ne_of_allLt (And.right (And.right (And.right (And.right (And.right (And.right (And.right (And.right (And.right (by with_reducible assumption)))))))))) | exact ne_of_allLt (And.right (And.right (And.right (And.right (And.right (And.right (And.right (And.right (And.right (And.right (by with_reducible assumption))))))))))) | exact ne_of_allLt (And.right (And.right (And.right (And.right (And.right (And.right (And.right (And.right (And.right (And.right (And.right (by with_reducible assumption)))))))))))) | exact ne_of_allLt (And.right (And.right (And.right (And.right (And.right (And.right (And.right (And.right (And.right (And.right (And.right (And.right (by with_reducible assumption))))))))))))) | exact ne_of_allLt (And.right (And.right (And.right (And.right (And.right (And.right (And.right (And.right (And.right (And.right (And.right (And.right (And.right (by with_reducible assumption))))))))))))))))
local macro_rules | `(tactic| walk_at "assign Tuple") => `(tactic| (k_here; (with_reducible show wpAny _ _ (assign (Expr.Tuple _ _ _) _ (Value.ref _)) _ _ _); k_dflt (refine' unpackN_ ?F ?N ?T ?k1 ?k2 ?k3 ?_; (case F => k_asm); (case N => k_asm); (case T => first | with_reducible assumption | (refine News.isTup (by k_asm) (by k_mem))); (case k1 => assumption); (case k2 => exact rfl); (case k3 => exact rfl)); intro h' F' N'; (try k_sweep); dsimp only [assignEach, List.map]))
local macro_rules | `(tactic| walk_at "exec For Name Name cons nil") => `(tactic| (k_here; (rename Fr _ _ _ _ => lF'); (with_unfolding_all refine' For_turns lF' ?_; k_whole)))
theorem c_set : ∀ {w : World} {p : Program} {loose : List Str} {mean : ExcName → Option Value} {mg mb : Str → Option Value} {A : Around} {s : Shared} {R : Result → Shared → Prop} {g : Heap} {x dx root q ka : Addr} {t1 t2 : Tok} {tl : List (Addr × Obj)} {B : Nat} {ops : List Op} {kvs : List Value} {key : List Str} {f : Int} {tf : Tok} {rec : Bool}
    (_ : Keep g s.heap) (_ : g.objs.size ≤ s.heap.objs.size) (_ : Apart g s.heap ((x, instObj 181 dx) :: (dx, dictOf (flagEs w root q t1 t2) 2) :: (ka, { cls := .type "tuple", data := .seq kvs.toArray }) :: tl)) (_ : (Mine.hd.heap_39 w.params).In g) (_ : Top p loose mean mg mb g) (_ : A.depth + 3 < recursionLimit) (_ : A.units + 9 < cLine) (_ : A.handled = none)
    (_ : TrieIs PySem.Challenge.rw_in0137_01.row.prog w root tl B ops) (_ : B + key.length + 1 ≤ 1000) (_ : StrsAre kvs key) (_ : key.length ≤ 1000) (_ : key ≠ []) (_ : (((x, instObj 181 dx) :: (dx, dictOf (flagEs w root q t1 t2) 2) :: (ka, { cls := .type "tuple", data := .seq kvs.toArray }) :: tl).map (·.1)).Nodup)
    (_ : ∀ h' tk tl', Keep g h' → Apart g h' ((x, instObj 181 dx) :: (dx, dictOf (flagEs w root q t1 t2) 2) :: (ka, { cls := .type "tuple", data := .seq kvs.toArray }) :: tl') → (∀ p ∈ [(x, instObj 181 dx), (dx, dictOf (flagEs w root q t1 t2) 2), (ka, ({ cls := .type "tuple", data := .seq kvs.toArray } : Obj))], ∀ r ∈ tl', p.1 ≠ r.1) → TrieIs PySem.Challenge.rw_in0137_01.row.prog w root tl' (B + key.length + 1) (ops ++ [(key, f, rec)]) → R (.ok (.ret .none)) { s with heap := h', toks := tk }),
    codeAny (model PySem.Challenge.rw_in0137_01.row.prog w) A (.call (.ref 171) ⟨[.ref x, .ref ka, .int f tf], [("recursive", .bool rec)]⟩) R s := by
  k_fill
  intro w p loose mean mg mb A s R g x dx root q ka t1 t2 tl B ops kvs key f tf rec hg hgs hap X T hd hu hh hT hB hkv hkl hkn hnd ret
  refine' enter_g (binds := [("self", .ref x), ("key", .ref ka), ("flag", .int f tf), ("recursive", .bool rec)]) hg hgs hap X T.nolimit ?ho ?hcd ?hroom ?hbind ?hloc ?h ?hco ?hgen ?hk ?hcell
  case ho => k_is
  case hcd => k_is
  case hroom => omega
  case hbind => exact BindsTo.of_eq rfl
  case hloc => exact locs rfl
  case hco => rfl
  case hgen => rfl
  case hk => rfl
  case hcell => decide
  intro L' h₁ F' N' l0
  (try dsimp only)
  have hvn : kvs ≠ [] := by rintro rfl; exact hkn (by cases hkv; rfl)
  have hvl : kvs.length ≤ 1000 := by rw [strs_len hkv]; exact hkl
  obtain ⟨z, tz, hgz, hkz⟩ := strs_last hkv hkn
  k_steps
  refine Stop.out ?_
  refine unpackItemsN_ (by assumption) (by assumption) (News.isTup (by assumption) (.head _)) hh rfl (fun h' F' N' => ?_)
  k_steps
  refine Stop.out ?_
  rename_i D1 h3 l1a D2 h2 l1b hA hB F N
  obtain ⟨T, own, hTr, hSR, hops⟩ := hT
  obtain ⟨nd0, hnd0, hroot⟩ := hTr.root
  have hap0 : ∀ p ∈ [(D1, ({ cls := .type "tuple", data := .seq kvs.dropLast.toArray } : Obj)), (x, instObj 181 dx), (dx, dictOf (flagEs w root q t1 t2) 2), (ka, { cls := .type "tuple", data := .seq kvs.toArray })], ∀ r ∈ tl, p.1 ≠ r.1 := by
    intro p hp r hr
    rcases List.mem_cons.mp hp with rfl | hp
    · exact (ne_of_allLt l1a.2.2.2 r hr).symm
    · exact apart_of_nodup (fx := [(x, instObj 181 dx), (dx, dictOf (flagEs w root q t1 t2) 2), (ka, { cls := .type "tuple", data := .seq kvs.toArray })]) hnd p hp r hr
  have hltD : ∀ r ∈ tl, True := fun _ _ => trivial
  refine tup_inv (fun rem m n => ∃ tl' T' own' pre nd rest, n = [(D1, ({ cls := .type "tuple", data := .seq kvs.dropLast.toArray } : Obj)), (x, instObj 181 dx), (dx, dictOf (flagEs w root q t1 t2) 2), (ka, { cls := .type "tuple", data := .seq kvs.toArray })] ++ tl' ∧
      StrsAre rem rest ∧ key.dropLast = pre ++ rest ∧ Trie PySem.Challenge.rw_in0137_01.row.prog w root tl' (B + pre.length) T' own' ∧ T' pre = some nd ∧
      (∀ p ∈ [(D1, ({ cls := .type "tuple", data := .seq kvs.dropLast.toArray } : Obj)), (x, instObj 181 dx), (dx, dictOf (flagEs w root q t1 t2) 2), (ka, { cls := .type "tuple", data := .seq kvs.toArray })], ∀ r ∈ tl', p.1 ≠ r.1) ∧
      m (PySem.Str.ofString "cont") = some (.ref nd.ca) ∧ m (PySem.Str.ofString "flag") = some (.int f tf) ∧ m (PySem.Str.ofString "key_stem") = some (.str z tz) ∧ m (PySem.Str.ofString "recursive") = some (.bool rec) ∧
      (∀ p nd, T' p = some nd → p ≠ [] → ∀ n, nd.S n = ops.contains (p, n, false) ∧ nd.R n = ops.contains (p, n, true)) ∧ ∀ op ∈ ops, op.1 ≠ [] ∧ (T' op.1).isSome = true) hh F (fun p hp => N p (.tail _ hp)) (.head _) rfl rfl
    ⟨tl, T, own, [], nd0, key.dropLast, rfl, strs_dropLast hkv, rfl, hTr, hnd0, hap0, by rw [hroot]; rfl, rfl, rfl, rfl, hSR, hops⟩ ?_ ?_
  · clear F N hltD hSR hops hTr
    rintro m _ h tk ⟨tl', T', own', pre, nd, rest, rfl, hr, hk, hTr, hpn, hapx, m1, m2, m3, m4, hSR, hops⟩ F N
    have hrest : rest = [] := by cases hr; rfl
    subst hrest
    rw [List.append_nil] at hk
    rw [hk] at hkz
    subst hkz
    obtain ⟨_, lo1, o1, kvs1, hm1, hd1, hz1, hv1⟩ := hTr.kids pre nd hpn
    have hv := hv1 z
    replace F := fr_name4 F m1 m2 m3 m4
    have hne : pre ++ [z] ≠ [] := by simp
    have hlen : (pre ++ [z]).length = pre.length + 1 := by simp
    rw [hlen] at hB ret
    cases hq : T' (pre ++ [z]) with
    | some nd2 =>
      rw [hq] at hv
      have hv' : valueAt kvs1 z = some (.ref nd2.na) := hv
      obtain ⟨_, lo2, o2, hm2, hd2⟩ := hTr.node _ nd2 hq hne
      cases rec with
      | true =>
        obtain ⟨_, o3, n3, hm3, hS3, hz3⟩ := hTr.rfl' _ nd2 hq hne
        have g2 : valueAt (nodeKvs nd2) (PySem.Str.ofString "recursive_flags") = some (.ref nd2.ra) := by rfl
        have N3 := news_front (news_front (news_front N (o := o1) (.tail _ (.tail _ (.tail _ (.tail _ hm1))))) (o := o2) (.tail _ (.tail _ (.tail _ (.tail _ (.tail _ hm2)))))) (o := o3) (.tail _ (.tail _ (.tail _ (.tail _ (.tail _ (.tail _ hm3))))))
        clear N
        k_steps
        rename News _ _ _ _ => NN
        refine set_add (fx := [(D1, ({ cls := .type "tuple", data := .seq kvs.dropLast.toArray } : Obj)), (x, instObj 181 dx), (dx, dictOf (flagEs w root q t1 t2) 2), (ka, { cls := .type "tuple", data := .seq kvs.toArray })]) (tl := tl') (by assumption) (fun p hp => NN p (.tail _ (.tail _ (.tail _ hp)))) hm3 (fun p hp => hapx p hp _ hm3) hS3 (by omega) ?_
        intro h' o' F N hS'
        clear NN
        k_steps
        rename News _ _ _ _ => NN
        exact ret _ _ _ (Fr.keep (by assumption)) (fun p hp => ⟨(NN p (.tail _ hp)).1, (NN p (.tail _ hp)).2.2⟩) (fun p hp => apart_put (hapx p (.tail _ hp))) (trieis_flag (B := B + (pre.length + 1)) (rec := true) (hTr.mono (by omega)) hq hne hS' (by split <;> omega) hSR hops)
      | false =>
        obtain ⟨_, o3, n3, hm3, hS3, hz3⟩ := hTr.flg _ nd2 hq hne
        have g2 : valueAt (nodeKvs nd2) (PySem.Str.ofString "flags") = some (.ref nd2.fa) := by rfl
        have N3 := news_front (news_front (news_front N (o := o1) (.tail _ (.tail _ (.tail _ (.tail _ hm1))))) (o := o2) (.tail _ (.tail _ (.tail _ (.tail _ (.tail _ hm2)))))) (o := o3) (.tail _ (.tail _ (.tail _ (.tail _ (.tail _ (.tail _ hm3))))))
        clear N
        k_steps
        rename News _ _ _ _ => NN
        refine set_add (fx := [(D1, ({ cls := .type "tuple", data := .seq kvs.dropLast.toArray } : Obj)), (x, instObj 181 dx), (dx, dictOf (flagEs w root q t1 t2) 2), (ka, { cls := .type "tuple", data := .seq kvs.toArray })]) (tl := tl') (by assumption) (fun p hp => NN p (.tail _ (.tail _ (.tail _ hp)))) hm3 (fun p hp => hapx p hp _ hm3) hS3 (by omega) ?_
        intro h' o' F N hS'
        clear NN
        k_steps
        rename News _ _ _ _ => NN
        exact ret _ _ _ (Fr.keep (by assumption)) (fun p hp => ⟨(NN p (.tail _ hp)).1, (NN p (.tail _ hp)).2.2⟩) (fun p hp => apart_put (hapx p (.tail _ hp))) (trieis_flag (B := B + (pre.length + 1)) (rec := false) (hTr.mono (by omega)) hq hne hS' (by split <;> omega) hSR hops)
    | none =>
      rw [hq] at hv
      have hv' : valueAt kvs1 z = none := hv
      have N3 := news_front N (o := o1) (.tail _ (.tail _ (.tail _ (.tail _ hm1))))
      clear N
      k_steps
      rename_i d3 h4 oX lo3 hd3 l3 d2 h3 led1 hs2 hz2 l2 d1 h2 led0 hs1 hz1x l1 d0 h1 oC F1 N1 loC hsC fs hi fi lC hF oN FN NN hdN
      refine add_node (fxx := [(D1, ({ cls := .type "tuple", data := .seq kvs.dropLast.toArray } : Obj)), (x, instObj 181 dx), (dx, dictOf (flagEs w root q t1 t2) 2), (ka, { cls := .type "tuple", data := .seq kvs.toArray })])
        FN NN hTr hpn hq hm1 hd1 hz1 (by omega) hv1 (fun a ha r hr => hapx a ha r hr) (fun r hr => allLt_mem l3.2 r hr) l2.1 l1.1 lC.1 lo3 loC hdN hs2 hs1 hsC ?_
      intro h' o' own2 F N hd' hTr2 hapx2 hmem
      have hv2 : valueAt (stored kvs1 z (.ref d3)) z = some (.ref d3) := by rw [valueAt_stored, if_pos rfl]
      have hdN' : oN.IsDictOf (PySem.strKind PySem.Challenge.rw_in0137_01.row.prog w) (nodeKvs ⟨d3, d2, d1, d0, fun _ => false, fun _ => false⟩) := hdN
      have hsr2 := sr_add (n0 := ⟨d3, d2, d1, d0, fun _ => false, fun _ => false⟩) rfl rfl hq hSR hops
      have N5 := news_front (news_front N (o := o') (List.mem_append_right _ hmem)) (o := oN) (.tail _ (List.mem_append_right _ (List.mem_append_left _ (.head _))))
      cases rec with
      | true =>
        have g2 : valueAt (nodeKvs ⟨d3, d2, d1, d0, fun _ => false, fun _ => false⟩) (PySem.Str.ofString "recursive_flags") = some (.ref d1) := by rfl
        have hz00 : (0 : Nat) ≤ 2000 := by decide
        have N6 := news_front N5 (a := d1) (o := { cls := .type "set", data := .set #[] 0 (.fresh 0 0 led0) }) (.tail _ (.tail _ (List.mem_append_right _ (List.mem_append_left _ (.tail _ (.tail _ (.head _)))))))
        clear N5 N FN NN F1 N1 hdN
        k_steps
        rename News _ _ _ _ => NN
        refine set_add (fx := [(D1, ({ cls := .type "tuple", data := .seq kvs.dropLast.toArray } : Obj)), (x, instObj 181 dx), (dx, dictOf (flagEs w root q t1 t2) 2), (ka, { cls := .type "tuple", data := .seq kvs.toArray })]) (tl := _) (by assumption) (fun p hp => NN p (.tail _ (.tail _ (.tail _ hp)))) (List.mem_append_left _ (.tail _ (.tail _ (.head _)))) (fun p hp => hapx2 p hp _ (List.mem_append_left _ (.tail _ (.tail _ (.head _))))) hs1 (by omega) ?_
        intro h' o' F N hS'
        clear NN
        k_steps
        rename News _ _ _ _ => NN
        exact ret _ _ _ (Fr.keep (by assumption)) (fun p hp => ⟨(NN p (.tail _ hp)).1, (NN p (.tail _ hp)).2.2⟩) (fun p hp => apart_put (hapx2 p (.tail _ hp))) (trieis_flag (B := B + (pre.length + 1)) (rec := true) (nd := ⟨d3, d2, d1, d0, fun _ => false, fun _ => false⟩) hTr2 (if_pos rfl) hne hS' (by split <;> omega) hsr2.1 hsr2.2)
      | false =>
        have g2 : valueAt (nodeKvs ⟨d3, d2, d1, d0, fun _ => false, fun _ => false⟩) (PySem.Str.ofString "flags") = some (.ref d2) := by rfl
        have hz00 : (0 : Nat) ≤ 2000 := by decide
        have N6 := news_front N5 (a := d2) (o := { cls := .type "set", data := .set #[] 0 (.fresh 0 0 led1) }) (.tail _ (.tail _ (List.mem_append_right _ (List.mem_append_left _ (.tail _ (.head _))))))
        clear N5 N FN NN F1 N1 hdN
        k_steps
        rename News _ _ _ _ => NN
        refine set_add (fx := [(D1, ({ cls := .type "tuple", data := .seq kvs.dropLast.toArray } : Obj)), (x, instObj 181 dx), (dx, dictOf (flagEs w root q t1 t2) 2), (ka, { cls := .type "tuple", data := .seq kvs.toArray })]) (tl := _) (by assumption) (fun p hp => NN p (.tail _ (.tail _ (.tail _ hp)))) (List.mem_append_left _ (.tail _ (.head _))) (fun p hp => hapx2 p hp _ (List.mem_append_left _ (.tail _ (.head _)))) hs2 (by omega) ?_
        intro h' o' F N hS'
        clear NN
        k_steps
        rename News _ _ _ _ => NN
        exact ret _ _ _ (Fr.keep (by assumption)) (fun p hp => ⟨(NN p (.tail _ hp)).1, (NN p (.tail _ hp)).2.2⟩) (fun p hp => apart_put (hapx2 p (.tail _ hp))) (trieis_flag (B := B + (pre.length + 1)) (rec := false) (nd := ⟨d3, d2, d1, d0, fun _ => false, fun _ => false⟩) hTr2 (if_pos rfl) hne hS' (by split <;> omega) hsr2.1 hsr2.2)
  · clear F N hltD hSR hops hTr
    rintro I hI v r m _ h tk oi ⟨tl', T', own', pre, nd, rest, rfl, hr, hk, hTr, hpn, hapx, m1, m2, m3, m4, hSR, hops⟩ hI' F N
    obtain _ | ⟨y, ty, hr'⟩ := hr
    rename_i rest
    rw [hk] at hkz
    have hpl : pre.length + 1 < key.length := by rw [hkz]; simp
    obtain ⟨_, lo1, o1, kvs1, hm1, hd1, hz1, hv1⟩ := hTr.kids pre nd hpn
    have hv := hv1 y
    replace F := fr_name4 F m1 m2 m3 m4
    have hne : pre ++ [y] ≠ [] := by simp
    cases hq : T' (pre ++ [y]) with
    | some nd2 =>
      rw [hq] at hv
      have hv' : valueAt kvs1 y = some (.ref nd2.na) := hv
      obtain ⟨_, lo2, o2, hm2, hd2⟩ := hTr.node _ nd2 hq hne
      have g2 : valueAt (nodeKvs nd2) (PySem.Str.ofString "nested") = some (.ref nd2.ca) := by rfl
      have N3 := news_front (news_front N (o := o1) (.tail _ (.tail _ (.tail _ (.tail _ (.tail _ hm1)))))) (o := o2) (.tail _ (.tail _ (.tail _ (.tail _ (.tail _ (.tail _ hm2))))))
      clear N
      k_steps
      rename News _ _ _ _ => NN
      refine unr_end (by assumption) (fun p hp => NN p (.tail _ (.tail _ hp))) hI' (.head _) ⟨tl', T', own', pre ++ [y], nd2, rest, rfl, hr', by rw [hk]; simp, hTr.mono (by simp), hq, hapx, rfl, rfl, rfl, rfl, hSR, hops⟩
    | none =>
      rw [hq] at hv
      have hv' : valueAt kvs1 y = none := hv
      have N3 := news_front N (o := o1) (.tail _ (.tail _ (.tail _ (.tail _ (.tail _ hm1)))))
      clear N
      k_steps
      rename_i d3 h4 oX lo3 hd3 l3 d2 h3 led1 hs2 hz2 l2 d1 h2 led0 hs1 hz1x l1 d0 h1 oC F1 N1 loC hsC fs hi fi lC hF oN FN NN hdN
      refine add_node (fxx := (I, oi) :: [(D1, ({ cls := .type "tuple", data := .seq kvs.dropLast.toArray } : Obj)), (x, instObj 181 dx), (dx, dictOf (flagEs w root q t1 t2) 2), (ka, { cls := .type "tuple", data := .seq kvs.toArray })])
        FN NN hTr hpn hq hm1 hd1 hz1 (by omega) hv1 (fun a ha r hr => ?_) (fun r hr => ?_) l2.1 l1.1 lC.1 lo3 loC hdN hs2 hs1 hsC ?_
      · rcases List.mem_cons.mp ha with rfl | ha
        · exact (hI' r (List.mem_append_right _ hr)).symm
        · exact hapx a ha r hr
      · rcases List.mem_cons.mp hr with rfl | hr
        · exact l3.2.1
        · exact allLt_mem l3.2.2 r hr
      · intro h' o' own2 F N hd' hTr2 hapx2 hmem
        have hv2 : valueAt (stored kvs1 y (.ref d3)) y = some (.ref d3) := by rw [valueAt_stored, if_pos rfl]
        have g2 : valueAt (nodeKvs ⟨d3, d2, d1, d0, fun _ => false, fun _ => false⟩) (PySem.Str.ofString "nested") = some (.ref d0) := by rfl
        have hdN' : oN.IsDictOf (PySem.strKind PySem.Challenge.rw_in0137_01.row.prog w) (nodeKvs ⟨d3, d2, d1, d0, fun _ => false, fun _ => false⟩) := hdN
        have N5 := news_front (news_front N (o := o') (List.mem_append_right _ hmem)) (o := oN) (.tail _ (List.mem_append_right _ (List.mem_append_left _ (.head _))))
        clear N FN NN F1 N1 hdN
        have hsr2 := sr_add (n0 := ⟨d3, d2, d1, d0, fun _ => false, fun _ => false⟩) rfl rfl hq hSR hops
        have hpp : pre ≠ pre ++ [y] := fun e => by have := congrArg List.length e; simp at this
        k_steps
        rename News _ _ _ _ => NN
        refine unr_end (by assumption) (fun p hp => NN p (.tail _ (.tail _ hp))) (fun p hp => ?_) (.head _) ⟨_, _, own2, pre ++ [y], ⟨d3, d2, d1, d0, fun _ => false, fun _ => false⟩, rest, rfl, hr', by rw [hk]; simp, hTr2.mono (by simp; omega), if_pos rfl, fun p hp r hr => hapx2 p (.tail _ hp) r hr, rfl, rfl, rfl, rfl, hsr2.1, hsr2.2⟩
        rcases List.mem_append.mp hp with hp | hp
        · exact hI' p (List.mem_append_left _ hp)
        · exact (hapx2 _ (.head _) p hp).symm

theorem off_G7 : True := by
  w_top off
  exact True.intro
section
open PyProof.V PySem.Spec PySem.W
theorem valueAt_without (kvs : List (Str × Value)) (y k : Str) : valueAt (without kvs y) k = if k = y then none else valueAt kvs k := by
  unfold without valueAt
  induction kvs with
  | nil => simp
  | cons a r ih =>
    by_cases ha : a.1 = y
    · have e : (a :: r).filter (fun kv => decide (kv.1 ≠ y)) = r.filter (fun kv => decide (kv.1 ≠ y)) := by simp [ha]
      rw [e, ih]
      by_cases hk : k = y
      · rw [if_pos hk, if_pos hk]
      · rw [if_neg hk, if_neg hk]
        have : ¬ a.1 = k := fun e => hk (e.symm.trans ha)
        simp [this]
    · have e : (a :: r).filter (fun kv => decide (kv.1 ≠ y)) = a :: r.filter (fun kv => decide (kv.1 ≠ y)) := by simp [ha]
      rw [e]
      simp only [List.find?_cons]
      by_cases hak : a.1 = k
      · have : ¬ k = y := fun e => ha (hak.trans e)
        simp [hak, this]
      · simp only [hak, decide_false]
        exact ih
variable {prog : Program} {w : World} {root : Addr} {tl : List (Addr × Obj)} {B : Nat} {T : List Str → Option Nd} {own : Addr → Option (List Str × Nat)}
theorem trie_pop (hT : Trie prog w root tl B T own) {p : List Str} {nd : Nd} {z : Str} (hp : T p = some nd) {o o' : Obj} {kvs : List (Str × Value)} (hm : (nd.ca, o) ∈ tl) (hz : kvs.length ≤ B)
    (hv : ∀ k, valueAt kvs k = (T (p ++ [k])).map fun x => .ref x.na) (hd' : o'.IsDictOf (PySem.strKind prog w) (without kvs z)) :
    Trie prog w root (putA tl nd.ca o') B (fun q => if (p ++ [z]) <+: q then none else T q) own := by
  have hpo := (hT.kids p nd hp).1
  have get : ∀ {q : List Str} {x : Nd}, (if (p ++ [z]) <+: q then none else T q) = some x → ¬ (p ++ [z]) <+: q ∧ T q = some x := fun {q x} h => by
    by_cases e : (p ++ [z]) <+: q
    · rw [if_pos e] at h; cases h
    · rw [if_neg e] at h; exact ⟨e, h⟩
  have hself : ¬ (p ++ [z]) <+: p := fun h => by have := h.length_le; simp at this; omega
  have snoc : ∀ {q : List Str} {k : Str}, (p ++ [z]) <+: q ++ [k] → ¬ (p ++ [z]) <+: q → q = p ∧ k = z := fun {q k} h1 h2 => by
    rcases List.prefix_concat_iff.mp h1 with h | h
    · obtain ⟨a, b⟩ := snoc_inj h; exact ⟨a.symm, b.symm⟩
    · exact absurd h h2
  have keep : ∀ {a : Addr} {ob : Obj}, (a, ob) ∈ tl → a ≠ nd.ca → (a, ob) ∈ putA tl nd.ca o' := fun h e => putA_other h e
  refine ⟨by rw [putA_keys]; exact hT.nodup, ?_, ?_, ?_, ?_, ?_, ?_⟩
  · obtain ⟨x, h1, h2⟩ := hT.root
    exact ⟨x, by rw [if_neg (by simp)]; exact h1, h2⟩
  · intro q k h
    obtain ⟨x, hx⟩ := Option.isSome_iff_exists.mp h
    obtain ⟨h1, h2⟩ := get hx
    have h3 : ¬ (p ++ [z]) <+: q := fun e => h1 (e.trans (List.prefix_append _ _))
    show (if (p ++ [z]) <+: q then none else T q).isSome = true
    rw [if_neg h3]
    exact hT.up q k (by rw [h2]; rfl)
  · intro q x h
    obtain ⟨h1, h2⟩ := get h
    obtain ⟨a1, a2, ob, kv, a3, a4, a5, a6⟩ := hT.kids q x h2
    refine ⟨a1, a2, ?_⟩
    by_cases e2 : q = p
    · subst e2
      rw [hp] at h2
      obtain rfl := Option.some.inj h2
      refine ⟨o', without kvs z, putA_self hm, hd', Nat.le_trans (List.length_filter_le _ _) hz, fun k => ?_⟩
      rw [valueAt_without]
      show _ = Option.map _ (if (q ++ [z]) <+: q ++ [k] then none else T (q ++ [k]))
      by_cases hk : k = z
      · subst hk; rw [if_pos rfl, if_pos (List.prefix_refl _)]; rfl
      · rw [if_neg hk, if_neg (fun e => hk (snoc e hself).2)]; exact hv k
    · have hne : x.ca ≠ nd.ca := fun e3 => e2 (by rw [e3, hpo] at a1; exact (Prod.mk.inj (Option.some.inj a1)).1.symm)
      refine ⟨ob, kv, keep a3 hne, a4, a5, fun k => ?_⟩
      show _ = Option.map _ (if (p ++ [z]) <+: q ++ [k] then none else T (q ++ [k]))
      rw [if_neg (fun e => e2 (snoc e h1).1)]
      exact a6 k
  · intro q x h hne
    obtain ⟨h1, h2⟩ := get h
    obtain ⟨a1, a2, ob, a3, a4⟩ := hT.node q x h2 hne
    exact ⟨a1, a2, ob, keep a3 (fun e3 => by rw [e3, hpo] at a1; cases (Prod.mk.inj (Option.some.inj a1)).2), a4⟩
  · intro q x h hne
    obtain ⟨h1, h2⟩ := get h
    obtain ⟨a1, ob, n, a3, a4, a5⟩ := hT.flg q x h2 hne
    exact ⟨a1, ob, n, keep a3 (fun e3 => by rw [e3, hpo] at a1; cases (Prod.mk.inj (Option.some.inj a1)).2), a4, a5⟩
  · intro q x h hne
    obtain ⟨h1, h2⟩ := get h
    obtain ⟨a1, ob, n, a3, a4, a5⟩ := hT.rfl' q x h2 hne
    exact ⟨a1, ob, n, keep a3 (fun e3 => by rw [e3, hpo] at a1; cases (Prod.mk.inj (Option.some.inj a1)).2), a4, a5⟩
def cutO (ops : List Op) (key : List Str) : List Op := ops.filter fun op => !(key.isPrefixOf op.1)
theorem cutO_contains (ops : List Op) (key q : List Str) (n : Int) (b : Bool) (h : ¬ key <+: q) : (cutO ops key).contains (q, n, b) = ops.contains (q, n, b) := by
  have hp : key.isPrefixOf q = false := by
    cases e : key.isPrefixOf q with
    | false => rfl
    | true => exact absurd (List.isPrefixOf_iff_prefix.mp e) h
  cases hc : ops.contains (q, n, b) with
  | true =>
    have hm := List.contains_iff_mem.mp hc
    exact List.contains_iff_mem.mpr (List.mem_filter.mpr ⟨hm, by simp [hp]⟩)
  | false =>
    cases hc' : (cutO ops key).contains (q, n, b) with
    | false => rfl
    | true =>
      have hm := List.contains_iff_mem.mp hc'
      have := List.contains_iff_mem.mpr (List.mem_filter.mp hm).1
      rw [hc] at this; cases this
theorem trieis_pop (hT : Trie prog w root tl B T own) {ops : List Op} {p : List Str} {nd : Nd} {z : Str} (hp : T p = some nd) {o o' : Obj} {kvs : List (Str × Value)} (hm : (nd.ca, o) ∈ tl) (hz : kvs.length ≤ B)
    (hv : ∀ k, valueAt kvs k = (T (p ++ [k])).map fun x => .ref x.na) (hd' : o'.IsDictOf (PySem.strKind prog w) (without kvs z))
    (hSR : ∀ p nd, T p = some nd → p ≠ [] → ∀ n, nd.S n = ops.contains (p, n, false) ∧ nd.R n = ops.contains (p, n, true)) (hops : ∀ op ∈ ops, op.1 ≠ [] ∧ (T op.1).isSome = true) :
    TrieIs prog w root (putA tl nd.ca o') B (cutO ops (p ++ [z])) := by
  refine ⟨_, own, trie_pop hT hp hm hz hv hd', fun q x h hq n => ?_, fun op ho => ?_⟩
  · by_cases e : (p ++ [z]) <+: q
    · rw [if_pos e] at h; cases h
    · rw [if_neg e] at h
      rw [cutO_contains _ _ _ _ _ e, cutO_contains _ _ _ _ _ e]
      exact hSR q x h hq n
  · obtain ⟨h1, h2⟩ := List.mem_filter.mp ho
    have h3 : ¬ (p ++ [z]) <+: op.1 := fun e => by rw [List.isPrefixOf_iff_prefix.mpr e] at h2; cases h2
    exact ⟨(hops op h1).1, by rw [if_neg h3]; exact (hops op h1).2⟩
theorem dict_popm {A : Around} {E : Value → Shared → Prop} {s : Shared} {h₀ : Heap} {L d : Addr} {news : List (Addr × Obj)} {o : Obj} {kvs : List (Str × Value)} {pl : Sem Bool} {Q : Value × List Value → Shared → Prop} (N : News h₀ L s.heap news) (hp : (d, o) ∈ news) (hd : o.IsDictOf (PySem.strKind prog w) kvs) (h : Q (.builtin "dict.pop", [.ref d]) s) :
    wpAny (model prog w) A (getMethod (.ref d) "pop" pl) Q E s := kob_method PySem.F.slot_dict_pop PySem.F.type_dict_pop N hp hd h
end
local macro_rules | `(tactic| walk_at "getMethod ref") => `(tactic| (k_here; (with_reducible show wpAny _ _ (getMethod (Value.ref _) (PySem.Str.ofString "pop") _) _ _ _); k_dflt (refine' dict_popm ?N ?m ?d ?_; (case N => k_asm); (case m => k_mem); (case d => assumption))))
theorem c_unset : ∀ {w : World} {p : Program} {loose : List Str} {mean : ExcName → Option Value} {mg mb : Str → Option Value} {A : Around} {s : Shared} {R : Result → Shared → Prop} {g : Heap} {x dx root q ka : Addr} {t1 t2 : Tok} {tl : List (Addr × Obj)} {B : Nat} {ops : List Op} {kvs : List Value} {key : List Str}
    (_ : Keep g s.heap) (_ : g.objs.size ≤ s.heap.objs.size) (_ : Apart g s.heap ((x, instObj 181 dx) :: (dx, dictOf (flagEs w root q t1 t2) 2) :: (ka, { cls := .type "tuple", data := .seq kvs.toArray }) :: tl)) (_ : (Mine.hd.heap_39 w.params).In g) (_ : Top p loose mean mg mb g) (_ : A.depth + 3 < recursionLimit) (_ : A.units + 9 < cLine) (_ : A.handled = none)
    (_ : TrieIs PySem.Challenge.rw_in0137_01.row.prog w root tl B ops) (_ : B ≤ 1000) (_ : StrsAre kvs key) (_ : key.length ≤ 1000) (_ : key ≠ []) (_ : (((x, instObj 181 dx) :: (dx, dictOf (flagEs w root q t1 t2) 2) :: (ka, { cls := .type "tuple", data := .seq kvs.toArray }) :: tl).map (·.1)).Nodup) (_ : ∃ n b, (key, n, b) ∈ ops)
    (_ : ∀ h' tk tl', Keep g h' → Apart g h' ((x, instObj 181 dx) :: (dx, dictOf (flagEs w root q t1 t2) 2) :: (ka, { cls := .type "tuple", data := .seq kvs.toArray }) :: tl') → (∀ p ∈ [(x, instObj 181 dx), (dx, dictOf (flagEs w root q t1 t2) 2), (ka, ({ cls := .type "tuple", data := .seq kvs.toArray } : Obj))], ∀ r ∈ tl', p.1 ≠ r.1) → TrieIs PySem.Challenge.rw_in0137_01.row.prog w root tl' B (cutO ops key) → R (.ok (.ret .none)) { s with heap := h', toks := tk }),
    codeAny (model PySem.Challenge.rw_in0137_01.row.prog w) A (.call (.ref 164) ⟨[.ref x, .ref ka], []⟩) R s := by
  k_fill
  intro w p loose mean mg mb A s R g x dx root q ka t1 t2 tl B ops kvs key hg hgs hap X T hd hu hh hT hB hkv hkl hkn hnd hin ret
  refine' enter_g (binds := [("self", .ref x), ("key", .ref ka)]) hg hgs hap X T.nolimit ?ho ?hcd ?hroom ?hbind ?hloc ?h ?hco ?hgen ?hk ?hcell
  case ho => k_is
  case hcd => k_is
  case hroom => omega
  case hbind => exact BindsTo.of_eq rfl
  case hloc => exact locs rfl
  case hco => rfl
  case hgen => rfl
  case hk => rfl
  case hcell => decide
  intro L' h₁ F' N' l0
  (try dsimp only)
  have hvn : kvs ≠ [] := by rintro rfl; exact hkn (by cases hkv; rfl)
  have hvl : kvs.length ≤ 1000 := by rw [strs_len hkv]; exact hkl
  obtain ⟨T, own, hTr, hSR, hops⟩ := hT
  obtain ⟨nd0, hnd0, hroot⟩ := hTr.root
  obtain ⟨n0, b0, hin⟩ := hin
  have hTk := (hops _ hin).2
  subst hroot
  obtain ⟨z, tz, hgz, hkz⟩ := strs_last hkv hkn
  have hap0 := apart_of_nodup (fx := [(x, instObj 181 dx), (dx, dictOf (flagEs w nd0.ca q t1 t2) 2), (ka, { cls := .type "tuple", data := .seq kvs.toArray })]) hnd
  k_steps
  refine Stop.out ?_
  rename_i D1 h2 FF NN l1
  refine tup_fix (fun rem m => ∃ pre nd rest, StrsAre rem rest ∧ key.dropLast = pre ++ rest ∧ T pre = some nd ∧ m (PySem.Str.ofString "cont") = some (.ref nd.ca) ∧ m (PySem.Str.ofString "key") = some (.ref ka)) hh FF NN (.head _) rfl rfl ⟨[], nd0, key.dropLast, strs_dropLast hkv, rfl, hnd0, rfl, rfl⟩ ?_ ?_
  · clear FF NN
    rintro m h tk ⟨pre, nd, rest, hr, hk, hpn, m1, m2⟩ F N
    have hrest : rest = [] := by cases hr; rfl
    subst hrest
    rw [List.append_nil] at hk
    rw [hk] at hkz
    subst hkz
    obtain ⟨_, lo1, o1, kvs1, hm1, hd1, hz1, hv1⟩ := hTr.kids pre nd hpn
    replace F := fr_name2 F m1 m2
    obtain ⟨nd2, hq⟩ := Option.isSome_iff_exists.mp hTk
    have hv := hv1 z
    rw [hq] at hv
    have hv' : valueAt kvs1 z = some (.ref nd2.na) := hv
    have N3 := news_front N (o := o1) (.tail _ (.tail _ (.tail _ (.tail _ hm1))))
    clear N
    k_steps
    rename News _ _ _ _ => NN
    refine dict_pop (fx := [(x, instObj 181 dx), (dx, dictOf (flagEs w nd0.ca q t1 t2) 2), (ka, { cls := .type "tuple", data := .seq kvs.toArray })]) (tl := tl) (by assumption) (fun p hp => NN p (.tail _ (.tail _ hp))) hm1 (fun p hp => hap0 p hp _ hm1) hd1 (by omega) hv' ?_
    intro h' o' F N hd'
    clear NN
    k_steps
    rename News _ _ _ _ => NN
    exact ret _ _ _ (Fr.keep (by assumption)) (fun p hp => ⟨(NN p hp).1, (NN p hp).2.2⟩) (fun p hp => apart_put (hap0 p hp)) (trieis_pop hTr hpn hm1 hz1 hv1 hd' hSR hops)
  · clear FF NN
    rintro I hI v r m h tk oi ⟨pre, nd, rest, hr, hk, hpn, m1, m2⟩ F N
    obtain _ | ⟨y, ty, hr'⟩ := hr
    rename_i rest
    rw [hk] at hkz
    obtain ⟨_, lo1, o1, kvs1, hm1, hd1, hz1, hv1⟩ := hTr.kids pre nd hpn
    replace F := fr_name2 F m1 m2
    have hne : pre ++ [y] ≠ [] := by simp
    have hsome := up_all hTr (rest ++ [z]) (pre ++ [y]) (by rw [hkz] at hTk; simpa using hTk)
    obtain ⟨nd2, hq⟩ := Option.isSome_iff_exists.mp hsome
    have hv := hv1 y
    rw [hq] at hv
    have hv' : valueAt kvs1 y = some (.ref nd2.na) := hv
    obtain ⟨_, lo2, o2, hm2, hd2⟩ := hTr.node _ nd2 hq hne
    have g2 : valueAt (nodeKvs nd2) (PySem.Str.ofString "nested") = some (.ref nd2.ca) := by rfl
    have N3 := news_front (news_front N (o := o1) (.tail _ (.tail _ (.tail _ (.tail _ (.tail _ hm1)))))) (o := o2) (.tail _ (.tail _ (.tail _ (.tail _ (.tail _ (.tail _ hm2))))))
    clear N
    k_steps
    rename News _ _ _ _ => NN
    exact unr_fix (by assumption) (fun p hp => NN p (.tail _ (.tail _ hp))) hI ⟨pre ++ [y], nd2, rest, hr', by rw [hk]; simp, hq, rfl, rfl⟩

theorem off_H1 : True := by
  w_top off
  exact True.intro
section
open PySem.W PyProof.V PySem.Spec
abbrev PG : Program := PySem.Challenge.rw_in0137_01.row.prog
theorem ground_read {h₀ h : Heap} {L : Addr} {m : Str → Option Value} {news tl : List (Addr × Obj)} (F : Fr h₀ L h m) (N : News h₀ L h news) (hsub : ∀ p ∈ tl, p ∈ news) :
    ∃ g, Keep g h ∧ g.objs.size ≤ h.objs.size ∧ Apart g h tl ∧ Keep h₀ g ∧ ∀ h', Keep g h' → Apart g h' tl → Fr h₀ L h' m ∧ News h₀ L h' news := by
  obtain ⟨g, g1, g2, g3, g4, g5, g6, g7⟩ := ground_of F N hsub
  refine ⟨g, g1, g2, g3, g4, fun h' k ap => ⟨(g5 h' [] k fun p hp => nomatch hp).1, fun p hp => ?_⟩⟩
  by_cases hq : ∃ q ∈ tl, p.1 = q.1
  · obtain ⟨q, hq, e⟩ := hq
    have e2 : p.2 = q.2 := by
      have a := (N p hp).1
      have b := (N q (hsub q hq)).1
      rw [e] at a
      exact Option.some.inj (a.symm.trans b)
    have e3 : p = q := Prod.ext e e2
    rw [e3]
    exact g6 tl h' k ap q hq
  · exact (g5 h' [p] k fun r hr => by rw [List.mem_singleton.mp hr]; exact ⟨hp, fun q hq' e => hq ⟨q, hq', e⟩⟩).2 p (.head _)
variable {w : World} {p : Program} {loose : List Str} {mean : ExcName → Option Value} {mg mb : Str → Option Value} {A : Around} {E : Value → Shared → Prop} {s : Shared} {h₀ : Heap} {L : Addr} {m : Str → Option Value} {news tl fx : List (Addr × Obj)} {Q : Value → Shared → Prop}
  {x dx root q ka : Addr} {t1 t2 tf : Tok} {B : Nat} {ops : List Op} {kvs : List Value} {key : List Str} {f : Int}
theorem s_is (F : Fr h₀ L s.heap m) (N : News h₀ L s.heap news) (X : (Mine.hd.heap_39 w.params).In h₀) (T : Top p loose mean mg mb h₀) (hd : A.depth + 3 < recursionLimit) (hu : A.units + 9 < cLine) (hh : A.handled = none)
    (hx : (x, instObj 181 dx) ∈ news) (hdx : (dx, dictOf (flagEs w root q t1 t2) 2) ∈ news) (hka : (ka, ({ cls := .type "tuple", data := .seq kvs.toArray } : Obj)) ∈ news) (htl : ∀ p ∈ tl, p ∈ news)
    (hT : TrieIs PySem.Challenge.rw_in0137_01.row.prog w root tl B ops) (hB : B ≤ 1000) (hkv : StrsAre kvs key) (hkl : key.length ≤ 1000) (hkn : key ≠ [])
    (h : ∀ h' tk, Fr h₀ L h' m → News h₀ L h' news → Q (.bool (isO ops key f)) { s with heap := h', toks := tk }) :
    wpAny (model PySem.Challenge.rw_in0137_01.row.prog w) A (call (.ref 178) [.ref x, .ref ka, .int f tf] []) Q E s := by
  obtain ⟨g, g1, g2, g3, g4, g5⟩ := ground_read (tl := (x, instObj 181 dx) :: (dx, dictOf (flagEs w root q t1 t2) 2) :: (ka, { cls := .type "tuple", data := .seq kvs.toArray }) :: tl) F N (fun r hr => by
    rcases List.mem_cons.mp hr with rfl | hr
    · exact hx
    rcases List.mem_cons.mp hr with rfl | hr
    · exact hdx
    rcases List.mem_cons.mp hr with rfl | hr
    · exact hka
    exact htl r hr)
  exact wpAny_call (c_is g1 g2 g3 (X.keeps g4) (T.keeps g4) hd hu hh hT hB hkv hkl hkn fun h' tk k ap => h h' tk (g5 h' k ap).1 (g5 h' k ap).2)
theorem obj_ne {h : Heap} {a b : Addr} {oa ob : Obj} (ha : h.get? a = some oa) (hb : h.get? b = some ob) (hne : oa.data ≠ ob.data) : a ≠ b := fun e => by
  rw [e, hb] at ha
  exact hne (congrArg Obj.data (Option.some.inj ha)).symm
theorem three_nodup (N : News h₀ L s.heap (fx ++ tl)) (hx : (x, instObj 181 dx) ∈ fx) (hdx : (dx, dictOf (flagEs w root q t1 t2) 2) ∈ fx) (hka : (ka, ({ cls := .type "tuple", data := .seq kvs.toArray } : Obj)) ∈ fx)
    (hap : ∀ p ∈ fx, ∀ r ∈ tl, p.1 ≠ r.1) (hnd : (tl.map (·.1)).Nodup) : (((x, instObj 181 dx) :: (dx, dictOf (flagEs w root q t1 t2) 2) :: (ka, ({ cls := .type "tuple", data := .seq kvs.toArray } : Obj)) :: tl).map (·.1)).Nodup := by
  have a := (N _ (List.mem_append_left _ hx)).1
  have b := (N _ (List.mem_append_left _ hdx)).1
  have c := (N _ (List.mem_append_left _ hka)).1
  have no : ∀ {y : Addr} {o : Obj}, (y, o) ∈ fx → y ∉ tl.map (·.1) := fun {y o} hy hm => by
    obtain ⟨r, hr, e⟩ := List.mem_map.mp hm
    exact hap _ hy r hr e.symm
  simp only [List.map_cons, List.nodup_cons, List.mem_cons, not_or]
  refine ⟨⟨obj_ne a b (by simp), obj_ne a c (by simp), no hx⟩, ⟨obj_ne b c (by simp), no hdx⟩, no hka, hnd⟩
theorem s_set {rec : Bool} (F : Fr h₀ L s.heap m) (N : News h₀ L s.heap (fx ++ tl)) (X : (Mine.hd.heap_39 w.params).In h₀) (T : Top p loose mean mg mb h₀) (hd : A.depth + 3 < recursionLimit) (hu : A.units + 9 < cLine) (hh : A.handled = none)
    (hx : (x, instObj 181 dx) ∈ fx) (hdx : (dx, dictOf (flagEs w root q t1 t2) 2) ∈ fx) (hka : (ka, ({ cls := .type "tuple", data := .seq kvs.toArray } : Obj)) ∈ fx) (hap : ∀ p ∈ fx, ∀ r ∈ tl, p.1 ≠ r.1)
    (hT : TrieIs PySem.Challenge.rw_in0137_01.row.prog w root tl B ops) (hB : B + key.length + 1 ≤ 1000) (hkv : StrsAre kvs key) (hkl : key.length ≤ 1000) (hkn : key ≠ [])
    (h : ∀ h' tk tl', Fr h₀ L h' m → News h₀ L h' (fx ++ tl') → (∀ p ∈ fx, ∀ r ∈ tl', p.1 ≠ r.1) → TrieIs PySem.Challenge.rw_in0137_01.row.prog w root tl' (B + key.length + 1) (ops ++ [(key, f, rec)]) → Q .none { s with heap := h', toks := tk }) :
    wpAny (model PySem.Challenge.rw_in0137_01.row.prog w) A (call (.ref 171) [.ref x, .ref ka, .int f tf] [(PySem.Str.ofString "recursive", .bool rec)]) Q E s := by
  have hnd := three_nodup N hx hdx hka hap (let ⟨_, _, a, _⟩ := hT; a.nodup)
  obtain ⟨g, g1, g2, g3, g4, g5, g6, g7⟩ := ground_of (tl := (x, instObj 181 dx) :: (dx, dictOf (flagEs w root q t1 t2) 2) :: (ka, { cls := .type "tuple", data := .seq kvs.toArray }) :: tl) F N (fun r hr => by
    rcases List.mem_cons.mp hr with rfl | hr
    · exact List.mem_append_left _ hx
    rcases List.mem_cons.mp hr with rfl | hr
    · exact List.mem_append_left _ hdx
    rcases List.mem_cons.mp hr with rfl | hr
    · exact List.mem_append_left _ hka
    exact List.mem_append_right _ hr)
  refine wpAny_call (c_set g1 g2 g3 (X.keeps g4) (T.keeps g4) hd hu hh hT hB hkv hkl hkn hnd fun h' tk tl' k ap ap3 hT' => ?_)
  have N3 := g6 _ h' k ap
  have F3 := (g5 h' [] k fun p hp => nomatch hp).1
  have key1 : ∀ r ∈ fx, News h₀ L h' [r] ∧ ∀ t ∈ tl', r.1 ≠ t.1 := fun r hr => by
    have hrN := N r (List.mem_append_left _ hr)
    by_cases h3 : ∃ q' ∈ [(x, instObj 181 dx), (dx, dictOf (flagEs w root q t1 t2) 2), (ka, ({ cls := .type "tuple", data := .seq kvs.toArray } : Obj))], r.1 = q'.1
    · obtain ⟨q', hq', e⟩ := h3
      have hq2 : q' ∈ (x, instObj 181 dx) :: (dx, dictOf (flagEs w root q t1 t2) 2) :: (ka, ({ cls := .type "tuple", data := .seq kvs.toArray } : Obj)) :: tl' := by
        simp only [List.mem_cons, List.not_mem_nil, or_false] at hq' ⊢
        rcases hq' with rfl | rfl | rfl <;> simp
      have hq0 : q' ∈ fx := by
        simp only [List.mem_cons, List.not_mem_nil, or_false] at hq'
        rcases hq' with rfl | rfl | rfl <;> assumption
      have e2 : r.2 = q'.2 := by
        have a := hrN.1
        have b := (N q' (List.mem_append_left _ hq0)).1
        rw [e] at a
        exact Option.some.inj (a.symm.trans b)
      have e3 : r = q' := Prod.ext e e2
      subst e3
      exact ⟨fun t ht => by rw [List.mem_singleton.mp ht]; exact N3 r hq2, ap3 r hq'⟩
    · have hno : ∀ q' ∈ (x, instObj 181 dx) :: (dx, dictOf (flagEs w root q t1 t2) 2) :: (ka, ({ cls := .type "tuple", data := .seq kvs.toArray } : Obj)) :: tl, r.1 ≠ q'.1 := fun q' hq' e => by
        rcases List.mem_append.mp (show q' ∈ [(x, instObj 181 dx), (dx, dictOf (flagEs w root q t1 t2) 2), (ka, ({ cls := .type "tuple", data := .seq kvs.toArray } : Obj))] ++ tl from hq') with h4 | h4
        · exact h3 ⟨q', h4, e⟩
        · exact hap r hr q' h4 e
      refine ⟨(g5 h' [r] k fun t ht => by rw [List.mem_singleton.mp ht]; exact ⟨List.mem_append_left _ hr, hno⟩).2, fun t ht e => ?_⟩
      have a := g7 _ _ hno hrN.1
      have b := (ap t (.tail _ (.tail _ (.tail _ ht)))).2
      rw [← e, a] at b
      cases b
  refine h h' tk tl' F3 (fun r hr => ?_) (fun r hr => (key1 r hr).2) hT'
  rcases List.mem_append.mp hr with hr | hr
  · exact (key1 r hr).1 r (.head _)
  · exact N3 r (.tail _ (.tail _ (.tail _ hr)))
theorem s_unset (F : Fr h₀ L s.heap m) (N : News h₀ L s.heap (fx ++ tl)) (X : (Mine.hd.heap_39 w.params).In h₀) (T : Top p loose mean mg mb h₀) (hd : A.depth + 3 < recursionLimit) (hu : A.units + 9 < cLine) (hh : A.handled = none)
    (hx : (x, instObj 181 dx) ∈ fx) (hdx : (dx, dictOf (flagEs w root q t1 t2) 2) ∈ fx) (hka : (ka, ({ cls := .type "tuple", data := .seq kvs.toArray } : Obj)) ∈ fx) (hap : ∀ p ∈ fx, ∀ r ∈ tl, p.1 ≠ r.1)
    (hT : TrieIs PySem.Challenge.rw_in0137_01.row.prog w root tl B ops) (hB : B ≤ 1000) (hkv : StrsAre kvs key) (hkl : key.length ≤ 1000) (hkn : key ≠ []) (hin : ∃ n b, (key, n, b) ∈ ops)
    (h : ∀ h' tk tl', Fr h₀ L h' m → News h₀ L h' (fx ++ tl') → TrieIs PySem.Challenge.rw_in0137_01.row.prog w root tl' B (cutO ops key) → Q .none { s with heap := h', toks := tk }) :
    wpAny (model PySem.Challenge.rw_in0137_01.row.prog w) A (call (.ref 164) [.ref x, .ref ka] []) Q E s := by
  have hnd := three_nodup N hx hdx hka hap (let ⟨_, _, a, _⟩ := hT; a.nodup)
  obtain ⟨g, g1, g2, g3, g4, g5, g6, g7⟩ := ground_of (tl := (x, instObj 181 dx) :: (dx, dictOf (flagEs w root q t1 t2) 2) :: (ka, { cls := .type "tuple", data := .seq kvs.toArray }) :: tl) F N (fun r hr => by
    rcases List.mem_cons.mp hr with rfl | hr
    · exact List.mem_append_left _ hx
    rcases List.mem_cons.mp hr with rfl | hr
    · exact List.mem_append_left _ hdx
    rcases List.mem_cons.mp hr with rfl | hr
    · exact List.mem_append_left _ hka
    exact List.mem_append_right _ hr)
  refine wpAny_call (c_unset g1 g2 g3 (X.keeps g4) (T.keeps g4) hd hu hh hT hB hkv hkl hkn hnd hin fun h' tk tl' k ap ap3 hT' => ?_)
  have N3 := g6 _ h' k ap
  have F3 := (g5 h' [] k fun p hp => nomatch hp).1
  refine h h' tk tl' F3 (fun r hr => ?_) hT'
  rcases List.mem_append.mp hr with hr | hr
  · have hrN := N r (List.mem_append_left _ hr)
    by_cases h3 : ∃ q' ∈ [(x, instObj 181 dx), (dx, dictOf (flagEs w root q t1 t2) 2), (ka, ({ cls := .type "tuple", data := .seq kvs.toArray } : Obj))], r.1 = q'.1
    · obtain ⟨q', hq', e⟩ := h3
      have hq2 : q' ∈ (x, instObj 181 dx) :: (dx, dictOf (flagEs w root q t1 t2) 2) :: (ka, ({ cls := .type "tuple", data := .seq kvs.toArray } : Obj)) :: tl' := by
        simp only [List.mem_cons, List.not_mem_nil, or_false] at hq' ⊢
        rcases hq' with rfl | rfl | rfl <;> simp
      have hq0 : q' ∈ fx := by
        simp only [List.mem_cons, List.not_mem_nil, or_false] at hq'
        rcases hq' with rfl | rfl | rfl <;> assumption
      have e2 : r.2 = q'.2 := by
        have a := hrN.1
        have b := (N q' (List.mem_append_left _ hq0)).1
        rw [e] at a
        exact Option.some.inj (a.symm.trans b)
      have e3 : r = q' := Prod.ext e e2
      subst e3
      exact N3 r hq2
    · have hno : ∀ q' ∈ (x, instObj 181 dx) :: (dx, dictOf (flagEs w root q t1 t2) 2) :: (ka, ({ cls := .type "tuple", data := .seq kvs.toArray } : Obj)) :: tl, r.1 ≠ q'.1 := fun q' hq' e => by
        rcases List.mem_append.mp (show q' ∈ [(x, instObj 181 dx), (dx, dictOf (flagEs w root q t1 t2) 2), (ka, ({ cls := .type "tuple", data := .seq kvs.toArray } : Obj))] ++ tl from hq') with h4 | h4
        · exact h3 ⟨q', h4, e⟩
        · exact hap r hr q' h4 e
      exact (g5 h' [r] k fun t ht => by rw [List.mem_singleton.mp ht]; exact ⟨List.mem_append_left _ hr, hno⟩).2 r (.head _)
  · exact N3 r (.tail _ (.tail _ (.tail _ hr)))
end
theorem s_new : ∀ {w : World} {p : Program} {loose : List Str} {mean : ExcName → Option Value} {mg mb : Str → Option Value} {A : Around} {E : Value → Shared → Prop} {s : Shared} {h₀ : Heap} {L : Addr} {m : Str → Option Value} {news : List (Addr × Obj)} {Q : Value → Shared → Prop}
    (_ : Fr h₀ L s.heap m) (_ : News h₀ L s.heap news) (_ : (Mine.hd.heap_39 w.params).In h₀) (_ : Top p loose mean mg mb h₀) (_ : A.depth + 9 < recursionLimit) (_ : A.units + 39 < cLine) (_ : A.handled = none)
    (_ : ∀ x dx d q o t1 t2 h' tk, Fr h₀ L h' m → News h₀ L h' ((x, PySem.W.instObj 181 dx) :: (dx, PySem.W.dictOf (flagEs w d q t1 t2) 2) :: (news ++ [(d, o)])) → (∀ p ∈ (x, PySem.W.instObj 181 dx) :: (dx, PySem.W.dictOf (flagEs w d q t1 t2) 2) :: news, ∀ r ∈ [(d, o)], p.1 ≠ r.1) → (∀ p ∈ news, p.1 ≠ dx ∧ p.1 ≠ x) →
      TrieIs PySem.Challenge.rw_in0137_01.row.prog w d [(d, o)] 0 [] → Q (.ref x) { s with heap := h', toks := tk }),
    wpAny (model PySem.Challenge.rw_in0137_01.row.prog w) A (call (.ref 181) [] []) Q E s := by
  k_fill
  intro w p loose mean mg mb A E s h₀ L m news Q F N X T hd hu hh h
  refine PySem.W.call_cls F X N (by k_is) (by k_is) (by k_is) fun x dx h' F' N' l1 l2 => ?_
  obtain ⟨g, g1, g2, g3, g4, g5, g6, g7⟩ := ground_of (tl := [(x, PySem.W.instObj 181 dx), (dx, PySem.W.dictOf [] 0)]) F' N' (fun r hr => by
    simp only [List.mem_cons, List.not_mem_nil, or_false] at hr ⊢
    rcases hr with rfl | rfl <;> simp)
  refine c_init g1 g2 g3 (X.keeps g4) (T.keeps g4) ?_ ?_ ?_ l2 fun h2 tk d q o t1 t2 k ap hxd lo hD => ?_
  · simp only [depth_under_make]; omega
  · have e : (A.under (.builtin "type.__call__" ⟨[.ref 181], []⟩)).units = A.units + 1 := rfl
    rw [e]; omega
  · exact hh
  · have hN := g6 _ h2 k ap
    have hF := (g5 h2 [] k fun p hp => nomatch hp).1
    have hne : ∀ r ∈ news, r.1 ≠ dx ∧ r.1 ≠ x := fun r hr => ⟨Nat.ne_of_lt (l1 r hr), Nat.ne_of_lt (Nat.lt_trans (l1 r hr) l2)⟩
    have hno : ∀ r ∈ news, ∀ q' ∈ [(x, PySem.W.instObj 181 dx), (dx, PySem.W.dictOf [] 0)], r.1 ≠ q'.1 := fun r hr q' hq' => by
      simp only [List.mem_cons, List.not_mem_nil, or_false] at hq'
      rcases hq' with rfl | rfl
      · exact (hne r hr).2
      · exact (hne r hr).1
    have hnew := (g5 h2 news k fun r hr => ⟨.tail _ (.tail _ hr), hno r hr⟩).2
    refine ⟨rfl, h x dx d q o t1 t2 h2 tk hF (fun r hr => ?_) (fun r hr r' hr' => ?_) hne (trie_new hD lo)⟩
    · rcases List.mem_cons.mp hr with rfl | hr
      · exact hN _ (.head _)
      rcases List.mem_cons.mp hr with rfl | hr
      · exact hN _ (.tail _ (.head _))
      rcases List.mem_append.mp hr with hr | hr
      · exact hnew r hr
      · rw [List.mem_singleton.mp hr]; exact hN _ (.tail _ (.tail _ (.head _)))
    · rw [List.mem_singleton.mp hr']
      rcases List.mem_cons.mp hr with rfl | hr
      · exact Nat.ne_of_lt hxd
      rcases List.mem_cons.mp hr with rfl | hr
      · exact Nat.ne_of_lt (Nat.lt_trans l2 hxd)
      · intro e
        have a := g7 _ _ (hno r hr) (N' r (.tail _ (.tail _ hr))).1
        have b := (ap (d, o) (.tail _ (.tail _ (.head _)))).2
        rw [e] at a
        have b' : g.get? d = none := b
        have a' : g.get? d = some r.2 := a
        rw [a'] at b'
        cases b'
local macro_rules | `(tactic| walk_at "call ref") => `(tactic| (k_here; (with_reducible show wpAny _ _ (call (Value.ref 178) [Value.ref _, Value.ref _, Value.int _ _] []) _ _ _); (refine' s_is ?k1 ?k2 ?k3 ?k4 ?k5 ?k6 ?k7 ?a1 ?a2 ?a3 ?a4 ?a5 ?a6 ?a7 ?a8 ?a9 ?_; (case k1 => k_asm); (case k2 => k_asm); (case k3 => k_asm); (case k4 => k_asm); (case k5 => (simp only [depth_deeper, depth_in1]; omega)); (case k6 => (simp only [Around.deeper_units, Around.in1_units]; omega)); (case k7 => assumption); (case a1 => k_mem); (case a2 => k_mem); (case a3 => k_mem); (case a5 => assumption); (case a4 => (intro p hp; (repeat (first | exact hp | exact List.mem_append_right _ hp | refine List.Mem.tail _ ?_)))); (case a6 => assumption); (case a7 => assumption); (case a8 => assumption); (case a9 => assumption)); intro h' tk' F' N'; (try k_sweep)))

theorem off_H2 : True := by
  w_top off
  exact True.intro
def keyF (f : Str) : List Str := (Txt.split f (PySem.Str.ofString "/")).drop 1
def lastF (ops : List Op) (fs : List Str) (ns : List Int) (told : Str) : Str := fs.foldl (fun told f => if ns.all (fun k => isO ops (keyF f) k) then f else told) told
section
local macro_rules | `(tactic| walk_at "eval Name") => `(tactic| ((with_reducible show wpAny _ _ (eval (Expr.Name (PySem.Str.ofString "flags") _) (compEnvC _ _ _ _)) _ _ _); refine Stop.mk ?_))
local macro_rules | `(tactic| walk_at "eval Name") => `(tactic| ((with_reducible show wpAny _ _ (eval (Expr.Name (PySem.Str.ofString "folder") _) (compEnvC _ _ _ _)) _ _ _); refine Stop.mk ?_))
local macro_rules | `(tactic| k_inst) => `(tactic| assumption)
def intP (q : Int → Bool) : Value → Bool
  | .int x _ => q x
  | _ => false
theorem ints_mem : ∀ {vs : List Value} {ns : List Int} {v : Value}, IntsAre vs ns → v ∈ vs → ∃ k t, v = .int k t ∧ k ∈ ns
  | _, _, _, .cons k t r, h => by
    rcases List.mem_cons.mp h with rfl | h
    · exact ⟨k, t, rfl, .head _⟩
    · obtain ⟨z, u, e, hm⟩ := ints_mem r h
      exact ⟨z, u, e, .tail _ hm⟩
theorem ints_filter (q : Int → Bool) : ∀ {vs : List Value} {ns : List Int}, IntsAre vs ns → IntsAre (vs.filter (intP q)) (ns.filter q)
  | _, _, .nil => .nil
  | _, _, .cons y t r => by
    by_cases h : q y = true
    · rw [List.filter_cons_of_pos (show intP q (.int y t) = true from h), List.filter_cons_of_pos h]; exact .cons y t (ints_filter q r)
    · rw [List.filter_cons_of_neg (show ¬ intP q (.int y t) = true from h), List.filter_cons_of_neg h]; exact ints_filter q r
theorem r_is {w : World} {p : Program} {loose : List Str} {mean : ExcName → Option Value} {mg mb : Str → Option Value} {A : Around} {E : Value → Shared → Prop} {s : Shared} {g : Heap} {tl : List (Addr × Obj)} {Q : Value → Shared → Prop}
    {x dx root q ka : Addr} {t1 t2 tf : Tok} {B : Nat} {ops : List Op} {kvs : List Value} {key : List Str} {f : Int}
    (k0 : Keep g s.heap) (X : (Mine.hd.heap_39 w.params).In g) (T : Top p loose mean mg mb g) (hd : A.depth + 3 < recursionLimit) (hu : A.units + 9 < cLine) (hh : A.handled = none)
    (ap : Apart g s.heap ((x, PySem.W.instObj 181 dx) :: (dx, PySem.W.dictOf (flagEs w root q t1 t2) 2) :: (ka, { cls := .type "tuple", data := .seq kvs.toArray }) :: tl))
    (hT : TrieIs PySem.Challenge.rw_in0137_01.row.prog w root tl B ops) (hB : B ≤ 1000) (hkv : StrsAre kvs key) (hkl : key.length ≤ 1000) (hkn : key ≠ [])
    (h : ∀ h' tk, Keep s.heap h' → Q (.bool (isO ops key f)) { s with heap := h', toks := tk }) :
    wpAny (model PySem.Challenge.rw_in0137_01.row.prog w) A (call (.ref 178) [.ref x, .ref ka, .int f tf] []) Q E s := by
  have hg : Keep g (hide s.heap (((x, PySem.W.instObj 181 dx) :: (dx, PySem.W.dictOf (flagEs w root q t1 t2) 2) :: (ka, ({ cls := .type "tuple", data := .seq kvs.toArray } : Obj)) :: tl).map (·.1))) := fun b o e => hide_some (fun hm => by
    obtain ⟨r, hr, er⟩ := List.mem_map.mp hm
    have := (ap r hr).2
    rw [er, e] at this
    cases this) (k0 b o e)
  refine wpAny_call (c_is (keep_hide _ _) (Nat.le_of_eq (size_hide _ _)) (fun r hr => ⟨(ap r hr).1, hide_none (List.mem_map.mpr ⟨r, hr, rfl⟩)⟩) (X.keeps hg) (T.keeps hg) hd hu hh hT hB hkv hkl hkn fun h' tk k apx => h h' tk fun b o e => ?_)
  by_cases hm : b ∈ (((x, PySem.W.instObj 181 dx) :: (dx, PySem.W.dictOf (flagEs w root q t1 t2) 2) :: (ka, ({ cls := .type "tuple", data := .seq kvs.toArray } : Obj)) :: tl).map (·.1))
  · obtain ⟨r, hr, er⟩ := List.mem_map.mp hm
    have a := (ap r hr).1
    have c := (apx r hr).1
    rw [er] at a c
    rw [e] at a
    rw [Option.some.inj a]
    exact c
  · exact k _ _ (hide_some hm e)
theorem allLt_of' {d : Addr} {l : List (Addr × Obj)} (h : ∀ p ∈ l, p.1 < d) : AllLt d l := PySem.W.allLt_of h
theorem c_last : ∀ {w : World} {p : Program} {loose : List Str} {mean : ExcName → Option Value} {mg mb : Str → Option Value} {A : Around} {s : Shared} {R : Result → Shared → Prop} {g : Heap} {x dx root q fl nl : Addr} {t1 t2 : Tok} {tl : List (Addr × Obj)} {B n1 n2 : Nat} {ops : List Op} {lof : Obj} {fvs nvs : List Value} {fs : List Str} {ns : List Int}
    (_ : Keep g s.heap) (_ : g.objs.size ≤ s.heap.objs.size) (_ : Apart g s.heap ((x, instObj 181 dx) :: (dx, dictOf (flagEs w root q t1 t2) 2) :: (fl, lof) :: (nl, { cls := .type "list", data := .seq nvs.toArray n2 }) :: tl)) (_ : (Mine.hd.heap_39 w.params).In g) (_ : Top p loose mean mg mb g) (_ : A.depth + 7 < recursionLimit) (_ : A.units + 129 < cLine) (_ : A.handled = none)
    (_ : TrieIs PySem.Challenge.rw_in0137_01.row.prog w root tl B ops) (_ : B ≤ 1000) (_ : lof.cls = .type "list") (_ : lof.data = .seq fvs.toArray n1) (_ : StrsAre fvs fs) (_ : fs.length ≤ 1000) (_ : ∀ f ∈ fs, f.length ≤ 500 ∧ keyF f ≠ []) (_ : IntsAre nvs ns) (_ : ns.length ≤ 1000)
    (_ : ∀ t h' tk, Keep g h' → Apart g h' ((x, instObj 181 dx) :: (dx, dictOf (flagEs w root q t1 t2) 2) :: (fl, lof) :: (nl, { cls := .type "list", data := .seq nvs.toArray n2 }) :: tl) → R (.ok (.ret (.str (lastF ops fs ns (PySem.Str.ofString "/")) t))) { s with heap := h', toks := tk }),
    codeAny (model PySem.Challenge.rw_in0137_01.row.prog w) A (.call (.ref 209) ⟨[.ref x, .ref fl, .ref nl], []⟩) R s := by
  k_fill
  intro w p loose mean mg mb A s R g x dx root q fl nl t1 t2 tl B n1 n2 ops lof fvs nvs fs ns hg hgs hap X T hd hu hh hT hB hlc hld hfv hfl hf hnv hnl ret
  refine' enter_cells_g (binds := [("flags", .ref x), ("folders", .ref fl), ("numbers", .ref nl)]) hg hgs hap X T.nolimit ?ho ?hcd ?hroom ?hbind ?hkind ?hnd ?h ?hco ?hgen ?hk
  case ho => k_is
  case hcd => k_is
  case hroom => omega
  case hbind => exact BindsTo.of_eq rfl
  case hkind => rfl
  case hnd => decide +kernel
  case hco => rfl
  case hgen => rfl
  case hk => rfl
  intro L' h₁ tk' cells F' N₁ N₂ l0 Y'
  k_cells Y'
  try simp only [List.cons_append, List.nil_append] at N₁
  (try dsimp only)
  have N' := News.append N₁ N₂
  try simp only [List.cons_append, List.nil_append] at N'
  have c1 : @LT.lt Nat _ x L' := l0 _ (.head _)
  have c2 : @LT.lt Nat _ dx L' := l0 _ (.tail _ (.head _))
  have c3 : @LT.lt Nat _ fl L' := l0 _ (.tail _ (.tail _ (.head _)))
  have c4 : @LT.lt Nat _ nl L' := l0 _ (.tail _ (.tail _ (.tail _ (.head _))))
  have c5 : AllLt (L' + 1 + 1) tl := allLt_of' fun p hp => Nat.lt_succ_of_lt (Nat.lt_succ_of_lt (l0 p (.tail _ (.tail _ (.tail _ (.tail _ hp))))))
  have c6 : ∀ p ∈ tl, @LT.lt Nat _ p.1 L' := fun p hp => l0 p (.tail _ (.tail _ (.tail _ (.tail _ hp))))
  clear l0
  have hfvl : fvs.length ≤ 1000 := by rw [strs_len hfv]; exact hfl
  have hnvl : nvs.length ≤ 1000 := by rw [hnv.length]; exact hnl
  k_steps
  refine Stop.out ?_
  rename_i oF oL d1 d2 hA F N
  have dL : oL.data = .cell (some (.ref x)) := d2
  refine list_inv (fun rem m n => ∃ oF c rest pre told tt, n = (L' + 1 + 1, oF) :: (L' + 1, oL) :: (x, instObj 181 dx) :: (dx, dictOf (flagEs w root q t1 t2) 2) :: (fl, lof) :: (nl, { cls := .type "list", data := .seq nvs.toArray n2 }) :: tl ∧ oF.data = .cell c ∧
    StrsAre rem rest ∧ fs = pre ++ rest ∧ told = lastF ops pre ns (PySem.Str.ofString "/") ∧ m (PySem.Str.ofString "told") = some (.str told tt) ∧ m (PySem.Str.ofString "numbers") = some (.ref nl)) hh F N (.tail _ (.tail _ (.tail _ (.tail _ (.head _))))) hlc hld ⟨oF, _, fs, [], _, _, rfl, d1, hfv, rfl, rfl, rfl, rfl⟩ ?_ ?_
  · clear F N
    rintro m _ h tk ⟨oF, c, rest, pre, told, tt, rfl, hc, hr, hfs, htold, m1, m2⟩ F N
    have hrest : rest = [] := by cases hr; rfl
    subst hrest
    rw [List.append_nil] at hfs
    subst hfs
    subst htold
    replace F := fr_name F m1
    k_steps
    rename News _ _ _ _ => NN
    exact ret _ _ _ (Fr.keep (by assumption)) (fun p hp => ⟨(NN p (.tail _ (.tail _ hp))).1, (NN p (.tail _ (.tail _ hp))).2.2⟩)
  · clear F N
    rintro I hI v r m _ h tk oi ⟨oF, c, rest, pre, told, tt, rfl, hc, hr, hfs, htold, m1, m2⟩ hI' F N
    obtain _ | ⟨y, ty, hr'⟩ := hr
    rename_i rest
    have e1 : @LT.lt Nat _ (L' + 1 + 1) I := hI _ (.head _)
    have hy := hf y (by rw [hfs]; simp)
    have hyl : y.length ≤ 500 := hy.1
    replace F := fr_name2 F m1 m2
    k_steps
    rename_i hpB oF' F1 N1 d3
    refine Stop.out ?_
    k_fold
    refine wpAny_ListComp_free (intP (fun k => !isO ops (keyF y) k)) (fun v y => y = v) (cl := [(PySem.Str.ofString "folder", L' + 1 + 1), (PySem.Str.ofString "flags", L' + 1)]) ?_ ?_ ?_ ?_ ?_ ?_
    · rfl
    · decide
    · rfl
    · decide
    · decide
    k_steps
    refine Stop.out ?_
    have X1 := X.keeps F1.keep
    have T1 := T.keeps F1.keep
    refine comp_vals (intP (fun k => !isO ops (keyF y) k)) (fun v y => y = v) hh (by kmk_list) (by omega) ⟨?_⟩ ?_ ?_
    · intro C v s₃ m₃ E' hv Fc Nc hm
      obtain ⟨kk, tkk, rfl, hk⟩ := ints_mem hnv hv
      clear Nc
      have hcell := fun b o e => Fc.keep b o (News.get N1 e)
      have hI3 : InstAt s₃.heap x (instObj 181 dx) 181 (some (dictOf (flagEs w root q t1 t2) 2)) := ⟨hcell _ _ (.tail _ (.tail _ (.tail _ (.head _)))), rfl, rfl, hcell _ _ (.tail _ (.tail _ (.tail _ (.tail _ (.head _)))))⟩
      k_steps
      refine Stop.out (name_cell (hcell _ _ (.tail _ (.tail _ (.head _)))) dL ?_ (by rfl) (by rfl) (by rfl) (by rfl))
      k_steps
      refine Stop.out (name_cell (hcell _ _ (.tail _ (.head _))) d3 ?_ (by rfl) (by rfl) (by rfl) (by rfl))
      k_steps
      refine wpAny_call (c_key (X1.keeps Fc.keep) (T1.keeps Fc.keep) ?_ ?_ hh (by omega) fun D vs h5 tk5 k5 hD hn hS => ?_)
      · simp only [depth_deeper, depth_in1]; omega
      · simp only [Around.deeper_units, Around.in1_units]; omega
      have Fc2 := k5.fr Fc
      have hn2 := Fc2.ns
      have hkl5 : (keyF y).length ≤ 1000 := by
        have h1 := Nat.le_trans (wtF_len _) (wt_split y (PySem.Str.ofString "/") (by decide))
        show ((Txt.split y _).drop 1).length ≤ 1000
        rw [List.length_drop]; omega
      have gk : Keep g h5 := (Keep.trans F1.keep Fc.keep).trans k5
      have gn : ∀ b, s₃.heap.get? b = none → g.get? b = none := fun b e => by
        cases q5 : g.get? b with
        | none => rfl
        | some o5 => have := (Keep.trans F1.keep Fc.keep : Keep g s₃.heap) _ _ q5; rw [e] at this; cases this
      have ap5 : Apart g h5 ((x, instObj 181 dx) :: (dx, dictOf (flagEs w root q t1 t2) 2) :: (D, { cls := .type "tuple", data := .seq vs.toArray }) :: tl) := fun r hr => by
        rcases List.mem_cons.mp hr with rfl | hr
        · exact ⟨k5 _ _ (hcell _ _ (.tail _ (.tail _ (.tail _ (.head _))))), (N1 _ (.tail _ (.tail _ (.tail _ (.head _))))).2.2⟩
        rcases List.mem_cons.mp hr with rfl | hr
        · exact ⟨k5 _ _ (hcell _ _ (.tail _ (.tail _ (.tail _ (.tail _ (.head _)))))), (N1 _ (.tail _ (.tail _ (.tail _ (.tail _ (.head _)))))).2.2⟩
        rcases List.mem_cons.mp hr with rfl | hr
        · exact ⟨hD, gn _ hn⟩
        · exact ⟨k5 _ _ (hcell _ _ (.tail _ (.tail _ (.tail _ (.tail _ (.tail _ (.tail _ (.tail _ hr)))))))), (N1 _ (.tail _ (.tail _ (.tail _ (.tail _ (.tail _ (.tail _ (.tail _ hr)))))))).2.2⟩
      clear Fc
      dsimp only
      k_steps
      refine r_is gk X T ?_ ?_ hh ap5 hT hB hS hkl5 hy.2 (fun h6 tk6 k6 => ?_)
      · simp only [depth_deeper, depth_in1]; omega
      · simp only [Around.deeper_units, Around.in1_units]; omega
      k_steps
      exact ⟨_, _, rfl, k5.trans k6⟩
    · intro C v s₃ m₃ E' hv hp Fc Nc hm
      obtain ⟨kk, tkk, rfl, hk⟩ := ints_mem hnv hv
      have hn := Fc.ns
      clear Fc Nc
      k_steps
      all_goals (try k_data)
      exact ⟨_, _, rfl, fun _ _ e => e⟩
    · intro D ys n5 h5 tk5 k5 hD hn hP
      have hS5 := ints_filter (fun k => !isO ops (keyF y) k) hnv
      rw [← paired_eq hP] at hS5
      have Fn := Keep.fr k5 F1
      have Nn := (new_entry k5 F1 N1 hD hn).1
      clear F1 N1
      have hall : decide (ns.filter (fun k => !isO ops (keyF y) k) = []) = ns.all (fun k => isO ops (keyF y) k) := by
        rw [Bool.eq_iff_iff, decide_eq_true_iff, List.filter_eq_nil_iff, List.all_eq_true]
        simp
      have hlast : lastF ops (pre ++ [y]) ns (PySem.Str.ofString "/") = if ns.all (fun k => isO ops (keyF y) k) then y else told := by
        rw [htold, lastF, lastF, List.foldl_append]; rfl
      have hIx : ∀ p ∈ (L' + 1 + 1, oF') :: (L' + 1, oL) :: (x, instObj 181 dx) :: (dx, dictOf (flagEs w root q t1 t2) 2) :: (fl, lof) :: (nl, { cls := .type "list", data := .seq nvs.toArray n2 }) :: tl, p.1 ≠ I := fun p hp => by
        rcases List.mem_cons.mp hp with rfl | hp
        · exact Nat.ne_of_lt e1
        · exact hI' p (.tail _ hp)
      k_steps
      · rename_i E5 h7 l7 hdec h8 F8 N8
        rw [hall] at hdec
        rw [hdec, if_pos rfl] at hlast
        exact unr_end F8 (fun p hp => N8 p (.tail _ (.tail _ hp))) hIx (.tail _ (.tail _ (.tail _ (.tail _ (.head _))))) ⟨oF', _, rest, pre ++ [y], y, ty, rfl, d3, hr', by rw [hfs]; simp, hlast.symm, rfl, rfl⟩
      · rename_i E5 h7 F8 N8 l7 hdec
        rw [hall] at hdec
        rw [hdec, if_neg (by decide)] at hlast
        exact unr_end F8 (fun p hp => N8 p (.tail _ (.tail _ hp))) hIx (.tail _ (.tail _ (.tail _ (.tail _ (.head _))))) ⟨oF', _, rest, pre ++ [y], told, tt, rfl, d3, hr', by rw [hfs]; simp, hlast.symm, rfl, rfl⟩
end

theorem off_H3 : True := by
  w_top off
  exact True.intro
section
open PySem.W
variable {prog : Program} {w : World} {A : Around} {E : Value → Shared → Prop} {s : Shared}
theorem walks_lt {A : Around} {I : Addr} {fp wr : List Addr} {n : Nat} {P : Nat → Value → Prop} {St : Nat → Heap → Prop} (W : Walks prog w A I fp wr n P St) : Walks prog w A I fp wr n (fun i v => i < n ∧ P i v) St where
  self := W.self
  sub := W.sub
  frame := W.frame
  item := fun i s Q E hi st hQ => W.item i s Q E hi st fun v h' tk hP st' hk => hQ v h' tk ⟨hi, hP⟩ st' hk
  done := W.done
theorem paired_len {α β : Type} {F : α → β → Prop} : ∀ {l : List α} {zs : List β}, Paired F l zs → l.length = zs.length
  | _, _, .nil => rfl
  | _, _, .cons _ r => congrArg (· + 1) (paired_len r)
theorem paired_get {α β : Type} {F : α → β → Prop} : ∀ {l : List α} {zs : List β} {j : Nat} {u : β}, Paired F l zs → zs[j]? = some u → ∃ v, l[j]? = some v ∧ F v u
  | _, _, 0, _, .cons h _, e => ⟨_, rfl, by simp at e; exact e ▸ h⟩
  | _, _, j + 1, _, .cons _ r, e => by
    obtain ⟨v, h1, h2⟩ := paired_get r (by simpa using e)
    exact ⟨v, by simpa using h1, h2⟩
theorem assign_range3 {elt iter : Expr} {x y : Str} {px py : Pos} {scope : Scope} {cl : List (Str × Addr)} {pos : Pos} {env : Env} {Q : Shared → Prop}
    {h₀ : Heap} {m : Str → Option Value} {news : List (Addr × Obj)} {rg : Addr} {t u v : Tok} (f : Nat → Value → Prop)
    (hh : A.handled = none) (F : Fr h₀ env.locals s.heap m) (N : News h₀ env.locals s.heap news) (hr : IsRange s.heap rg 0 3 1 t u v)
    (hcell : ∀ z ∈ scope.names, z.2 ≠ .cell) (hkind : scope.kind = .function) (hx : scope.names.lookup x = some .local)
    (hy : env.kindOf y = some .local) (hp : (env.scope.kind == .class || (env.scope.kind == .module && env.locals != env.globals)) = false)
    (helt : ∀ C (i : Nat) tk s₃ m₃ E', i < 3 → Fr s.heap C s₃.heap m₃ → m₃ x = some (.int (i : Int) tk) →
      wpAny (model prog w) A (eval elt (compEnvC scope cl C env)) (fun u s₄ => f i u ∧ Keeps s₃ s₄) E' s₃)
    (h : ∀ D ys n h' tk, Fr h₀ env.locals h' (fun z => if z = y then some (.ref D) else m z) → News h₀ env.locals h' ((D, { cls := .type "list", data := .seq (List.toArray ys) n }) :: news) → (∀ p ∈ news, p.1 ≠ D) → ys.length = 3 → (∀ (i : Nat) v, ys[i]? = some v → f i v) → Q { s with heap := h', toks := tk }) :
    wpAny (model prog w) A (pyIter (.ref rg)) (fun it s₂ => wpAny (model prog w) A (newList []) (fun acc s₃ => wpAny (model prog w) A (newFunctionEnv scope env.globals cl [] env.qual none .none (some env)) (fun cenv s₄ =>
      codeAny (model prog w) A (.compStart (.ListComp elt [⟨.Name x px, iter, [], 0⟩] scope pos) 0 it acc { cenv with scope := relabel scope env }) (compPost (model prog w) A E (some (assign (.Name y py) env)) (fun _ s' => Q s') acc cenv.locals) s₄) E s₃) E s₂) E s := by
  refine wpAny_pyIter_range hr (by decide +kernel) ?_
  have e3 : Builtin.Range.rangeSize 0 3 1 = 3 := by decide +kernel
  rw [e3]
  have hIn : ∀ {b : Addr} {o : Obj}, s.heap.get? b = some o → b ≠ s.heap.objs.size := fun {b o} e => Nat.ne_of_lt (Heap.lt_size e)
  have hkI : ∀ {b : Addr} {o : Obj}, s.heap.get? b = some o → b ∉ [s.heap.objs.size] := fun {b o} e hm => hIn e (List.mem_singleton.mp hm)
  generalize hH : s.heap.push { cls := .type "range_iterator", data := .fields #[rawInt 0, rawInt 3, rawInt 1] } = h₂
  have k : Keep s.heap h₂ := fun b o e => by rw [← hH]; exact Heap.get?_push_of_some _ e
  have hsz : s.heap.objs.size ≤ h₂.objs.size := by rw [← hH, Heap.size_push]; exact Nat.le_succ _
  have hst : IsRangeIter h₂ s.heap.objs.size (0 + ((0 : Nat) : Int) * 1) (((3 : Nat) : Int) - ((0 : Nat) : Int)) 1 := by rw [← hH]; exact Heap.get?_push_size _ rfl
  refine comp_block_walkC (RR := fun acc C => compPost (model prog w) A E (some (assign (.Name y py) env)) (fun _ s' => Q s') acc C) (walks_lt (Walks.range hh s.heap.objs.size 0 1 3)) (by rw [sizeLine_eq]; omega) (fun _ => true) (fun v u => ∃ (i : Nat) (t : Tok), v = .int (i : Int) t ∧ i < 3 ∧ f i u)
    hcell hkind hx hst (fun b hb => by rw [List.mem_singleton.mp hb, ← hH, Heap.size_push]; exact Nat.lt_succ_self _) ⟨fun _ _ _ _ _ _ _ _ _ _ _ _ => wpAny_pure ⟨rfl, _, _, rfl, fun _ _ e => e⟩, fun C i v s₃ m₃ E' hC hv _ hn hm hk _ => ?_⟩ ?_
  · obtain ⟨hi, tk, rfl⟩ := hv
    have ei : (0 : Int) + (i : Int) * 1 = (i : Int) := by omega
    rw [ei] at hm ⊢
    exact wpAny_mono (helt C i tk s₃ m₃ E' hi ⟨hn, fun b o e => hk b o (hkI e) (k b o e), Nat.le_trans hsz hC⟩ hm) (fun u s₄ q => ⟨⟨i, tk, rfl, hi, q.1⟩, q.2⟩) fun _ _ e => e
  · intro D C h' tk m' ys vs hD hC hDC hnC hlD hplD hlen hP hF hk
    rw [List.filter_eq_self.mpr (fun _ _ => rfl)] at hF
    have kk : Keep s.heap h' := fun b o e => hk b o (hkI e) (k b o e)
    have n2 : ∀ {b : Addr}, h₂.get? b = none → s.heap.get? b = none := fun {b} hb => by
      cases q : s.heap.get? b with
      | none => rfl
      | some o => rw [k _ _ q] at hb; cases hb
    have n0 : ∀ {b : Addr}, s.heap.get? b = none → h₀.get? b = none := fun {b} hb => by
      cases q : h₀.get? b with
      | none => rfl
      | some o => rw [F.keep _ _ q] at hb; cases hb
    have nL : ∀ {b : Addr}, s.heap.get? b = none → b ≠ env.locals := fun {b} hb e => by
      obtain ⟨oL, _, _, hL, _⟩ := F.ns
      rw [e, hL] at hb; cases hb
    have F' := kk.fr F
    show wpAny _ A (assign (.Name y py) env (.ref D)) _ _ _
    refine wpAny_assign_Name (wpAny_storeName_local hy F'.ns (fun h₄ hn₄ hs₄ => ?_) hp)
    have hCL := nL (n2 hC)
    refine ⟨m', hnC.sameBut hs₄ hCL, fun h₅ hs₅ => ?_⟩
    have F₄ := F'.set hn₄ hs₄
    have F₅ : Fr h₀ env.locals h₅ (fun z => if z = y then some (.ref D) else m z) :=
      ⟨F₄.ns.sameBut hs₅ (Ne.symm hCL), fun b o e => hs₅.extBut b o (fun q => by rw [q, n0 (n2 hC)] at e; cases e) (F₄.keep b o e), F₄.above⟩
    have up : ∀ {b : Addr} {o : Obj}, b ≠ env.locals → b ≠ C → h'.get? b = some o → h₅.get? b = some o := fun {b o} h1 h2 e => hs₅.extBut b o h2 (hs₄.extBut b o h1 e)
    obtain ⟨n, hplD⟩ := hplD
    refine h D ys.toList n h₅ _ F₅ (fun p hp => ?_) (fun p hp => ?_) ?_ ?_
    · rcases List.mem_cons.mp hp with rfl | hp
      · exact ⟨by rw [Array.toArray_toList]; exact up (nL (n2 hD)) hDC hplD, nL (n2 hD), n0 (n2 hD)⟩
      · exact ⟨up (N p hp).2.1 (fun q => by have := (N p hp).1; rw [q, n2 hC] at this; cases this) (kk _ _ (N p hp).1), (N p hp).2⟩
    · intro e
      have := kk _ _ (N p hp).1
      have h2 := k _ _ (N p hp).1
      rw [e, hD] at h2
      cases h2
    · rw [← paired_len hF, hlen]
    · intro j u hu
      obtain ⟨v, hv, i, t, e, _, hf⟩ := paired_get hF hu
      obtain ⟨_, t', e'⟩ := hP j v hv
      rw [e'] at e
      have ej : (0 : Int) + (j : Int) * 1 = (i : Int) := (Value.int.inj e).1
      have : i = j := by omega
      rw [← this]; exact hf
theorem assign_listsS {elt iter : Expr} {x y : Str} {px py : Pos} {scope : Scope} {cl : List (Str × Addr)} {pos : Pos} {env : Env} {Q : Shared → Prop}
    {h₀ : Heap} {m : Str → Option Value} {news : List (Addr × Obj)} {ax : Addr} {items : List Value} {xss : List (List Str)} (f : Value → List Str → Prop)
    (hh : A.handled = none) (F : Fr h₀ env.locals s.heap m) (N : News h₀ env.locals s.heap news) (hl : s.heap.IsList ax items.toArray ∨ s.heap.IsTuple ax items.toArray) (hz : items.length ≤ 5000)
    (hcell : ∀ z ∈ scope.names, z.2 ≠ .cell) (hkind : scope.kind = .function) (hx : scope.names.lookup x = some .local)
    (hy : env.kindOf y = some .local) (hp : (env.scope.kind == .class || (env.scope.kind == .module && env.locals != env.globals)) = false)
    (helt : ∀ C v s₃ m₃ E', v ∈ items → Fr s.heap C s₃.heap m₃ → m₃ x = some v →
      wpAny (model prog w) A (eval elt (compEnvC scope cl C env)) (fun u s₄ => (∃ T its, u = .ref T ∧ s₃.heap.get? T = none ∧ s₄.heap.IsList T its ∧ ∃ xs, StrsAre its.toList xs ∧ f v xs) ∧ Keeps s₃ s₄) E' s₃)
    (hf : ∀ xss', Paired f items xss' → xss' = xss)
    (h : ∀ D ys n ls h' tk, Fr h₀ env.locals h' (fun z => if z = y then some (.ref D) else m z) → News h₀ env.locals h' ((D, { cls := .type "list", data := .seq (List.toArray ys) n }) :: (news ++ ls)) → LstsAre ls ys xss → Q { s with heap := h', toks := tk }) :
    wpAny (model prog w) A (pyIter (.ref ax)) (fun it s₂ => wpAny (model prog w) A (newList []) (fun acc s₃ => wpAny (model prog w) A (newFunctionEnv scope env.globals cl [] env.qual none .none (some env)) (fun cenv s₄ =>
      codeAny (model prog w) A (.compStart (.ListComp elt [⟨.Name x px, iter, [], 0⟩] scope pos) 0 it acc { cenv with scope := relabel scope env }) (compPost (model prog w) A E (some (assign (.Name y py) env)) (fun _ s' => Q s') acc cenv.locals) s₄) E s₃) E s₂) E s :=
  assign_lists (Q := fun _ s' => Q s') f hh F N hl hz hcell hkind hx hy hp helt hf h
end
section
open PySem.W
def okC (xs : List Str) : Prop := xs ≠ [] ∧ xs.length ≤ 1000 ∧ (∀ x ∈ xs, x.length ≤ 1000) ∧ (∀ x ∈ xs, Txt.startswith x (PySem.Str.ofString "/") = true) ∧ lexOK (loF (cmpF xs)) (hiF (cmpF xs)) = true ∧ wtF (loF (cmpF xs)) ≤ 5000 ∧ (hiF (cmpF xs)).length ≤ 5000
theorem strs_ne {vs : List Value} {xs : List Str} (h : StrsAre vs xs) (hne : xs ≠ []) : ∃ x t vs' xs', vs = .str x t :: vs' ∧ xs = x :: xs' := by
  cases h with
  | nil => exact absurd rfl hne
  | cons y t r => exact ⟨y, t, _, _, rfl, rfl⟩
variable {w : World} {p : Program} {loose : List Str} {mean : ExcName → Option Value} {mg mb : Str → Option Value} {A : Around} {E : Value → Shared → Prop} {s : Shared} {h₀ : Heap} {L : Addr} {m : Str → Option Value} {news tl fx : List (Addr × Obj)} {Q : Value → Shared → Prop}
theorem r_common {l : Addr} {vs : List Value} {xs : List Str} (X : (Mine.hd.heap_39 w.params).In s.heap) (T : Top p loose mean mg mb s.heap) (hd : A.depth + 9 < recursionLimit) (hu : A.units + 29 < cLine) (hh : A.handled = none)
    (hl : s.heap.IsList l (List.toArray vs)) (hv : StrsAre vs xs) (hok : okC xs)
    (h : ∀ t h' tk, Keep s.heap h' → Q (.str (comF xs) t) { s with heap := h', toks := tk }) :
    wpAny (model PySem.Challenge.rw_in0137_01.row.prog w) A (call (.ref 120) [.ref l] []) Q E s := by
  obtain ⟨h1, h2, h3, h4, h5, h6, h7⟩ := hok
  obtain ⟨x, t, vs', xs', rfl, rfl⟩ := strs_ne hv h1
  exact wpAny_call (c_common X T hd hu hh hl hv (by rw [strs_len hv]; exact h2) h3 h4 h5 h6 h7 fun t h' tk k => h t h' tk k)
theorem s_common {l : Addr} {o : Obj} {vs : List Value} {n : Nat} {xs : List Str} (F : Fr h₀ L s.heap m) (N : News h₀ L s.heap news) (X : (Mine.hd.heap_39 w.params).In h₀) (T : Top p loose mean mg mb h₀) (hd : A.depth + 9 < recursionLimit) (hu : A.units + 29 < cLine) (hh : A.handled = none)
    (hl : (l, o) ∈ news) (hc : o.cls = .type "list") (hda : o.data = .seq (List.toArray vs) n) (hv : StrsAre vs xs) (hok : okC xs)
    (h : ∀ t h' tk, Fr h₀ L h' m → News h₀ L h' news → Q (.str (comF xs) t) { s with heap := h', toks := tk }) :
    wpAny (model PySem.Challenge.rw_in0137_01.row.prog w) A (call (.ref 120) [.ref l] []) Q E s :=
  r_common (X.keeps F.keep) (T.keeps F.keep) hd hu hh ⟨o, News.get N hl, hc, n, hda⟩ hv hok fun t h' tk k => h t h' tk (k.fr F) (k.news N)
theorem s_last {x dx root q fl nl : Addr} {t1 t2 : Tok} {B n1 n2 : Nat} {ops : List Op} {lof : Obj} {fvs nvs : List Value} {fs : List Str} {ns : List Int}
    (F : Fr h₀ L s.heap m) (N : News h₀ L s.heap news) (X : (Mine.hd.heap_39 w.params).In h₀) (T : Top p loose mean mg mb h₀) (hd : A.depth + 7 < recursionLimit) (hu : A.units + 129 < cLine) (hh : A.handled = none)
    (hx : (x, instObj 181 dx) ∈ news) (hdx : (dx, dictOf (flagEs w root q t1 t2) 2) ∈ news) (hfl : (fl, lof) ∈ news) (hnl : (nl, ({ cls := .type "list", data := .seq nvs.toArray n2 } : Obj)) ∈ news) (htl : ∀ p ∈ tl, p ∈ news)
    (hT : TrieIs PySem.Challenge.rw_in0137_01.row.prog w root tl B ops) (hB : B ≤ 1000) (hlc : lof.cls = .type "list") (hld : lof.data = .seq fvs.toArray n1) (hfv : StrsAre fvs fs) (hfs : fs.length ≤ 1000) (hf : ∀ f ∈ fs, f.length ≤ 500 ∧ keyF f ≠ []) (hnv : IntsAre nvs ns) (hns : ns.length ≤ 1000)
    (h : ∀ t h' tk, Fr h₀ L h' m → News h₀ L h' news → Q (.str (lastF ops fs ns (PySem.Str.ofString "/")) t) { s with heap := h', toks := tk }) :
    wpAny (model PySem.Challenge.rw_in0137_01.row.prog w) A (call (.ref 209) [.ref x, .ref fl, .ref nl] []) Q E s := by
  obtain ⟨g, g1, g2, g3, g4, g5⟩ := ground_read (tl := (x, instObj 181 dx) :: (dx, dictOf (flagEs w root q t1 t2) 2) :: (fl, lof) :: (nl, { cls := .type "list", data := .seq nvs.toArray n2 }) :: tl) F N (fun r hr => by
    rcases List.mem_cons.mp hr with rfl | hr
    · exact hx
    rcases List.mem_cons.mp hr with rfl | hr
    · exact hdx
    rcases List.mem_cons.mp hr with rfl | hr
    · exact hfl
    rcases List.mem_cons.mp hr with rfl | hr
    · exact hnl
    exact htl r hr)
  exact wpAny_call (c_last g1 g2 g3 (X.keeps g4) (T.keeps g4) hd hu hh hT hB hlc hld hfv hfs hf hnv hns fun t h' tk k ap => h t h' tk (g5 h' k ap).1 (g5 h' k ap).2)
end
section
open PyProof.Rows PySem.W
variable {prog : Program} {w : World} {A : Around} {E : Value → Shared → Prop} {s : Shared}
theorem slice3_raw {value slice : PySem.Expr} {l : Addr} {vs : List Value} {ns : List Int} {i j : Int} {t u : Tok} {ops : List Value} {Q : Value → Shared → Prop} (hl : s.heap.IsList l (List.toArray vs)) (hi : IntsAre vs ns) (hz : vs.length ≤ 1000) (hj : j ≠ 0)
    (h : ∀ D ws ms h', Keep s.heap h' → h'.IsList D (List.toArray ws) → IntsAre ws ms → ms.length ≤ 1000 → Q (.ref D) { s with heap := h' })
    (hs : subscripted slice false (.ref l) (.ref s.heap.objs.size) = operate ops (getItem (.ref l) (.ref s.heap.objs.size))) (ht : ∀ r, letTemporaryGo value (.ref l) r = pure ()) :
    wpAny (model prog w) A (subscriptTail value slice (.ref l) (.ref s.heap.objs.size)) Q E { s with heap := s.heap.push { cls := .type "slice", data := .fields #[.int i t, .none, .int j u] } } := by
  refine subscriptTail_ops (Heap.IsList.typeIs (s := { s with heap := s.heap.push { cls := .type "slice", data := .fields #[.int i t, .none, .int j u] } }) (hl.push _)) list_getitem_lookup
    (wpAny_getItem_list_slice (lo := some i) (hi := none) (st := some j) (hl.push _) (Heap.IsSliceOf.new ..) (.int _ _) .none (.int _ _) (by simpa using hj) ?_ (by rw [sizeLine_eq, List.size_toArray]; omega)) hs ht
  have hp := hi.pick (some i) none (some j)
  have hsz := slicePick_size_le (List.toArray vs) (some i) none (some j)
  refine h _ (slicePick (List.toArray vs) (some i) none (some j)).toList (pickNums ns (some i) none (some j)) _ (fun b o e => Heap.get?_push_of_some _ (Heap.get?_push_of_some _ e)) ?_ hp ?_
  · rw [Array.toArray_toList]
    exact ⟨_, Heap.get?_push_size _ rfl, rfl, _, rfl⟩
  · have e1 := hp.length
    have e2 : (slicePick (List.toArray vs) (some i) none (some j)).toList.length = (slicePick (List.toArray vs) (some i) none (some j)).size := Array.length_toList ..
    have e3 : (List.toArray vs).size = vs.length := List.size_toArray ..
    omega
theorem newlist_raw {items : List Value} {Q : Value → Shared → Prop} (hz : items.length ≤ 1000) (h : ∀ D h', Keep s.heap h' → h'.IsList D (List.toArray items) → Q (.ref D) { s with heap := h' }) : wpAny (model prog w) A (newList items) Q E s :=
  wpAny_newList (h _ _ (fun b o e => Heap.get?_push_of_some _ e) ⟨_, Heap.get?_push_size _ rfl, rfl, _, rfl⟩) (by rw [sizeLine_eq]; omega)
theorem sum_raw {l : Addr} {vs : List Value} {ns : List Int} {Q : Value → Shared → Prop} (hh : A.handled = none) (hl : s.heap.IsList l (List.toArray vs)) (hi : IntsAre vs ns)
    (h : ∀ z h' tk t', Keep s.heap h' → Q (.int z t') { s with heap := h', toks := tk }) : wpAny (model prog w) A (call (.builtin "sum") [.ref l]) Q E s := by
  obtain ⟨xs, hx⟩ := hi.allInts.items
  rw [hx] at hl
  exact sum_intListG hh hl fun h' tk t' hk => h _ h' tk t' hk
end

theorem off_P1 : True := by
  w_top off
  exact True.intro
def wayF (x : Str) : List Str := upF 10 (normF x) []
theorem path_ends : ∀ a, a < 64 → endsF 10 (normF (pathF a)) = true ∧ (pathF a).length ≤ 1000 := by decide +kernel
theorem way_good : ∀ a, a < 64 → (∀ f ∈ wayF (pathF a), f.length ≤ 500 ∧ keyF f ≠ [] ∧ (keyF f).length ≤ 8) ∧ (wayF (pathF a)).length ≤ 8 ∧ wayF (pathF a) ≠ [] := by decide +kernel
def pick3 {α : Type} (x y z d : α) : Nat → α
  | 0 => x
  | 1 => y
  | 2 => z
  | _ => d
theorem pick3_get {α : Type} {x y z d u : α} {k : Nat} (hk : k < 3) (h : [x, y, z][k]? = some u) : u = pick3 x y z d k := by
  rcases k with _ | _ | _ | k
  · exact (Option.some.inj h).symm
  · exact (Option.some.inj h).symm
  · exact (Option.some.inj h).symm
  · omega
theorem pick3_all {α : Type} {P : α → Prop} {x y z d : α} (hx : P x) (hy : P y) (hz : P z) : ∀ k, k < 3 → P (pick3 x y z d k) := by
  intro k hk
  rcases k with _ | _ | _ | k
  · exact hx
  · exact hy
  · exact hz
  · omega
theorem pick3_some {α : Type} {x y z d : α} {k : Nat} (hk : k < 3) : [x, y, z][k]? = some (pick3 x y z d k) := by
  rcases k with _ | _ | _ | k
  · rfl
  · rfl
  · rfl
  · omega
def lstF (w : List Str) : Str := w.getLast?.getD (PySem.Str.ofString "/")
theorem pick3_strs {vs : List Value} {x y z d : Str} (h : StrsAre vs [x, y, z]) : StrsAre vs [pick3 x y z d 0, pick3 x y z d 1, pick3 x y z d 2] := h
structure FactsC (P : Nat → Str) (W : Nat → List Str) (ops : List Op) : Prop where
  ok : ∀ i j, i < 3 → j < 3 → okC [P i, P j]
  last : ∀ i j, i < 3 → j < 3 → lastF ops (W j) [((i : Nat) : Int)] (PySem.Str.ofString "/") = comF [P i, P j]
  isr : ∀ i j, i < 3 → j < 3 → isO ops (keyF (lstF (W j))) (10 + ((i : Nat) : Int)) = (comF [P i, P j] == lstF (W i))
  okP : okC [P 0, P 1, P 2]
  okR : okC [P 2, P 1, P 0]
  comR : comF [P 0, P 1, P 2] = comF [P 2, P 1, P 0]
  last3 : comF [P 0, P 1, P 2] = lastF ops (W 2) [0, 1, 2] (PySem.Str.ofString "/")
  ok1 : okC [comF [P 0, P 1], P 2]
  red1 : comF [comF [P 0, P 1], P 2] = comF [P 0, P 1, P 2]
  ok2 : okC [P 0, comF [P 1, P 2]]
  red2 : comF [P 0, comF [P 1, P 2]] = comF [P 0, P 1, P 2]
  cut : ∀ g k i f, g ∈ W 0 → k < 3 → i < 3 → f ∈ W k → (∃ n b, (keyF g, n, b) ∈ ops) ∧ okC [f, P i] ∧ okC [g, f] ∧ isO (cutO ops (keyF g)) (keyF f) ((i : Nat) : Int) = (comF [f, P i] == f && comF [g, f] != g)

theorem off_H4 : True := by
  w_top off
  exact True.intro
section
open PySem.W
variable {prog : Program} {w : World} {A : Around} {E : Value → Shared → Prop} {s : Shared} {h₀ : Heap} {m : Str → Option Value} {news : List (Addr × Obj)} {env : Env} {body : List Stmt}
theorem range3_inv {rg : Addr} {tA tB tC : Tok} {z : Str} {pz : Pos} {m₀ : Str → Option Value} {Q : Flow → Shared → Prop} (J : Nat → (Str → Option Value) → List (Addr × Obj) → Prop)
    (hh : A.handled = none) (F : Fr h₀ env.locals s.heap m₀) (N : News h₀ env.locals s.heap news) (hr : IsRange s.heap rg 0 3 1 tA tB tC) (h0 : J 0 m₀ news)
    (hend : ∀ m news h tk, J 3 m news → Fr h₀ env.locals h m → News h₀ env.locals h news → Q .next { s with heap := h, toks := tk })
    (hstep : ∀ I, (∀ p ∈ news, p.1 < I) → ∀ (i : Nat) tki m news' h tk oi, i < 3 → J i m news' → (∀ p ∈ news', p.1 ≠ I) → Fr h₀ env.locals h m → News h₀ env.locals h ((I, oi) :: news') →
      wpAny (model prog w) A (assign (.Name z pz) env (.int (i : Int) tki)) (fun _ s₂ => wpAny (model prog w) A (execs body env) (UnrPostW h₀ env.locals { s with heap := h, toks := tk } [(I, oi)] (fun m' n' => J (i + 1) m' n') Q) E s₂) E { s with heap := h, toks := tk }) :
    wpAny (model prog w) A (pyIter (.ref rg)) (fun it s₂ => TurnsAt prog w A h₀ env (.Name z pz) body Q E it s₂) E s := by
  have hL : env.locals < s.heap.objs.size := F.ns.lt
  have hlt : ∀ p ∈ news, p.1 < s.heap.objs.size := fun p hp => Heap.lt_size (N p hp).1
  refine wpAny_pyIter_range hr (by decide +kernel) ?_
  have e3 : Builtin.Range.rangeSize 0 3 1 = 3 := by decide +kernel
  rw [e3]
  refine ktu_core (tk0 := s.toks) (keep := []) (ws := [(s.heap.objs.size, "range_iterator")]) (xs := [.tok (fun t => .int ((0 : Nat) : Int) t), .tok (fun t => .int ((1 : Nat) : Int) t), .tok (fun t => .int ((2 : Nat) : Int) t)])
    (KTurns.ofWalks (walks_lt (Walks.range hh s.heap.objs.size 0 1 3)) fun i v s Q E st q => wpAny_of_eq (a := ()) (by rfl) q) rfl ?_ ?_ ?_ ?_ ?_ ?_ ?_ ?_ (F.push _) (fun p hp => ⟨Heap.get?_push_of_some _ (N p hp).1, (N p hp).2⟩) trivial ?_
  · rintro i v h ⟨hi, t, rfl⟩
    have ei : (0 : Int) + (i : Int) * 1 = (i : Int) := by omega
    rw [ei]
    rcases i with _ | _ | _ | i
    · exact ⟨_, rfl, t, rfl⟩
    · exact ⟨_, rfl, t, rfl⟩
    · exact ⟨_, rfl, t, rfl⟩
    · omega
  · intro i h st
    exact ⟨[(s.heap.objs.size, _)], ⟨⟨rfl, rfl⟩, trivial⟩, fun p hp => by rw [List.mem_singleton.mp hp]; exact st⟩
  · intro b hb
    have hb' : b = s.heap.objs.size := by simpa using hb
    rw [hb']
    exact ⟨List.mem_cons_self .., next_is_new F⟩
  · intro b hb
    simpa using hb
  · intro b hb
    exact .inl (by simpa using hb)
  · intro hm
    exact Nat.ne_of_lt hL (by simpa using hm)
  · intro p hp hm
    exact Nat.ne_of_lt (hlt p hp) (by simpa using hm)
  · exact Heap.get?_push_size _ rfl
  · have key : ∀ (rem : List Itm) (m : Str → Option Value) (n : List (Addr × Obj)), ((∀ p ∈ n, p.1 ≠ s.heap.objs.size) ∧ ∃ i, i ≤ 3 ∧ rem = [Itm.tok (fun t => .int ((0 : Nat) : Int) t), .tok (fun t => .int ((1 : Nat) : Int) t), .tok (fun t => .int ((2 : Nat) : Int) t)].drop i ∧ J i m n) →
        ItemsRest prog w A E h₀ env (.Name z pz) body Q s [(s.heap.objs.size, "range_iterator")] [] rem m n := by
      refine items_inv (fun rem m n => (∀ p ∈ n, p.1 ≠ s.heap.objs.size) ∧ ∃ i, i ≤ 3 ∧ rem = [Itm.tok (fun t => .int ((0 : Nat) : Int) t), .tok (fun t => .int ((1 : Nat) : Int) t), .tok (fun t => .int ((2 : Nat) : Int) t)].drop i ∧ J i m n) ?_ ?_
      · rintro m n h tk ⟨_, i, hi, hr, hJ⟩ F' N'
        have : i = 3 := by
          rcases i with _ | _ | _ | _ | i
          · cases hr
          · cases hr
          · cases hr
          · rfl
          · omega
        subst this
        exact hend m n h tk hJ F' N'
      · rintro a r m n v h tk ⟨hne, i, hi, hr, hJ⟩ ha F'
        refine AllObj.cons fun oi _ => AllObj.nil fun N' => ?_
        have hi3 : i < 3 := by
          rcases i with _ | _ | _ | _ | i
          · omega
          · omega
          · omega
          · cases hr
          · omega
        have hav : ∃ t, v = .int (i : Int) t ∧ r = [Itm.tok (fun t => .int ((0 : Nat) : Int) t), .tok (fun t => .int ((1 : Nat) : Int) t), .tok (fun t => .int ((2 : Nat) : Int) t)].drop (i + 1) := by
          rcases i with _ | _ | _ | i
          · obtain ⟨rfl, rfl⟩ := List.cons.inj hr; obtain ⟨t, rfl⟩ := ha; exact ⟨t, rfl, rfl⟩
          · obtain ⟨rfl, rfl⟩ := List.cons.inj hr; obtain ⟨t, rfl⟩ := ha; exact ⟨t, rfl, rfl⟩
          · obtain ⟨rfl, rfl⟩ := List.cons.inj hr; obtain ⟨t, rfl⟩ := ha; exact ⟨t, rfl, rfl⟩
          · omega
        obtain ⟨t, rfl, rfl⟩ := hav
        refine wpAny_mono (hstep _ hlt i t m n h tk oi hi3 hJ hne F' N') (fun _ s₂ y => wpAny_mono y (fun f s₃ p => unr_mono2 (fun m' n' d q => ⟨trivial, fun p hp => d p hp _ (.head _), i + 1, hi3, rfl, q⟩) p) fun _ _ e => e) fun _ _ e => e
    exact key _ _ _ ⟨fun p hp => Nat.ne_of_lt (hlt p hp), 0, Nat.zero_le _, rfl, h0⟩
/-- a turn's end -/
theorem unr_end1 {s₁ : Shared} {h' : Heap} {tk : Nat} {L : Addr} {m' : Str → Option Value} {I : Addr} {oi : Obj} {news' : List (Addr × Obj)} {r : (Str → Option Value) → List (Addr × Obj) → Prop}
    (F : Fr h₀ L h' m') (N : News h₀ L h' ((I, oi) :: news')) (hI : ∀ p ∈ news', p.1 ≠ I) (hr : r m' news') :
    UnrEndW h₀ L s₁ [(I, oi)] r { s₁ with heap := h', toks := tk } :=
  ⟨h', tk, m', news', rfl, F, N, fun p hp q hq => by rw [List.mem_singleton.mp hq]; exact hI p hp, hr⟩
end
section
open PySem.W
theorem s_newx {w : World} {p : Program} {loose : List Str} {mean : ExcName → Option Value} {mg mb : Str → Option Value} {A : Around} {E : Value → Shared → Prop} {s : Shared} {h₀ : Heap} {L : Addr} {m : Str → Option Value} {news : List (Addr × Obj)} {Q : Value → Shared → Prop}
    (F : Fr h₀ L s.heap m) (N : News h₀ L s.heap news) (X : (Mine.hd.heap_39 w.params).In h₀) (T : Top p loose mean mg mb h₀) (hd : A.depth + 9 < recursionLimit) (hu : A.units + 39 < cLine) (hh : A.handled = none)
    (h : ∀ x dx d q o t1 t2 h' tk fx, (x, instObj 181 dx) ∈ fx → (dx, dictOf (flagEs w d q t1 t2) 2) ∈ fx → (∀ p ∈ news, p ∈ fx) → Fr h₀ L h' m → News h₀ L h' (fx ++ [(d, o)]) → (∀ p ∈ fx, ∀ r ∈ [(d, o)], p.1 ≠ r.1) →
      TrieIs PySem.Challenge.rw_in0137_01.row.prog w d [(d, o)] 0 [] → Q (.ref x) { s with heap := h', toks := tk }) :
    wpAny (model PySem.Challenge.rw_in0137_01.row.prog w) A (call (.ref 181) [] []) Q E s :=
  s_new F N X T hd hu hh fun x dx d q o t1 t2 h' tk F' N' ap _ hT => h x dx d q o t1 t2 h' tk ((x, instObj 181 dx) :: (dx, dictOf (flagEs w d q t1 t2) 2) :: news) (.head _) (.tail _ (.head _)) (fun p hp => .tail _ (.tail _ hp)) F' N' ap hT
theorem lsts_at : ∀ {ls : List (Addr × Obj)} {vs : List Value} {xss : List (List Str)} {k : Nat}, LstsAre ls vs xss → k < xss.length → ∃ T o its n xs, vs[k]? = some (.ref T) ∧ (T, o) ∈ ls ∧ o.cls = .type "list" ∧ o.data = .seq (List.toArray its) n ∧ StrsAre its xs ∧ xss[k]? = some xs
  | _, _, _, _, .nil, h => absurd h (Nat.not_lt_zero _)
  | _, _, _, 0, .cons h1 h2 h3 _, _ => ⟨_, _, _, _, _, rfl, .head _, h1, h2, h3, rfl⟩
  | _, _, _, k + 1, .cons _ _ _ r, h => by
    obtain ⟨T, o, its, n, xs, a, b, c, d, e, f⟩ := lsts_at (k := k) r (Nat.lt_of_succ_lt_succ h)
    exact ⟨T, o, its, n, xs, by simpa using a, .tail _ b, c, d, e, by simpa using f⟩
theorem news_sub {h₀ h : Heap} {L : Addr} {a b : List (Addr × Obj)} (N : News h₀ L h b) (hs : ∀ p ∈ a, p ∈ b) : News h₀ L h a := fun p hp => N p (hs p hp)
theorem last_L {prog : Program} {w : World} {A : Around} {E : Value → Shared → Prop} {s : Shared} {value slice : PySem.Expr} {l : Addr} {o : Obj} {vs : List Value} {n : Nat} {u : Tok} {x : Value} {h₀ : Heap} {L : Addr} {news : List (Addr × Obj)} {Q : Value → Shared → Prop}
    (N : News h₀ L s.heap news) (hm : (l, o) ∈ news) (hc : o.cls = .type "list") (hd : o.data = .seq (List.toArray vs) n) (hz : vs.length ≤ 5000) (hx : vs.getLast? = some x) (h : Q x s)
    (hs : subscripted slice false (.ref l) (.int (-1) u) = operate [.ref l, .int (-1) u] (getItem (.ref l) (.int (-1) u))) :
    wpAny (model prog w) A (subscriptTail value slice (.ref l) (.int (-1) u)) Q E s := by
  have hl : s.heap.IsList l (List.toArray vs) := ⟨o, News.get N hm, hc, n, hd⟩
  have hne : vs ≠ [] := by rintro rfl; simp at hx
  have hp := List.length_pos_iff.mpr hne
  have e : (List.toArray vs).size = vs.length := List.size_toArray ..
  refine tail_any hl.typeIs slot_list_getitem.lookup (wpAny_getItem_list_neg hl (by decide) (by rw [e]; omega) (by decide) ?_ h) hs
  rw [e, ← hx, List.getLast?_eq_getElem?]
  have : ((-1 : Int) + (vs.length : Int)).toNat = vs.length - 1 := by omega
  rw [this]
  simp
def opsOf (j : Nat) (w : List Str) : List Op := w.map (fun f => (keyF f, ((j : Nat) : Int), false)) ++ [(keyF (w.getLast?.getD (PySem.Str.ofString "/")), 10 + ((j : Nat) : Int), true)]
def opsK (W : Nat → List Str) : Nat → List Op
  | 0 => []
  | k + 1 => opsK W k ++ opsOf k (W k)
end
local macro_rules | `(tactic| walk_at "exec For Name Call cons nil") => `(tactic| (k_here; (rename Fr _ _ _ _ => lF'); (with_unfolding_all refine' For_turns lF' ?_; k_whole)))
section
variable {prog : Program} {w : World} {A : Around} {E : Value → Shared → Prop} {s : Shared}
theorem ne_same {x y : Str} {t u : Tok} {Q : Value → Shared → Prop} (h : x = y) (hq : Q (.bool false) s) : wpAny (model prog w) A (compareOp .NotEq (.str x t) (.str y u)) Q E s := by
  subst h
  exact PyProof.Rows.ne_str (by simpa using hq)
end

theorem off_H5 : True := by
  w_top off
  exact True.intro
section
open PyProof.Rows PySem.W
variable {prog : Program} {w : World} {A : Around} {E : Value → Shared → Prop} {s : Shared} {h₀ : Heap} {L : Addr} {m : Str → Option Value} {news : List (Addr × Obj)}
theorem pick_rev3 {a b c : Value} : slicePick (List.toArray [a, b, c]) none none (some (-1)) = List.toArray [c, b, a] := by with_unfolding_all rfl
theorem rev_raw {value slice : PySem.Expr} {l : Addr} {o : Obj} {n : Nat} {vs : List Value} {x y z : Str} {u : Tok} {ops : List Value} {Q : Value → Shared → Prop} (F : Fr h₀ L s.heap m) (N : News h₀ L s.heap news) (hm : (l, o) ∈ news) (hc : o.cls = .type "list") (hd : o.data = .seq (List.toArray vs) n) (hi : StrsAre vs [x, y, z])
    (h : ∀ D ws h', Fr h₀ L h' m → News h₀ L h' ((D, { cls := .type "list", data := .seq (List.toArray ws) 0 }) :: news) → StrsAre ws [z, y, x] → Q (.ref D) { s with heap := h' })
    (hs : subscripted slice false (.ref l) (.ref s.heap.objs.size) = operate ops (getItem (.ref l) (.ref s.heap.objs.size))) (ht : ∀ r, letTemporaryGo value (.ref l) r = pure ()) :
    wpAny (model prog w) A (subscriptTail value slice (.ref l) (.ref s.heap.objs.size)) Q E { s with heap := s.heap.push { cls := .type "slice", data := .fields #[.none, .none, .int (-1) u] } } := by
  have hl : s.heap.IsList l (List.toArray vs) := ⟨o, News.get N hm, hc, n, hd⟩
  refine subscriptTail_ops (Heap.IsList.typeIs (s := { s with heap := s.heap.push { cls := .type "slice", data := .fields #[.none, .none, .int (-1) u] } }) (hl.push _)) list_getitem_lookup
    (wpAny_getItem_list_slice (lo := none) (hi := none) (st := some (-1)) (hl.push _) (Heap.IsSliceOf.new ..) .none .none (.int _ _) (by decide) ?_ ?_) hs ht
  · obtain _ | ⟨_, t0, hi⟩ := hi
    obtain _ | ⟨_, t1, hi⟩ := hi
    obtain _ | ⟨_, t2, hi⟩ := hi
    cases hi
    have k1 : Keep s.heap (s.heap.push { cls := .type "slice", data := .fields #[.none, .none, .int (-1) u] }) := fun b o e => Heap.get?_push_of_some _ e
    have k2 : ∀ ob, Keep (s.heap.push { cls := .type "slice", data := .fields #[.none, .none, .int (-1) u] }) ((s.heap.push { cls := .type "slice", data := .fields #[.none, .none, .int (-1) u] }).push ob) := fun ob b o e => Heap.get?_push_of_some _ e
    have F1 := k1.fr F
    have N1 := k1.news N
    have hD := next_is_new F1
    refine h _ [.str z t2, .str y t1, .str x t0] _ ((k2 _).fr F1) (fun p hp => ?_) (.cons _ _ (.cons _ _ (.cons _ _ .nil)))
    rw [pick_rev3]
    rcases List.mem_cons.mp hp with rfl | hp
    · exact ⟨Heap.get?_push_size _ rfl, fun e => Nat.ne_of_lt F1.ns.lt e.symm, hD⟩
    · exact ⟨Heap.get?_push_of_some _ (N1 p hp).1, (N1 p hp).2⟩
  · rw [sizeLine_eq, List.size_toArray]
    have := strs_len hi
    rw [this]
    exact Nat.le_trans (show 3 ≤ 1000 by omega) (by omega)
end
section
open PySem.W
theorem item_L {prog : Program} {w : World} {A : Around} {E : Value → Shared → Prop} {s : Shared} {value slice : PySem.Expr} {l : Addr} {o : Obj} {vs : List Value} {n : Nat} {k : Int} (i : Nat) {u : Tok} {x : Value} {h₀ : Heap} {L : Addr} {news : List (Addr × Obj)} {Q : Value → Shared → Prop}
    (N : News h₀ L s.heap news) (hm : (l, o) ∈ news) (hc : o.cls = .type "list") (hd : o.data = .seq (List.toArray vs) n) (hk : k = (i : Int)) (hi : i ≤ 5000) (hx : vs[i]? = some x) (h : Q x s)
    (hs : subscripted slice false (.ref l) (.int k u) = operate [.ref l, .int k u] (getItem (.ref l) (.int k u))) :
    wpAny (model prog w) A (subscriptTail value slice (.ref l) (.int k u)) Q E s := by
  subst hk
  exact item_at ⟨o, News.get N hm, hc, n, hd⟩ hi hx h hs
end

theorem off_R1 : True := by
  w_top off
  exact True.intro
section
open PySem.W
theorem enter_lam {prog : Program} {w : World} {A : Around} {R : Result → Shared → Prop} {s : Shared} {name qual : Str} {params : Arguments} {body : PySem.Expr} {scope : Scope} {cl : List (Str × Addr)} {pm ctv : Value} {c' f : Addr} {args : Args} {binds : List (Str × Value)}
    (hlim : s.heap.NoLimit) (ho : s.heap.get? f = some (kla_obj name qual params body scope cl pm c' ctv)) (hcd : s.heap.CodeRec (.ref c') qual) (hroom : A.depth < recursionLimit)
    (hbind : bindArgs (kla_fn name qual params body scope cl pm (.ref c') ctv) args = pure binds) (hloc : ∀ y ∈ binds, scope.names.lookup y.1 = some .local)
    (h : ∀ L' h₁, Fr s.heap L' h₁ (fun y => binds.reverse.lookup y) → News s.heap L' h₁ [] →
      wpAny (model prog w) (A.deeper (envX qual scope L' f (.ref c') cl)) (eval body (envX qual scope L' f (.ref c') cl)) (fun v s' => R (.ok (.ret v)) s') (fun _ _ => False) { s with heap := h₁, toks := s.toks + binds.length })
    (hco : scope.isCoroutine = false) (hgen : scope.isGenerator = false) (hk : scope.kind = .function)
    (hcell : ∀ x ∈ scope.names, x.2 ≠ .cell) : codeAny (model prog w) A (.call (.ref f) args) R s := by
  refine kla_callFunE hroom ho rfl hco hgen rfl hcd ?_
  rw [hbind]
  refine wpAny_pure (wpAny_newFunctionEnv hcell hloc (fun h₁ hns hsb => ⟨hlim.fresh _ hsb, ?_⟩) hk)
  have hk₁ : ∀ b o, s.heap.get? b = some o → h₁.get? b = some o := fun b o e => hsb.extBut b o (Nat.ne_of_lt (Heap.lt_size e)) (Heap.get?_push_of_some _ e)
  exact kla_codeExpr (wpAny_mono (h s.heap.objs.size h₁ ⟨hns, hk₁, Nat.le_refl _⟩ News.nil) (fun v s' x => x) fun _ _ y => y.elim)
end
section
local macro_rules | `(tactic| walk_at "call ref") => `(tactic| ((with_reducible show wpAny _ _ (call (Value.ref 120) _ _) _ _ _); (with_reducible refine Stop.mk ?_)))
theorem c_lam1 : ∀ {w : World} {p : Program} {loose : List Str} {mean : ExcName → Option Value} {mg mb : Str → Option Value} {A : Around} {s : Shared} {R : Result → Shared → Prop} {f c' : Addr} {qual : Str} {pm ctv : Value} {x y : Str} {t u : Tok}
    (_ : (Mine.hd.heap_39 w.params).In s.heap) (_ : Top p loose mean mg mb s.heap) (_ : A.depth + 12 < recursionLimit) (_ : A.units + 39 < cLine) (_ : A.handled = none)
    (_ : s.heap.get? f = some (PySem.W.kla_obj "<lambda>" qual (({ posonlyargs := [], args := [{ arg := "one", annotation := none, pos := ⟨213, 21, 213, 24⟩ : PySem.Arg }, { arg := "other", annotation := none, pos := ⟨213, 26, 213, 31⟩ : PySem.Arg }], vararg := none, kwonlyargs := [], kw_defaults := [], kwarg := none, defaults := [] }) : PySem.Arguments) (PySem.Expr.Call (PySem.Expr.Name "commonpath" ⟨213, 33, 213, 43⟩) [PySem.Expr.List [PySem.Expr.Name "one" ⟨213, 45, 213, 48⟩, PySem.Expr.Name "other" ⟨213, 50, 213, 55⟩] ⟨213, 44, 213, 56⟩] [] ⟨213, 33, 213, 57⟩) (({ kind := PySem.ScopeKind.function, names := [(PySem.Str.ofString "one", PySem.NameKind.local), (PySem.Str.ofString "other", PySem.NameKind.local), (PySem.Str.ofString "commonpath", PySem.NameKind.globalImplicit)], isGenerator := false, isCoroutine := false, more := [] }) : PySem.Scope) [] pm c' ctv)) (_ : s.heap.CodeRec (.ref c') qual) (_ : okC [x, y])
    (_ : ∀ t h' tk, Keep s.heap h' → R (.ok (.ret (.str (comF [x, y]) t))) { s with heap := h', toks := tk }),
    codeAny (model PySem.Challenge.rw_in0137_01.row.prog w) A (.call (.ref f) ⟨[.str x t, .str y u], []⟩) R s := by
  k_fill
  intro w p loose mean mg mb A s R f c' qual pm ctv x y t u X T hd hu hh ho hcd hok ret
  refine' enter_lam (binds := [("one", .str x t), ("other", .str y u)]) T.nolimit ho hcd ?hroom ?hbind ?hloc ?h ?hco ?hgen ?hk ?hcell
  case hroom => omega
  case hbind => rfl
  case hloc => exact locs rfl
  case hco => rfl
  case hgen => rfl
  case hk => rfl
  case hcell => decide
  intro L' h₁ F' N'
  (try dsimp only)
  k_steps
  refine Stop.out (s_common (by assumption) (by assumption) X T (by simp only [depth_deeper]; omega) (by simp only [Around.deeper_units]; omega) (by exact hh) (.head _) rfl rfl (.cons _ _ (.cons _ _ .nil)) hok fun tc hc1 tkc F1 N1 => ?_)
  k_steps
  all_goals exact ret _ _ _ (Fr.keep (by assumption))
theorem c_lam2 : ∀ {w : World} {p : Program} {loose : List Str} {mean : ExcName → Option Value} {mg mb : Str → Option Value} {A : Around} {s : Shared} {R : Result → Shared → Prop} {f c' : Addr} {qual : Str} {pm ctv : Value} {x y : Str} {t u : Tok}
    (_ : (Mine.hd.heap_39 w.params).In s.heap) (_ : Top p loose mean mg mb s.heap) (_ : A.depth + 12 < recursionLimit) (_ : A.units + 39 < cLine) (_ : A.handled = none)
    (_ : s.heap.get? f = some (PySem.W.kla_obj "<lambda>" qual (({ posonlyargs := [], args := [{ arg := "one", annotation := none, pos := ⟨215, 21, 215, 24⟩ : PySem.Arg }, { arg := "other", annotation := none, pos := ⟨215, 26, 215, 31⟩ : PySem.Arg }], vararg := none, kwonlyargs := [], kw_defaults := [], kwarg := none, defaults := [] }) : PySem.Arguments) (PySem.Expr.Call (PySem.Expr.Name "commonpath" ⟨215, 33, 215, 43⟩) [PySem.Expr.List [PySem.Expr.Name "other" ⟨215, 45, 215, 50⟩, PySem.Expr.Name "one" ⟨215, 52, 215, 55⟩] ⟨215, 44, 215, 56⟩] [] ⟨215, 33, 215, 57⟩) (({ kind := PySem.ScopeKind.function, names := [(PySem.Str.ofString "one", PySem.NameKind.local), (PySem.Str.ofString "other", PySem.NameKind.local), (PySem.Str.ofString "commonpath", PySem.NameKind.globalImplicit)], isGenerator := false, isCoroutine := false, more := [] }) : PySem.Scope) [] pm c' ctv)) (_ : s.heap.CodeRec (.ref c') qual) (_ : okC [y, x])
    (_ : ∀ t h' tk, Keep s.heap h' → R (.ok (.ret (.str (comF [y, x]) t))) { s with heap := h', toks := tk }),
    codeAny (model PySem.Challenge.rw_in0137_01.row.prog w) A (.call (.ref f) ⟨[.str x t, .str y u], []⟩) R s := by
  k_fill
  intro w p loose mean mg mb A s R f c' qual pm ctv x y t u X T hd hu hh ho hcd hok ret
  refine' enter_lam (binds := [("one", .str x t), ("other", .str y u)]) T.nolimit ho hcd ?hroom ?hbind ?hloc ?h ?hco ?hgen ?hk ?hcell
  case hroom => omega
  case hbind => rfl
  case hloc => exact locs rfl
  case hco => rfl
  case hgen => rfl
  case hk => rfl
  case hcell => decide
  intro L' h₁ F' N'
  (try dsimp only)
  k_steps
  refine Stop.out (s_common (by assumption) (by assumption) X T (by simp only [depth_deeper]; omega) (by simp only [Around.deeper_units]; omega) (by exact hh) (.head _) rfl rfl (.cons _ _ (.cons _ _ .nil)) hok fun tc hc1 tkc F1 N1 => ?_)
  k_steps
  all_goals exact ret _ _ _ (Fr.keep (by assumption))
end

theorem off_R2 : True := by
  w_top off
  exact True.intro
def LamOk (w : World) (f : Addr) (g : Str → Str → Str) (ok : Str → Str → Prop) (h₀ : Heap) : Prop :=
  ∀ {A : Around} {s : Shared} {R : Result → Shared → Prop} {x y : Str} {t u : Tok}, Keep h₀ s.heap → A.depth + 12 < recursionLimit → A.units + 39 < cLine → A.handled = none → ok x y →
    (∀ t h' tk, Keep s.heap h' → R (.ok (.ret (.str (g x y) t))) { s with heap := h', toks := tk }) →
    codeAny (model PySem.Challenge.rw_in0137_01.row.prog w) A (.call (.ref f) ⟨[.str x t, .str y u], []⟩) R s
section
open PySem.W
variable {prog : Program} {w : World} {A : Around} {E : Value → Shared → Prop} {s : Shared} {h₀ : Heap} {L : Addr} {m : Str → Option Value} {news : List (Addr × Obj)} {env : Env} {body : List Stmt}
theorem walks_shift {I : Addr} {fp wr : List Addr} {n k : Nat} {P : Nat → Value → Prop} {St : Nat → Heap → Prop} (W : Walks prog w A I fp wr (k + n) P St) : Walks prog w A I fp wr n (fun i v => P (k + i) v) (fun i h => St (k + i) h) where
  self := fun i => W.self (k + i)
  sub := W.sub
  frame := fun i => W.frame (k + i)
  item := fun i s Q E hi st hQ => W.item (k + i) s Q E (Nat.add_lt_add_left hi k) st hQ
  done := W.done
theorem iter_K {l : Addr} {its : Array Value} {Q : Value → Shared → Prop} (F : Fr h₀ L s.heap m) (N : News h₀ L s.heap news) (hl : s.heap.IsList l its)
    (h : ∀ (I : Addr) h' oI, Fr h₀ L h' m → News h₀ L h' ((I, oI) :: news) → oI.cls = .type "list_iterator" → oI.data = .fields #[.ref l, .int ((0 : Nat) : Int) 0] → Q (.ref I) { s with heap := h' }) :
    wpAny (model prog w) A (call (.builtin "iter") [.ref l]) Q E s := by
  refine call_function_entry (by decide +kernel) (by decide +kernel) kdk_entry_iter (kdk_args_iter _) ?_
  unfold Builtin.«iter»
  refine wpAny_bind (m := someArgs "iter" 1 2 _) (wpAny_of_eq (a := [Value.ref l]) (by first | rfl | kernel_rfl!) ?_)
  show wpAny _ _ (pyIter (.ref l) >>= _) _ _ _
  refine wpAny_bind (wpAny_pyIter_list hl ?_)
  exact wpAny_pure ⟨_, rfl, h _ _ _ (F.push _) (News.push F N _ rfl) rfl rfl⟩
theorem next_K {l it : Addr} {io : Obj} {its : Array Value} {i : Nat} {x : Value} {Q : Value → Shared → Prop} (F : Fr h₀ L s.heap m) (N : News h₀ L s.heap [(it, io)]) (hc : io.cls = .type "list_iterator") (hd : io.data = .fields #[.ref l, .int (i : Int) 0]) (hl : s.heap.IsList l its) (hx : its[i]? = some x)
    (h : ∀ h' o', Fr h₀ L h' m → News h₀ L h' [(it, o')] → o'.cls = .type "list_iterator" → o'.data = .fields #[.ref l, .int ((i + 1 : Nat) : Int) 0] → Q x { s with heap := h' }) :
    wpAny (model prog w) A (call (.builtin "next") [.ref it]) Q E s := by
  have hm := N (it, io) (.head _)
  have hit : s.heap.IsListIter it l i := ⟨io, hm.1, hc, hd⟩
  refine call_function_entry (by decide +kernel) (by decide +kernel) kdk_entry_next (kdk_args_next _) ?_
  unfold Builtin.«next»
  refine wpAny_bind (m := someArgs "next" 1 2 _) (wpAny_of_eq (a := [Value.ref it]) (by first | rfl | kernel_rfl!) ?_)
  dsimp only
  refine wpAny_bind (wpAny_specialOf (name := Str.ofString "__next__") hit.typeIs slot_listiter_next.lookup ?_)
  refine wpAny_ite_split (fun hab => absurd hab (by decide)) (fun _ => ?_)
  obtain ⟨ol, hol, _, nl, hdl⟩ := id hl
  refine wpAny_bind (wpAny_callSpecial?_slot (name := Str.ofString "__next__") hit.typeIs slot_listiter_next
    (wpAny_call_entry slot_listiter_next hit.typeIs entry_listiter_next ?_ (args_listiter_next _)))
  show wpAny _ _ (field (.ref it) 0 >>= _) _ _ s
  refine wpAny_bind (wpAny_field hm.1 hd (x := .ref l) rfl ?_)
  show wpAny _ _ (if (Value.ref l == Value.none) = true then _ else _) _ _ s
  rw [if_neg (show ¬ ((Value.ref l == Value.none) = true) from Bool.false_ne_true)]
  show wpAny _ _ (field (.ref it) 1 >>= _) _ _ s
  refine wpAny_bind (wpAny_field hm.1 hd (x := .int i 0) rfl ?_)
  show wpAny _ _ (seqItems? (.ref l) >>= _) _ _ s
  refine wpAny_bind (wpAny_seqItems hol hdl ?_)
  simp only [Int.toNat_natCast, hx]
  have hs : Heap.SameBut it s.heap (s.heap.update it (Obj.mapFields (·.setIfInBounds 1 (rawInt ((i : Int) + 1))))) := Heap.SameBut.update ..
  have ho' := Heap.get?_update_self (f := Obj.mapFields (·.setIfInBounds 1 (rawInt ((i : Int) + 1)))) (h := s.heap) hm.1 (Obj.isFreed_of_fields (Obj.data_mapFields hd _))
  have hN := (show News h₀ L s.heap ([] ++ (it, io) :: []) from N).setIn (fun p hp => nomatch hp) (fun p hp => nomatch hp) hs ho'
  refine wpAny_bind (wpAny_setField hm.1 hd (by simp) (wpAny_pure ⟨x, rfl, ?_⟩))
  exact wpAny_pure ⟨_, rfl, h _ _ (F.change hs hm.2.1 hm.2.2) hN ((Obj.cls_mapFields ..).trans hc) (by rw [Obj.data_mapFields hd]; simp [rawInt])⟩
theorem iter_on {I l : Addr} {io : Obj} {vs : List Value} {k : Nat} {z : Str} {pz : Pos} {m₀ : Str → Option Value} {Q : Flow → Shared → Prop} (J : List Value → (Str → Option Value) → Prop)
    (hh : A.handled = none) (F : Fr h₀ env.locals s.heap m₀) (N : News h₀ env.locals s.heap [(I, io)]) (hic : io.cls = .type "list_iterator") (hid : io.data = .fields #[.ref l, .int (k : Int) 0]) (hl : h₀.IsList l vs.toArray) (hk : k ≤ vs.length) (h0 : J (vs.drop k) m₀)
    (hend : ∀ m h tk, J [] m → Fr h₀ env.locals h m → Q .next { s with heap := h, toks := tk })
    (hstep : ∀ v r m h tk oi, J (v :: r) m → Fr h₀ env.locals h m → News h₀ env.locals h [(I, oi)] →
      wpAny (model prog w) A (assign (.Name z pz) env v) (fun _ s₂ => wpAny (model prog w) A (execs body env) (UnrPostW h₀ env.locals { s with heap := h, toks := tk } [(I, oi)] (fun m' _ => J r m') Q) E s₂) E { s with heap := h, toks := tk }) :
    wpAny (model prog w) A (pyIter (.ref I)) (fun it s₂ => TurnsAt prog w A h₀ env (.Name z pz) body Q E it s₂) E s := by
  have hm := N (I, io) (.head _)
  obtain ⟨lo, hlo, hlc, hld⟩ := id hl
  have hne : l ≠ I := fun e => by rw [e, hm.2.2] at hlo; cases hlo
  have hls : s.heap.IsList l vs.toArray := ⟨lo, F.keep _ _ hlo, hlc, hld⟩
  refine wpAny_pyIter_listiter ⟨io, hm.1, hic, hid⟩ ?_
  have W0 := Walks.list (prog := prog) (w := w) hh I l hne vs.toArray
  have e0 : vs.toArray.size = k + (vs.length - k) := by rw [List.size_toArray]; omega
  rw [e0] at W0
  have W := walks_shift W0
  refine ⟨I, [I, l], [I], vs.length - k, _, _, _, m₀, [], fun i m' n' => n' = [] ∧ J (vs.drop (k + i)) m', rfl, KTurns.ofWalks W fun i v s Q E st q => wpAny_of_eq (a := ()) (by rfl) q, ?_, ?_, ?_, ⟨⟨io, hm.1, hic, hid⟩, hls⟩, F, News.nil, ⟨rfl, h0⟩, ?_, ?_⟩
  · intro hL
    rcases List.mem_cons.mp hL with e | hL
    · exact hm.2.1 e.symm
    · have e := List.mem_singleton.mp hL
      have h1 := Heap.lt_size hlo
      have h2 := F.above
      rw [← e] at h1
      exact absurd h1 (Nat.not_lt.mpr h2)
  · intro b hb
    rw [List.mem_singleton.mp hb]
    exact hm.2.2
  · intro p hp
    cases hp
  · rintro i v m₁ _ h₁ tk₁ own hin hPi ⟨rfl, hJ⟩ hoff hown hget hall hst₁ F₁ N₁
    obtain ⟨it, hit, hic', hid'⟩ := hst₁.1
    have hmemI := hall I (.head _) hm.2.2 it hit
    have hdrop : vs.drop (k + i) = v :: vs.drop (k + (i + 1)) := by
      have hlt : k + i < vs.length := by omega
      have hv : vs[k + i]? = some v := by simpa using hPi
      rw [List.drop_eq_getElem_cons hlt]
      congr 1
      exact Option.some.inj ((List.getElem?_eq_getElem hlt).symm.trans hv)
    rw [hdrop] at hJ
    have N₂ : News h₀ env.locals h₁ [(I, it)] := fun p hp => by
      rw [List.mem_singleton.mp hp]
      exact N₁ _ (List.mem_append_left _ hmemI)
    refine wpAny_mono (hstep v _ m₁ h₁ tk₁ it hJ F₁ N₂) (fun _ s₂ h₂ => wpAny_mono h₂ (fun f s₃ p => ?_) fun _ _ e => e) fun _ _ e => e
    have fin : UnrEndW h₀ env.locals { s with heap := h₁, toks := tk₁ } [(I, it)] (fun m' _ => J (vs.drop (k + (i + 1))) m') s₃ →
        LoopStepU h₀ env.locals [I] own (fun m' n' => n' = [] ∧ J (vs.drop (k + (i + 1))) m') { s with heap := h₁, toks := tk₁ } .next s₃ := by
      rintro ⟨h', tk, m', news', e, F', N', ho, r⟩
      refine ⟨rfl, h', tk, m', [], e, F', fun p hp => ?_, fun p hp => (by cases hp), rfl, r⟩
      rw [List.append_nil] at hp
      have h2 : h₁.get? p.1 = some p.2 := hget p hp
      rcases List.mem_cons.mp (hown p hp) with h1 | h1
      · have h3 : p = (I, it) := by
          rw [h1, hit] at h2
          exact Prod.ext h1 (Option.some.inj h2).symm
        rw [h3]; exact N' _ (.head _)
      · have h3 := (N₁ p (List.mem_append_left _ hp)).2.2
        rw [List.mem_singleton.mp h1, hlo] at h3
        cases h3
    cases f with
    | ret v => exact .ret p
    | brk => exact .brk p
    | next => exact .next (fin p)
    | cont => exact .cont (fin p)
  · rintro h' tk m' _ F' _ _ ⟨rfl, hJ⟩
    have z : vs.drop (k + (vs.length - k)) = [] := List.drop_eq_nil_of_le (by omega)
    rw [z] at hJ
    exact hend m' h' tk hJ F'
end
theorem fnat_fr {q : Addr} {h₀ h : Heap} {L : Addr} {m : Str → Option Value} (X : PySem.W.FnAt q h₀) (F : Fr h₀ L h m) : PySem.W.FnAt q h := by
  obtain ⟨oc, od, fd, sl, e⟩ := X
  exact ⟨oc, od, fd, sl, F.keep _ _ e⟩
section
local macro_rules | `(tactic| walk_at "callWith ref") => `(tactic| (k_here; k_dflt (refine' PySem.W.callWith_F ?k1 ?_; (case k1 => exact fnat_fr (by assumption) (by k_asm)); k_whole)))
local macro_rules | `(tactic| walk_at "FnAt") => `(tactic| (exact fnat_fr (by assumption) (by k_asm)))
local macro_rules | `(tactic| walk_at "call builtin:iter") => `(tactic| (with_reducible refine Stop.mk ?_))
local macro_rules | `(tactic| walk_at "call builtin:next") => `(tactic| (with_reducible refine Stop.mk ?_))
local macro_rules | `(tactic| walk_at "exec For Name Name cons nil") => `(tactic| (k_here; (rename Fr _ _ _ _ => lF'); (with_unfolding_all refine' For_turns lF' ?_; k_whole)))
local macro_rules | `(tactic| walk_at "pyIter ref") => `(tactic| (with_reducible refine Stop.mk ?_))
local macro_rules | `(tactic| walk_at "call ref") => `(tactic| ((with_reducible show wpAny _ _ (call (Value.ref _) [Value.str _ _, Value.str _ _] []) _ _ _); (with_reducible refine Stop.mk ?_)))
theorem c_reduce : ∀ {w : World} {p : Program} {loose : List Str} {mean : ExcName → Option Value} {mg mb : Str → Option Value} {A : Around} {s : Shared} {R : Result → Shared → Prop} {f l : Addr} {a b c : Str} {ta tb tc : Tok} {g : Str → Str → Str} {ok : Str → Str → Prop}
    (_ : (Mine.hd.heap_39 w.params).In s.heap) (_ : Top p loose mean mg mb s.heap) (_ : A.depth + 19 < recursionLimit) (_ : A.units + 59 < cLine) (_ : A.handled = none)
    (_ : PySem.W.FnAt f s.heap) (_ : LamOk w f g ok s.heap) (_ : ok a b) (_ : ok (g a b) c) (_ : s.heap.IsList l #[.str a ta, .str b tb, .str c tc])
    (_ : ∀ t h' tk, Keep s.heap h' → R (.ok (.ret (.str (g (g a b) c) t))) { s with heap := h', toks := tk }),
    codeAny (model PySem.Challenge.rw_in0137_01.row.prog w) A (.call (.ref 129) ⟨[.ref f, .ref l], []⟩) R s := by
  k_fill
  intro w p loose mean mg mb A s R f l a b c ta tb tc g ok X T hd hu hh hfn hf ho1 ho2 hl ret
  refine' enter_plain (binds := [("function", .ref f), ("sequence", .ref l), ("initial", .ref 121)]) X T.nolimit ?ho ?hcd ?hroom ?hbind ?hloc ?h ?hco ?hgen ?hk ?hcell
  case ho => k_is
  case hcd => k_is
  case hroom => omega
  case hbind => exact BindsTo.of_defaults rfl (X _ _ (by k_is)) rfl rfl rfl
  case hloc => exact locs rfl
  case hco => rfl
  case hgen => rfl
  case hk => rfl
  case hcell => decide
  intro L' h₁ F' N'
  (try dsimp only)
  k_steps
  obtain ⟨ol, hol, hcl, nl, hdl⟩ := id hl
  refine Stop.out (iter_K F' N' (l := l) (its := #[.str a ta, .str b tb, .str c tc]) ⟨ol, F'.keep _ _ hol, hcl, nl, hdl⟩ fun I h2 oI F2 N2 hc2 hd2 => ?_)
  clear F' N'
  k_steps
  rename Fr _ _ _ _ => F3
  rename News _ _ _ _ => N3
  have hl3 : ∀ {h : Heap} {L : Addr} {m : Str → Option Value}, Fr s.heap L h m → h.IsList l #[.str a ta, .str b tb, .str c tc] := fun F => ⟨ol, F.keep _ _ hol, hcl, nl, hdl⟩
  refine Stop.out (next_K (i := 0) F3 N3 hc2 hd2 (hl3 F3) rfl fun h4 o4 F4 N4 hc4 hd4 => ?_)
  clear F3 N3 hc2 hd2
  k_steps
  rename Fr _ _ _ _ => F3
  rename News _ _ _ _ => N3
  refine Stop.out (iter_on (vs := [.str a ta, .str b tb, .str c tc]) (k := 1) (fun rem m => m (PySem.Str.ofString "function") = some (.ref f) ∧ ((rem = [.str b tb, .str c tc] ∧ ∃ t, m (PySem.Str.ofString "value") = some (.str a t)) ∨ (rem = [.str c tc] ∧ ∃ t, m (PySem.Str.ofString "value") = some (.str (g a b) t)) ∨ (rem = [] ∧ ∃ t, m (PySem.Str.ofString "value") = some (.str (g (g a b) c) t)))) (by exact hh) (by exact F3) (by exact N3) hc4 hd4 hl (by simp) ⟨rfl, Or.inl ⟨rfl, _, rfl⟩⟩ ?_ ?_)
  · clear F3 N3
    rintro m h tk ⟨m1, ⟨e, _⟩ | ⟨e, _⟩ | ⟨_, t, m2⟩⟩ F
    · cases e
    · cases e
    replace F := fr_name F m2
    have N : News s.heap L' h [] := News.nil
    k_steps
    exact ret _ _ _ (Fr.keep (by assumption))
  · clear F3 N3
    rintro v r m h tk oi ⟨m1, ⟨e, t, m2⟩ | ⟨e, t, m2⟩ | ⟨e, _⟩⟩ F N
    · cases e
      replace F := fr_name2 F m1 m2
      k_steps
      refine Stop.out (wpAny_call (hf (Fr.keep (by assumption)) (by simp only [depth_deeper]; omega) (by simp only [Around.deeper_units]; omega) (by exact hh) (by assumption) fun t5 h5 tk5 k5 => ?_))
      rename Fr _ _ _ _ => F5
      rename News _ _ _ _ => N5
      have F6 := k5.fr F5
      have N6 := k5.news N5
      clear F5 N5 F N
      k_steps
      exact unr_end1 (by assumption) (news' := []) (by assumption) (fun p hp => nomatch hp) ⟨rfl, Or.inr (Or.inl ⟨trivial, _, rfl⟩)⟩
    · cases e
      replace F := fr_name2 F m1 m2
      k_steps
      refine Stop.out (wpAny_call (hf (Fr.keep (by assumption)) (by simp only [depth_deeper]; omega) (by simp only [Around.deeper_units]; omega) (by exact hh) (by assumption) fun t5 h5 tk5 k5 => ?_))
      rename Fr _ _ _ _ => F5
      rename News _ _ _ _ => N5
      have F6 := k5.fr F5
      have N6 := k5.news N5
      clear F5 N5 F N
      k_steps
      exact unr_end1 (by assumption) (news' := []) (by assumption) (fun p hp => nomatch hp) ⟨rfl, Or.inr (Or.inr ⟨trivial, _, rfl⟩)⟩
    · cases e
end

theorem off_R3 : True := by
  w_top off
  exact True.intro
section
open PySem.W
theorem codeRec_keep {h h' : Heap} {v : Value} {q : Str} (k : Keep h h') (x : h.CodeRec v q) : h'.CodeRec v q := by
  obtain ⟨c, oc, vs, t, e, ho, hd, hv⟩ := x
  exact ⟨c, oc, vs, t, e, k _ _ ho, hd, hv⟩
def lamP1 : PySem.Arguments := (({ posonlyargs := [], args := [{ arg := "one", annotation := none, pos := ⟨213, 21, 213, 24⟩ : PySem.Arg }, { arg := "other", annotation := none, pos := ⟨213, 26, 213, 31⟩ : PySem.Arg }], vararg := none, kwonlyargs := [], kw_defaults := [], kwarg := none, defaults := [] }) : PySem.Arguments)
def lamB1 : PySem.Expr := (PySem.Expr.Call (PySem.Expr.Name "commonpath" ⟨213, 33, 213, 43⟩) [PySem.Expr.List [PySem.Expr.Name "one" ⟨213, 45, 213, 48⟩, PySem.Expr.Name "other" ⟨213, 50, 213, 55⟩] ⟨213, 44, 213, 56⟩] [] ⟨213, 33, 213, 57⟩)
theorem lam1_ok {w : World} {p : Program} {loose : List Str} {mean : ExcName → Option Value} {mg mb : Str → Option Value} {h : Heap} {f c' : Addr} {qual : Str} {pm ctv : Value} (X : (Mine.hd.heap_39 w.params).In h) (T : Top p loose mean mg mb h)
    (ho : h.get? f = some (kla_obj "<lambda>" qual (({ posonlyargs := [], args := [{ arg := "one", annotation := none, pos := ⟨213, 21, 213, 24⟩ : PySem.Arg }, { arg := "other", annotation := none, pos := ⟨213, 26, 213, 31⟩ : PySem.Arg }], vararg := none, kwonlyargs := [], kw_defaults := [], kwarg := none, defaults := [] }) : PySem.Arguments) (PySem.Expr.Call (PySem.Expr.Name "commonpath" ⟨213, 33, 213, 43⟩) [PySem.Expr.List [PySem.Expr.Name "one" ⟨213, 45, 213, 48⟩, PySem.Expr.Name "other" ⟨213, 50, 213, 55⟩] ⟨213, 44, 213, 56⟩] [] ⟨213, 33, 213, 57⟩) (({ kind := PySem.ScopeKind.function, names := [(PySem.Str.ofString "one", PySem.NameKind.local), (PySem.Str.ofString "other", PySem.NameKind.local), (PySem.Str.ofString "commonpath", PySem.NameKind.globalImplicit)], isGenerator := false, isCoroutine := false, more := [] }) : PySem.Scope) [] pm c' ctv)) (hcd : h.CodeRec (.ref c') qual) : LamOk w f (fun x y => comF [x, y]) (fun x y => okC [x, y]) h := by
  intro A s R x y t u k hd hu hh hok ret
  exact c_lam1 (X.keeps k) (T.keeps k) hd hu hh (k _ _ ho) (codeRec_keep k hcd) hok ret
theorem s_reduce1 {w : World} {p : Program} {loose : List Str} {mean : ExcName → Option Value} {mg mb : Str → Option Value} {A : Around} {E : Value → Shared → Prop} {s : Shared} {h₀ : Heap} {L : Addr} {m : Str → Option Value} {news : List (Addr × Obj)} {Q : Value → Shared → Prop} {f c' l : Addr} {oc o : Obj} {cvs : Array Value} {vs : List Value} {n : Nat} {qual : Str} {qt : Tok} {pm ctv : Value} {a b c : Str}
    (F : Fr h₀ L s.heap m) (N : News h₀ L s.heap news) (X : (Mine.hd.heap_39 w.params).In h₀) (T : Top p loose mean mg mb h₀) (hd : A.depth + 19 < recursionLimit) (hu : A.units + 59 < cLine) (hh : A.handled = none)
    (hf : (f, kla_obj "<lambda>" qual (({ posonlyargs := [], args := [{ arg := "one", annotation := none, pos := ⟨213, 21, 213, 24⟩ : PySem.Arg }, { arg := "other", annotation := none, pos := ⟨213, 26, 213, 31⟩ : PySem.Arg }], vararg := none, kwonlyargs := [], kw_defaults := [], kwarg := none, defaults := [] }) : PySem.Arguments) (PySem.Expr.Call (PySem.Expr.Name "commonpath" ⟨213, 33, 213, 43⟩) [PySem.Expr.List [PySem.Expr.Name "one" ⟨213, 45, 213, 48⟩, PySem.Expr.Name "other" ⟨213, 50, 213, 55⟩] ⟨213, 44, 213, 56⟩] [] ⟨213, 33, 213, 57⟩) (({ kind := PySem.ScopeKind.function, names := [(PySem.Str.ofString "one", PySem.NameKind.local), (PySem.Str.ofString "other", PySem.NameKind.local), (PySem.Str.ofString "commonpath", PySem.NameKind.globalImplicit)], isGenerator := false, isCoroutine := false, more := [] }) : PySem.Scope) [] pm c' ctv) ∈ news) (hc : (c', oc) ∈ news) (hcd : oc.data = .fields cvs) (hcv : cvs[1]? = some (.str qual qt))
    (hl : (l, o) ∈ news) (hlc : o.cls = .type "list") (hld : o.data = .seq (List.toArray vs) n) (hv : StrsAre vs [a, b, c]) (h1 : okC [a, b]) (h2 : okC [comF [a, b], c])
    (h : ∀ t h' tk, Fr h₀ L h' m → News h₀ L h' news → Q (.str (comF [comF [a, b], c]) t) { s with heap := h', toks := tk }) :
    wpAny (model PySem.Challenge.rw_in0137_01.row.prog w) A (call (.ref 129) [.ref f, .ref l] []) Q E s := by
  obtain _ | ⟨_, ta, hv⟩ := hv
  obtain _ | ⟨_, tb, hv⟩ := hv
  obtain _ | ⟨_, tc, hv⟩ := hv
  cases hv
  exact wpAny_call (c_reduce (X.keeps F.keep) (T.keeps F.keep) hd hu hh (FnAt.of N hf) (lam1_ok (X.keeps F.keep) (T.keeps F.keep) (N _ hf).1 (codeRec_news N hc hcd hcv)) h1 h2 ⟨o, News.get N hl, hlc, n, hld⟩ fun t h' tk k => h t h' tk (k.fr F) (k.news N))
def lamP2 : PySem.Arguments := (({ posonlyargs := [], args := [{ arg := "one", annotation := none, pos := ⟨215, 21, 215, 24⟩ : PySem.Arg }, { arg := "other", annotation := none, pos := ⟨215, 26, 215, 31⟩ : PySem.Arg }], vararg := none, kwonlyargs := [], kw_defaults := [], kwarg := none, defaults := [] }) : PySem.Arguments)
def lamB2 : PySem.Expr := (PySem.Expr.Call (PySem.Expr.Name "commonpath" ⟨215, 33, 215, 43⟩) [PySem.Expr.List [PySem.Expr.Name "other" ⟨215, 45, 215, 50⟩, PySem.Expr.Name "one" ⟨215, 52, 215, 55⟩] ⟨215, 44, 215, 56⟩] [] ⟨215, 33, 215, 57⟩)
theorem lam2_ok {w : World} {p : Program} {loose : List Str} {mean : ExcName → Option Value} {mg mb : Str → Option Value} {h : Heap} {f c' : Addr} {qual : Str} {pm ctv : Value} (X : (Mine.hd.heap_39 w.params).In h) (T : Top p loose mean mg mb h)
    (ho : h.get? f = some (kla_obj "<lambda>" qual (({ posonlyargs := [], args := [{ arg := "one", annotation := none, pos := ⟨215, 21, 215, 24⟩ : PySem.Arg }, { arg := "other", annotation := none, pos := ⟨215, 26, 215, 31⟩ : PySem.Arg }], vararg := none, kwonlyargs := [], kw_defaults := [], kwarg := none, defaults := [] }) : PySem.Arguments) (PySem.Expr.Call (PySem.Expr.Name "commonpath" ⟨215, 33, 215, 43⟩) [PySem.Expr.List [PySem.Expr.Name "other" ⟨215, 45, 215, 50⟩, PySem.Expr.Name "one" ⟨215, 52, 215, 55⟩] ⟨215, 44, 215, 56⟩] [] ⟨215, 33, 215, 57⟩) (({ kind := PySem.ScopeKind.function, names := [(PySem.Str.ofString "one", PySem.NameKind.local), (PySem.Str.ofString "other", PySem.NameKind.local), (PySem.Str.ofString "commonpath", PySem.NameKind.globalImplicit)], isGenerator := false, isCoroutine := false, more := [] }) : PySem.Scope) [] pm c' ctv)) (hcd : h.CodeRec (.ref c') qual) : LamOk w f (fun x y => comF [y, x]) (fun x y => okC [y, x]) h := by
  intro A s R x y t u k hd hu hh hok ret
  exact c_lam2 (X.keeps k) (T.keeps k) hd hu hh (k _ _ ho) (codeRec_keep k hcd) hok ret
theorem s_reduce2 {w : World} {p : Program} {loose : List Str} {mean : ExcName → Option Value} {mg mb : Str → Option Value} {A : Around} {E : Value → Shared → Prop} {s : Shared} {h₀ : Heap} {L : Addr} {m : Str → Option Value} {news : List (Addr × Obj)} {Q : Value → Shared → Prop} {f c' l : Addr} {oc o : Obj} {cvs : Array Value} {vs : List Value} {n : Nat} {qual : Str} {qt : Tok} {pm ctv : Value} {a b c : Str}
    (F : Fr h₀ L s.heap m) (N : News h₀ L s.heap news) (X : (Mine.hd.heap_39 w.params).In h₀) (T : Top p loose mean mg mb h₀) (hd : A.depth + 19 < recursionLimit) (hu : A.units + 59 < cLine) (hh : A.handled = none)
    (hf : (f, kla_obj "<lambda>" qual (({ posonlyargs := [], args := [{ arg := "one", annotation := none, pos := ⟨215, 21, 215, 24⟩ : PySem.Arg }, { arg := "other", annotation := none, pos := ⟨215, 26, 215, 31⟩ : PySem.Arg }], vararg := none, kwonlyargs := [], kw_defaults := [], kwarg := none, defaults := [] }) : PySem.Arguments) (PySem.Expr.Call (PySem.Expr.Name "commonpath" ⟨215, 33, 215, 43⟩) [PySem.Expr.List [PySem.Expr.Name "other" ⟨215, 45, 215, 50⟩, PySem.Expr.Name "one" ⟨215, 52, 215, 55⟩] ⟨215, 44, 215, 56⟩] [] ⟨215, 33, 215, 57⟩) (({ kind := PySem.ScopeKind.function, names := [(PySem.Str.ofString "one", PySem.NameKind.local), (PySem.Str.ofString "other", PySem.NameKind.local), (PySem.Str.ofString "commonpath", PySem.NameKind.globalImplicit)], isGenerator := false, isCoroutine := false, more := [] }) : PySem.Scope) [] pm c' ctv) ∈ news) (hc : (c', oc) ∈ news) (hcd : oc.data = .fields cvs) (hcv : cvs[1]? = some (.str qual qt))
    (hl : (l, o) ∈ news) (hlc : o.cls = .type "list") (hld : o.data = .seq (List.toArray vs) n) (hv : StrsAre vs [a, b, c]) (h1 : okC [b, a]) (h2 : okC [c, comF [b, a]])
    (h : ∀ t h' tk, Fr h₀ L h' m → News h₀ L h' news → Q (.str (comF [c, comF [b, a]]) t) { s with heap := h', toks := tk }) :
    wpAny (model PySem.Challenge.rw_in0137_01.row.prog w) A (call (.ref 129) [.ref f, .ref l] []) Q E s := by
  obtain _ | ⟨_, ta, hv⟩ := hv
  obtain _ | ⟨_, tb, hv⟩ := hv
  obtain _ | ⟨_, tc, hv⟩ := hv
  cases hv
  exact wpAny_call (c_reduce (X.keeps F.keep) (T.keeps F.keep) hd hu hh (FnAt.of N hf) (lam2_ok (X.keeps F.keep) (T.keeps F.keep) (N _ hf).1 (codeRec_news N hc hcd hcv)) h1 h2 ⟨o, News.get N hl, hlc, n, hld⟩ fun t h' tk k => h t h' tk (k.fr F) (k.news N))
end

theorem off_H6 : True := by
  w_top off
  exact True.intro
section
open PySem.W
theorem ne_tab {h₀ h : Heap} {L P : Addr} {news : List (Addr × Obj)} {o : Obj} {p : Addr × Obj} (N : News h₀ L h news) (hP : (P, o) ∈ news) (hp : p ∈ news) (hne : p.2 ≠ o) : p.1 ≠ P := fun e => by
  have a := (N p hp).1
  rw [e, (N _ hP).1] at a
  exact hne (Option.some.inj a).symm
theorem lsts_cls {ls : List (Addr × Obj)} {vs : List Value} {xss : List (List Str)} (h : LstsAre ls vs xss) : ∀ p ∈ ls, p.2.cls = .type "list" := by
  induction h with
  | nil => intro p hp; cases hp
  | cons h1 h2 h3 _ ih =>
    intro p hp
    rcases List.mem_cons.mp hp with rfl | hp
    · exact h1
    · exact ih p hp
theorem data_ne {a b : Obj} (h : a.data ≠ b.data) : a ≠ b := fun e => h (congrArg _ e)
theorem cls_ne {a b : Obj} {t : Value} (h : a.cls = t) (h2 : b.cls ≠ t) : a ≠ b := fun e => h2 (e ▸ h)
end
theorem fr_name5 {h₀ h : Heap} {L : Addr} {m : Str → Option Value} {x y z q u : Str} {v u' w r s : Value} (F : Fr h₀ L h m) (e : m x = some v) (e2 : m y = some u') (e3 : m z = some w) (e4 : m q = some r) (e5 : m u = some s) (h1 : y ≠ x := by decide) (h2 : z ≠ y := by decide) (h3 : z ≠ x := by decide) (h4 : q ≠ x := by decide) (h5 : q ≠ y := by decide) (h6 : q ≠ z := by decide) (h7 : u ≠ x := by decide) (h8 : u ≠ y := by decide) (h9 : u ≠ z := by decide) (h10 : u ≠ q := by decide) :
    Fr h₀ L h (fun k => if k = u then some s else if k = q then some r else if k = z then some w else if k = y then some u' else if k = x then some v else m k) := fr_name (fr_name4 F e e2 e3 e4 h1 h2 h3 h4 h5 h6) (by rw [if_neg h10, if_neg h9, if_neg h8, if_neg h7]; exact e5)

theorem off_Q1 : True := by
  w_top off
  exact True.intro
section
open PySem
/-- the plain law: lists of a and b -/
def em (b : Bool) : Str := if b then PySem.Str.ofString "b" else PySem.Str.ofString "a"
def ab (l : List Bool) : List Str := l.map em
def st (l : List Bool) : Str := PySem.Str.ofString "/" ++ Txt.join (PySem.Str.ofString "/") (ab l)
def cp : List Bool → List Bool → List Bool
  | x :: xs, y :: ys => if x = y then x :: cp xs ys else []
  | _, _ => []
def leB : List Bool → List Bool → Bool
  | [], _ => true
  | _ :: _, [] => false
  | x :: xs, y :: ys => if x = y then leB xs ys else y
theorem em_inj {a b : Bool} (h : em a = em b) : a = b := by
  cases a <;> cases b
  · rfl
  · exact absurd h (by decide)
  · exact absurd h (by decide)
  · rfl
theorem em_iff {a b : Bool} : em a = em b ↔ a = b := ⟨em_inj, fun h => h ▸ rfl⟩
theorem ab_inj : ∀ {l m : List Bool}, ab l = ab m → l = m
  | [], [], _ => rfl
  | [], _ :: _, h => by cases h
  | _ :: _, [], h => by cases h
  | x :: xs, y :: ys, h => by
    have h' := List.cons.inj (show em x :: ab xs = em y :: ab ys from h)
    rw [em_inj h'.1, ab_inj h'.2]
theorem ab_len (l : List Bool) : (ab l).length = l.length := List.length_map ..
theorem cp_ab : ∀ (l m : List Bool), cpF (ab l) (ab m) = ab (cp l m)
  | [], [] => rfl
  | [], _ :: _ => rfl
  | _ :: _, [] => rfl
  | x :: xs, y :: ys => by
    show (if em x = em y then em x :: cpF (ab xs) (ab ys) else []) = ab (if x = y then x :: cp xs ys else [])
    by_cases h : x = y
    · rw [if_pos h, if_pos (by rw [h]), cp_ab xs ys]; rfl
    · rw [if_neg h, if_neg (fun e => h (em_inj e))]; rfl
theorem em_lt : ∀ x y : Bool, x ≠ y → decide ((em x).cps.toList < (em y).cps.toList) = !x := by decide
theorem em_gt : ∀ x y : Bool, x ≠ y → decide ((em y).cps.toList < (em x).cps.toList) = x := by decide
theorem ne_not : ∀ {x y : Bool}, x ≠ y → (!x) = y := by decide
theorem lt_ab : ∀ (l m : List Bool), ltL (ab l) (ab m) = !leB m l
  | [], [] => rfl
  | [], y :: ys => by show decide (0 < (ab (y :: ys)).length) = true; rw [ab_len]; rfl
  | x :: xs, [] => by show decide ((ab (x :: xs)).length < 0) = false; rw [ab_len]; rfl
  | x :: xs, y :: ys => by
    show (if em x = em y then ltL (ab xs) (ab ys) else decide ((em x).cps.toList < (em y).cps.toList)) = !(if y = x then leB ys xs else x)
    by_cases h : x = y
    · rw [if_pos (by rw [h]), if_pos h.symm, lt_ab xs ys]
    · rw [if_neg (fun e => h (em_inj e)), if_neg (fun e => h e.symm), em_lt x y h]
theorem gt_ab : ∀ (l m : List Bool), gtL (ab l) (ab m) = !leB l m
  | [], [] => rfl
  | [], y :: ys => by show decide (0 > (ab (y :: ys)).length) = false; rw [ab_len]; rfl
  | x :: xs, [] => by show decide ((ab (x :: xs)).length > 0) = true; rw [ab_len]; rfl
  | x :: xs, y :: ys => by
    show (if em x = em y then gtL (ab xs) (ab ys) else decide ((em y).cps.toList < (em x).cps.toList)) = !(if x = y then leB xs ys else y)
    by_cases h : x = y
    · rw [if_pos (by rw [h]), if_pos h, gt_ab xs ys]
    · rw [if_neg (fun e => h (em_inj e)), if_neg h, em_gt x y h, ← ne_not h, Bool.not_not]
theorem le_refl' : ∀ l : List Bool, leB l l = true
  | [] => rfl
  | x :: xs => by rw [leB, if_pos rfl]; exact le_refl' xs
theorem le_total' : ∀ {l m : List Bool}, leB l m = false → leB m l = true
  | [], _, h => by cases h
  | _ :: _, [], _ => rfl
  | x :: xs, y :: ys, h => by
    rw [leB] at h ⊢
    by_cases e : x = y
    · rw [if_pos e] at h; rw [if_pos e.symm]; exact le_total' h
    · rw [if_neg e] at h; rw [if_neg (Ne.symm e), ← Bool.not_not x, ne_not e, h]; rfl
theorem le_trans' : ∀ {l m n : List Bool}, leB l m = true → leB m n = true → leB l n = true
  | [], _, _, _, _ => rfl
  | _ :: _, [], _, h, _ => by cases h
  | _ :: _, _ :: _, [], _, h => by cases h
  | x :: xs, y :: ys, z :: zs, h1, h2 => by
    rw [leB] at h1 h2 ⊢
    by_cases e : x = y
    · subst e
      rw [if_pos rfl] at h1
      by_cases e2 : x = z
      · subst e2
        rw [if_pos rfl] at h2 ⊢
        exact le_trans' h1 h2
      · rw [if_neg e2] at h2 ⊢; exact h2
    · rw [if_neg e] at h1
      by_cases e2 : y = z
      · subst e2
        rw [if_neg e]; exact h1
      · rw [if_neg e2] at h2
        exact absurd (h1.trans h2.symm) e2
theorem cp_left : ∀ l m : List Bool, cp l m <+: l
  | [], [] => List.prefix_rfl
  | [], _ :: _ => List.prefix_rfl
  | _ :: _, [] => List.nil_prefix
  | x :: xs, y :: ys => by
    rw [cp]
    split
    · exact List.cons_prefix_cons.mpr ⟨rfl, cp_left xs ys⟩
    · exact List.nil_prefix
theorem cp_right : ∀ l m : List Bool, cp l m <+: m
  | [], _ => List.nil_prefix
  | _ :: _, [] => List.prefix_rfl
  | x :: xs, y :: ys => by
    rw [cp]
    split
    · next e => exact List.cons_prefix_cons.mpr ⟨e, cp_right xs ys⟩
    · exact List.nil_prefix
theorem cp_great : ∀ {p l m : List Bool}, p <+: l → p <+: m → p <+: cp l m
  | [], _, _, _, _ => List.nil_prefix
  | a :: p, [], _, h, _ => by cases List.prefix_nil.mp h
  | a :: p, _ :: _, [], _, h => by cases List.prefix_nil.mp h
  | a :: p, x :: xs, y :: ys, h1, h2 => by
    obtain ⟨e1, h3⟩ := List.cons_prefix_cons.mp h1
    obtain ⟨e2, h4⟩ := List.cons_prefix_cons.mp h2
    rw [cp, if_pos (e1.symm.trans e2)]
    exact List.cons_prefix_cons.mpr ⟨e1, cp_great h3 h4⟩
theorem cp_mid : ∀ {l m h : List Bool}, leB l m = true → leB m h = true → cp l h <+: m
  | [], _, [], _, _ => List.nil_prefix
  | [], _, _ :: _, _, _ => List.nil_prefix
  | _ :: _, [], _, h1, _ => by cases h1
  | _ :: _, _ :: _, [], _, h2 => by cases h2
  | x :: xs, y :: ys, z :: zs, h1, h2 => by
    rw [cp]
    by_cases e : x = z
    · rw [if_pos e]
      by_cases e2 : x = y
      · rw [leB, if_pos e2] at h1
        rw [leB, if_pos (e2 ▸ e)] at h2
        exact List.cons_prefix_cons.mpr ⟨e2, cp_mid h1 h2⟩
      · rw [leB, if_neg e2] at h1
        rw [leB, if_neg (fun e3 => e2 (e.trans e3.symm))] at h2
        exact absurd (e.trans (h2.trans h1.symm)) e2
    · rw [if_neg e]; exact List.nil_prefix
theorem lexOK_ab : ∀ {l m : List Bool}, leB l m = true → lexOK (ab l) (ab m) = true
  | [], m, _ => by show lexOK [] (ab m) = true; cases ab m <;> rfl
  | _ :: _, [], h => by cases h
  | x :: xs, y :: ys, h => by
    show (if em x = em y then lexOK (ab xs) (ab ys) else true) = true
    by_cases e : x = y
    · rw [if_pos (by rw [e])]
      rw [leB, if_pos e] at h
      exact lexOK_ab h
    · rw [if_neg (fun e' => e (em_inj e'))]
theorem lo_is : ∀ (r : List (List Bool)) (a : List Bool), ∃ c, bestL ltL (ab a) (r.map ab) = ab c ∧ c ∈ a :: r ∧ ∀ x ∈ a :: r, leB c x = true := by
  intro r
  induction r with
  | nil => exact fun a => ⟨a, rfl, .head _, fun x hx => by rw [List.mem_singleton.mp hx]; exact le_refl' a⟩
  | cons y r ih =>
    intro a
    rw [List.map_cons, bestL_cons, lt_ab]
    cases h : leB a y with
    | true =>
      obtain ⟨c, h1, h2, h3⟩ := ih a
      refine ⟨c, h1, ?_, fun x hx => ?_⟩
      · rcases List.mem_cons.mp h2 with rfl | h2
        · exact .head _
        · exact .tail _ (.tail _ h2)
      · rcases List.mem_cons.mp hx with rfl | hx
        · exact h3 _ (.head _)
        rcases List.mem_cons.mp hx with rfl | hx
        · exact le_trans' (h3 _ (.head _)) h
        · exact h3 _ (.tail _ hx)
    | false =>
      obtain ⟨c, h1, h2, h3⟩ := ih y
      refine ⟨c, h1, .tail _ h2, fun x hx => ?_⟩
      rcases List.mem_cons.mp hx with rfl | hx
      · exact le_trans' (h3 _ (.head _)) (le_total' h)
      · exact h3 _ hx
theorem hi_is : ∀ (r : List (List Bool)) (a : List Bool), ∃ c, bestL gtL (ab a) (r.map ab) = ab c ∧ c ∈ a :: r ∧ ∀ x ∈ a :: r, leB x c = true := by
  intro r
  induction r with
  | nil => exact fun a => ⟨a, rfl, .head _, fun x hx => by rw [List.mem_singleton.mp hx]; exact le_refl' a⟩
  | cons y r ih =>
    intro a
    rw [List.map_cons, bestL_cons, gt_ab]
    cases h : leB y a with
    | true =>
      obtain ⟨c, h1, h2, h3⟩ := ih a
      refine ⟨c, h1, ?_, fun x hx => ?_⟩
      · rcases List.mem_cons.mp h2 with rfl | h2
        · exact .head _
        · exact .tail _ (.tail _ h2)
      · rcases List.mem_cons.mp hx with rfl | hx
        · exact h3 _ (.head _)
        rcases List.mem_cons.mp hx with rfl | hx
        · exact le_trans' h (h3 _ (.head _))
        · exact h3 _ (.tail _ hx)
    | false =>
      obtain ⟨c, h1, h2, h3⟩ := ih y
      refine ⟨c, h1, .tail _ h2, fun x hx => ?_⟩
      rcases List.mem_cons.mp hx with rfl | hx
      · exact le_trans' (le_total' h) (h3 _ (.head _))
      · exact h3 _ hx
/-- the greatest common prefix -/
def Gcp (ls : List (List Bool)) (c : List Bool) : Prop := (∀ x ∈ ls, c <+: x) ∧ ∀ p, (∀ x ∈ ls, p <+: x) → p <+: c
theorem pre_antisymm {a b : List Bool} (h : a <+: b) (h2 : b <+: a) : a = b := h.eq_of_length (Nat.le_antisymm h.length_le h2.length_le)
theorem gcp_uniq {ls ms : List (List Bool)} {c d : List Bool} (h : Gcp ls c) (h2 : Gcp ms d) (e : ∀ p, (∀ x ∈ ls, p <+: x) ↔ (∀ x ∈ ms, p <+: x)) : c = d :=
  pre_antisymm (h2.2 c ((e c).mp h.1)) (h.2 d ((e d).mpr h2.1))
theorem com_gcp {ss : List Str} {ls : List (List Bool)} (h : cmpF ss = ls.map ab) (hne : ls ≠ []) : ∃ c, comF ss = st c ∧ Gcp ls c ∧ lexOK (loF (cmpF ss)) (hiF (cmpF ss)) = true ∧ ∃ a ∈ ls, ∃ b ∈ ls, loF (cmpF ss) = ab a ∧ hiF (cmpF ss) = ab b := by
  cases ls with
  | nil => exact absurd rfl hne
  | cons a r =>
    obtain ⟨lo, l1, l2, l3⟩ := lo_is r a
    obtain ⟨hi, h1, h2, h3⟩ := hi_is r a
    have el : loF (cmpF ss) = ab lo := by rw [h]; exact l1
    have eh : hiF (cmpF ss) = ab hi := by rw [h]; exact h1
    refine ⟨cp lo hi, by rw [comF, el, eh, cp_ab]; rfl, ⟨fun x hx => cp_mid (l3 x hx) (h3 x hx), fun p hp => cp_great (hp _ l2) (hp _ h2)⟩, by rw [el, eh]; exact lexOK_ab (l3 _ h2), lo, l2, hi, h2, el, eh⟩
theorem wt_ab : ∀ l : List Bool, wtF (ab l) = 2 * l.length
  | [] => rfl
  | x :: xs => by
    have h : (em x).length = 1 := by cases x <;> decide
    show wtF (em x :: ab xs) = 2 * (xs.length + 1)
    rw [wtF_cons, wt_ab xs, h]; omega
def Tells (s : Str) (l : List Bool) : Prop := (Txt.split s (PySem.Str.ofString "/")).filter keepF = ab l ∧ s.length ≤ 1000 ∧ Txt.startswith s (PySem.Str.ofString "/") = true ∧ l.length ≤ 4
theorem ok_of {ss : List Str} {ls : List (List Bool)} (h : cmpF ss = ls.map ab) (hne : ss ≠ []) (hlen : ss.length ≤ 1000) (h1 : ∀ x ∈ ss, x.length ≤ 1000 ∧ Txt.startswith x (PySem.Str.ofString "/") = true) (h4 : ∀ l ∈ ls, l.length ≤ 4) : okC ss := by
  have hln : ls ≠ [] := by
    rintro rfl
    cases ss with
    | nil => exact hne rfl
    | cons x r => cases h
  obtain ⟨c, _, _, h3, a, ha, b, hb, ea, eb⟩ := com_gcp h hln
  refine ⟨hne, hlen, fun x hx => (h1 x hx).1, fun x hx => (h1 x hx).2, h3, ?_, ?_⟩
  · rw [ea, wt_ab]; have := h4 a ha; omega
  · rw [eb, ab_len]; have := h4 b hb; omega
theorem gcp_len {ls : List (List Bool)} {c l : List Bool} (h : Gcp ls c) (hl : l ∈ ls) (h4 : l.length ≤ 4) : c.length ≤ 4 := Nat.le_trans (h.1 l hl).length_le h4
theorem tells2 {x y : Str} {l m : List Bool} (hx : Tells x l) (hy : Tells y m) : okC [x, y] ∧ ∃ c, comF [x, y] = st c ∧ Gcp [l, m] c ∧ c.length ≤ 4 := by
  have h : cmpF [x, y] = [l, m].map ab := by
    show [(Txt.split x (PySem.Str.ofString "/")).filter keepF, (Txt.split y (PySem.Str.ofString "/")).filter keepF] = [_, _]
    rw [hx.1, hy.1]
  refine ⟨ok_of h (by simp) (by simp) (fun z hz => ?_) (fun z hz => ?_), ?_⟩
  · simp only [List.mem_cons, List.not_mem_nil, or_false] at hz
    rcases hz with rfl | rfl
    · exact ⟨hx.2.1, hx.2.2.1⟩
    · exact ⟨hy.2.1, hy.2.2.1⟩
  · simp only [List.mem_cons, List.not_mem_nil, or_false] at hz
    rcases hz with rfl | rfl
    · exact hx.2.2.2
    · exact hy.2.2.2
  · obtain ⟨c, h1, h2, _⟩ := com_gcp h (by simp)
    exact ⟨c, h1, h2, gcp_len h2 (.head _) hx.2.2.2⟩
theorem tells3 {x y z : Str} {l m n : List Bool} (hx : Tells x l) (hy : Tells y m) (hz : Tells z n) : okC [x, y, z] ∧ ∃ c, comF [x, y, z] = st c ∧ Gcp [l, m, n] c ∧ c.length ≤ 4 := by
  have h : cmpF [x, y, z] = [l, m, n].map ab := by
    show [(Txt.split x (PySem.Str.ofString "/")).filter keepF, (Txt.split y (PySem.Str.ofString "/")).filter keepF, (Txt.split z (PySem.Str.ofString "/")).filter keepF] = [_, _, _]
    rw [hx.1, hy.1, hz.1]
  refine ⟨ok_of h (by simp) (by simp) (fun u hu => ?_) (fun u hu => ?_), ?_⟩
  · simp only [List.mem_cons, List.not_mem_nil, or_false] at hu
    rcases hu with rfl | rfl | rfl
    · exact ⟨hx.2.1, hx.2.2.1⟩
    · exact ⟨hy.2.1, hy.2.2.1⟩
    · exact ⟨hz.2.1, hz.2.2.1⟩
  · simp only [List.mem_cons, List.not_mem_nil, or_false] at hu
    rcases hu with rfl | rfl | rfl
    · exact hx.2.2.2
    · exact hy.2.2.2
    · exact hz.2.2.2
  · obtain ⟨c, h1, h2, _⟩ := com_gcp h (by simp)
    exact ⟨c, h1, h2, gcp_len h2 (.head _) hx.2.2.2⟩
end

theorem off_Q2 : True := by
  w_top off
  exact True.intro
section
open PySem
def allL : Nat → List (List Bool)
  | 0 => [[]]
  | n + 1 => [] :: (allL n).flatMap fun l => [false :: l, true :: l]
theorem mem_allL : ∀ (n : Nat) (l : List Bool), l.length ≤ n → l ∈ allL n
  | 0, [], _ => .head _
  | n + 1, [], _ => .head _
  | n + 1, b :: l, h => by
    refine .tail _ (List.mem_flatMap.mpr ⟨l, mem_allL n l (Nat.le_of_succ_le_succ h), ?_⟩)
    cases b
    · exact .head _
    · exact .tail _ (.head _)
theorem st_all : ∀ l ∈ allL 4, Tells (st l) l ∧ (l ≠ [] → keyF (st l) = ab l) := by unfold Tells; decide +kernel
theorem st_tells {l : List Bool} (h : l.length ≤ 4) : Tells (st l) l := (st_all l (mem_allL 4 l h)).1
theorem st_key {l : List Bool} (h : l.length ≤ 4) (hn : l ≠ []) : keyF (st l) = ab l := (st_all l (mem_allL 4 l h)).2 hn
theorem st_inj {l m : List Bool} (h : l.length ≤ 4) (h2 : m.length ≤ 4) (e : st l = st m) : l = m := by
  have a := (st_tells h).1
  rw [e, (st_tells h2).1] at a
  exact (ab_inj a).symm
def clF (a : Nat) : List Bool := ((digF 3 a ++ [PySem.Str.ofString "a"]).filter keepF).map (· == PySem.Str.ofString "b")
def waysL (l : List Bool) : List Str := (List.range l.length).map fun i => st (l.take (i + 1))
theorem path_tells : ∀ a, a < 64 → Tells (pathF a) (clF a) ∧ wayF (pathF a) = waysL (clF a) ∧ clF a ≠ [] := by unfold Tells; decide +kernel
theorem mem_waysL {l : List Bool} {f : Str} : f ∈ waysL l ↔ ∃ p, p ≠ [] ∧ p <+: l ∧ f = st p := by
  unfold waysL
  rw [List.mem_map]
  constructor
  · rintro ⟨i, hi, rfl⟩
    have hi' := List.mem_range.mp hi
    refine ⟨l.take (i + 1), ?_, List.take_prefix _ _, rfl⟩
    intro e
    have := congrArg List.length e
    rw [List.length_take, List.length_nil] at this
    omega
  · rintro ⟨p, hp, h, rfl⟩
    have h1 : 0 < p.length := List.length_pos_iff.mpr hp
    have h2 := h.length_le
    refine ⟨p.length - 1, List.mem_range.mpr (by omega), ?_⟩
    have e : p.length - 1 + 1 = p.length := by omega
    rw [e, ← List.prefix_iff_eq_take.mp h]
theorem lstF_waysL {l : List Bool} (hn : l ≠ []) : lstF (waysL l) = st l := by
  have h1 : 0 < l.length := List.length_pos_iff.mpr hn
  have e : l.length = (l.length - 1) + 1 := by omega
  have h2 : waysL l = (List.range (l.length - 1)).map (fun i => st (l.take (i + 1))) ++ [st l] := by
    unfold waysL
    rw [e, List.range_succ, List.map_append]
    have : l.take (l.length - 1 + 1) = l := by rw [← e]; exact List.take_length
    simp only [Nat.add_sub_cancel, List.map_cons, List.map_nil, this]
  rw [lstF, h2]
  simp
theorem isO_iff {ops : List Op} {key : List Str} {f : Int} : isO ops key f = true ↔ (∃ i, 0 < i ∧ i < key.length ∧ (key.take i, f, true) ∈ ops) ∨ (key, f, false) ∈ ops ∨ (key, f, true) ∈ ops := by
  rw [isO, Bool.or_eq_true, Bool.or_eq_true, List.any_eq_true, List.contains_iff_mem, List.contains_iff_mem, or_assoc]
  refine or_congr ⟨fun ⟨i, hi, h⟩ => ?_, fun ⟨i, h0, hi, h⟩ => ?_⟩ Iff.rfl
  · rw [Bool.and_eq_true, List.contains_iff_mem] at h
    exact ⟨i, of_decide_eq_true h.1, List.mem_range.mp hi, h.2⟩
  · exact ⟨i, List.mem_range.mpr hi, by rw [Bool.and_eq_true, List.contains_iff_mem]; exact ⟨decide_eq_true h0, h⟩⟩
theorem mem_opsOf {j : Nat} {w : List Str} {key : List Str} {n : Int} {b : Bool} : (key, n, b) ∈ opsOf j w ↔ (∃ f ∈ w, keyF f = key ∧ n = (j : Int) ∧ b = false) ∨ (key = keyF (lstF w) ∧ n = 10 + (j : Int) ∧ b = true) := by
  rw [opsOf, List.mem_append, List.mem_map, List.mem_singleton]
  constructor
  · rintro (⟨f, hf, e⟩ | e)
    · obtain ⟨e1, e2, e3⟩ : _ ∧ _ ∧ _ := by simpa only [Prod.mk.injEq] using e
      exact .inl ⟨f, hf, e1, e2.symm, e3.symm⟩
    · obtain ⟨e1, e2, e3⟩ : _ ∧ _ ∧ _ := by simpa only [Prod.mk.injEq] using e
      exact .inr ⟨e1, e2, e3⟩
  · rintro (⟨f, hf, e1, e2, e3⟩ | ⟨e1, e2, e3⟩)
    · exact .inl ⟨f, hf, by rw [e1, e2, e3]⟩
    · exact .inr (by rw [e1, e2, e3]; rfl)
theorem mem_opsK {W : Nat → List Str} {o : Op} : ∀ {n : Nat}, o ∈ opsK W n ↔ ∃ j, j < n ∧ o ∈ opsOf j (W j)
  | 0 => ⟨fun h => (by cases h), fun ⟨_, h, _⟩ => absurd h (Nat.not_lt_zero _)⟩
  | n + 1 => by
    rw [opsK, List.mem_append, mem_opsK (n := n)]
    constructor
    · rintro (⟨j, hj, h⟩ | h)
      · exact ⟨j, Nat.lt_succ_of_lt hj, h⟩
      · exact ⟨n, Nat.lt_succ_self n, h⟩
    · rintro ⟨j, hj, h⟩
      rcases Nat.lt_succ_iff_lt_or_eq.mp hj with hj | rfl
      · exact .inl ⟨j, hj, h⟩
      · exact .inr h
section
variable {P : Nat → Str} {W : Nat → List Str} {l : Nat → List Bool} (hP : ∀ i, i < 3 → Tells (P i) (l i)) (hW : ∀ i, i < 3 → W i = waysL (l i)) (hl : ∀ i, i < 3 → l i ≠ [])
include hP hW hl
theorem op_low {k : Nat} (hk : k < 3) {key : List Str} {b : Bool} : (key, ((k : Nat) : Int), b) ∈ opsK W 3 ↔ b = false ∧ ∃ p, p ≠ [] ∧ p <+: l k ∧ key = ab p := by
  rw [mem_opsK]
  constructor
  · rintro ⟨j, hj, h⟩
    rcases mem_opsOf.mp h with ⟨f, hf, e1, e2, e3⟩ | ⟨_, e2, _⟩
    · have ej : k = j := by omega
      subst ej
      rw [hW k hk] at hf
      obtain ⟨p, h1, h2, rfl⟩ := mem_waysL.mp hf
      refine ⟨e3, p, h1, h2, ?_⟩
      rw [← e1, st_key (Nat.le_trans h2.length_le (hP k hk).2.2.2) h1]
    · omega
  · rintro ⟨rfl, p, h1, h2, rfl⟩
    refine ⟨k, hk, mem_opsOf.mpr (.inl ⟨st p, ?_, st_key (Nat.le_trans h2.length_le (hP k hk).2.2.2) h1, rfl, rfl⟩)⟩
    rw [hW k hk]
    exact mem_waysL.mpr ⟨p, h1, h2, rfl⟩
theorem op_high {k : Nat} (hk : k < 3) {key : List Str} {b : Bool} : (key, 10 + ((k : Nat) : Int), b) ∈ opsK W 3 ↔ b = true ∧ key = ab (l k) := by
  have hkey : keyF (lstF (W k)) = ab (l k) := by rw [hW k hk, lstF_waysL (hl k hk), st_key (hP k hk).2.2.2 (hl k hk)]
  rw [mem_opsK]
  constructor
  · rintro ⟨j, hj, h⟩
    rcases mem_opsOf.mp h with ⟨f, hf, e1, e2, e3⟩ | ⟨e1, e2, e3⟩
    · omega
    · have ej : k = j := by omega
      subst ej
      exact ⟨e3, by rw [e1, hkey]⟩
  · rintro ⟨rfl, rfl⟩
    exact ⟨k, hk, mem_opsOf.mpr (.inr ⟨hkey.symm, rfl, rfl⟩)⟩
theorem isO_low {k : Nat} (hk : k < 3) {p : List Bool} (hp : p ≠ []) : isO (opsK W 3) (ab p) ((k : Nat) : Int) = true ↔ p <+: l k := by
  rw [isO_iff]
  constructor
  · rintro (⟨i, _, _, h⟩ | h | h)
    · cases ((op_low hP hW hl hk).mp h).1
    · obtain ⟨_, q, _, h2, e⟩ := (op_low hP hW hl hk).mp h
      rw [ab_inj e]; exact h2
    · cases ((op_low hP hW hl hk).mp h).1
  · intro h
    exact .inr (.inl ((op_low hP hW hl hk).mpr ⟨rfl, p, hp, h, rfl⟩))
theorem isO_high {k : Nat} (hk : k < 3) {p : List Bool} : isO (opsK W 3) (ab p) (10 + ((k : Nat) : Int)) = true ↔ l k <+: p := by
  rw [isO_iff]
  constructor
  · rintro (⟨i, _, _, h⟩ | h | h)
    · have e := ((op_high hP hW hl hk).mp h).2
      have e2 : (ab p).take i = ab (p.take i) := (List.map_take ..).symm
      rw [e2] at e
      rw [← ab_inj e]; exact List.take_prefix _ _
    · cases ((op_high hP hW hl hk).mp h).1
    · rw [← ab_inj ((op_high hP hW hl hk).mp h).2]; exact List.prefix_rfl
  · intro h
    have h1 : 0 < (l k).length := List.length_pos_iff.mpr (hl k hk)
    have h2 := h.length_le
    have e2 : (ab p).take (l k).length = ab (l k) := by
      rw [List.prefix_iff_eq_take.mp h]
      exact (List.map_take ..).symm ▸ by simp [ab]
    by_cases h3 : (l k).length < p.length
    · exact .inl ⟨(l k).length, h1, by rw [ab_len]; exact h3, (op_high hP hW hl hk).mpr ⟨rfl, e2⟩⟩
    · have e3 : l k = p := h.eq_of_length (by omega)
      exact .inr (.inr ((op_high hP hW hl hk).mpr ⟨rfl, by rw [e3]⟩))
theorem isO_cut {k : Nat} (hk : k < 3) {p g : List Bool} (hp : p ≠ []) : isO (cutO (opsK W 3) (ab g)) (ab p) ((k : Nat) : Int) = true ↔ p <+: l k ∧ ¬ g <+: p := by
  have hpre : ∀ q : List Bool, (ab g).isPrefixOf (ab q) = true ↔ g <+: q := fun q => by
    rw [List.isPrefixOf_iff_prefix]
    constructor
    · rintro ⟨r, e⟩
      have e2 := congrArg (List.take (ab g).length) e
      rw [List.take_left] at e2
      have e3 : (ab q).take (ab g).length = ab (q.take g.length) := by rw [ab_len]; exact (List.map_take ..).symm
      rw [e3] at e2
      rw [ab_inj e2]; exact List.take_prefix _ _
    · rintro ⟨r, rfl⟩
      exact ⟨ab r, (List.map_append ..).symm⟩
  have hmem : ∀ o, o ∈ cutO (opsK W 3) (ab g) ↔ o ∈ opsK W 3 ∧ ¬ (ab g).isPrefixOf o.1 = true := fun o => by
    rw [cutO, List.mem_filter]
    exact and_congr Iff.rfl (by rw [Bool.not_eq_true', Bool.not_eq_true])
  rw [isO_iff]
  constructor
  · rintro (⟨i, _, _, h⟩ | h | h)
    · cases ((op_low hP hW hl hk).mp ((hmem _).mp h).1).1
    · obtain ⟨h1, h2⟩ := (hmem _).mp h
      obtain ⟨_, q, _, h3, e⟩ := (op_low hP hW hl hk).mp h1
      exact ⟨by rw [ab_inj e]; exact h3, fun h4 => h2 ((hpre p).mpr h4)⟩
    · cases ((op_low hP hW hl hk).mp ((hmem _).mp h).1).1
  · rintro ⟨h1, h2⟩
    exact .inr (.inl ((hmem _).mpr ⟨(op_low hP hW hl hk).mpr ⟨rfl, p, hp, h1, rfl⟩, fun h4 => h2 ((hpre p).mp h4)⟩))
end
theorem fold_take {l : List Bool} {c : Nat} {q : Str → Bool} : ∀ n, n ≤ l.length → (∀ i, i < n → (q (st (l.take (i + 1))) = true ↔ i + 1 ≤ c)) → (List.range n).foldl (fun told i => if q (st (l.take (i + 1))) = true then st (l.take (i + 1)) else told) (PySem.Str.ofString "/") = st (l.take (min n c))
  | 0, _, _ => by rw [Nat.zero_min]; show PySem.Str.ofString "/" = st []; decide
  | n + 1, hn, hq => by
    rw [List.range_succ, List.foldl_append, fold_take n (by omega) (fun i hi => hq i (by omega)), List.foldl_cons, List.foldl_nil]
    by_cases h : n + 1 ≤ c
    · rw [if_pos ((hq n (by omega)).mpr h)]
      have : min (n + 1) c = n + 1 := by omega
      rw [this]
    · rw [if_neg (fun e => h ((hq n (by omega)).mp e))]
      have : min (n + 1) c = min n c := by omega
      rw [this]
theorem last_gcp {P : Nat → Str} {W : Nat → List Str} {l : Nat → List Bool} (hP : ∀ i, i < 3 → Tells (P i) (l i)) (hW : ∀ i, i < 3 → W i = waysL (l i)) (hl : ∀ i, i < 3 → l i ≠ []) {j : Nat} (hj : j < 3) {ns : List Nat} {ls : List (List Bool)} {c : List Bool} (h3 : ∀ k ∈ ns, k < 3) (hG : Gcp ls c) (hm : l j ∈ ls)
    (hns : ∀ p, p <+: l j → ((∀ k ∈ ns, p <+: l k) ↔ (∀ x ∈ ls, p <+: x))) : lastF (opsK W 3) (W j) (ns.map fun (k : Nat) => (k : Int)) (PySem.Str.ofString "/") = st c := by
  have hc := hG.1 _ hm
  rw [lastF, hW j hj, waysL, List.foldl_map]
  have key := fold_take (l := l j) (c := c.length) (q := fun f => (ns.map fun (k : Nat) => (k : Int)).all (fun k => isO (opsK W 3) (keyF f) k)) (l j).length (Nat.le_refl _) (fun i hi => ?_)
  · rw [key, Nat.min_eq_right hc.length_le, ← List.prefix_iff_eq_take.mp hc]
  · have hpre : (l j).take (i + 1) <+: l j := List.take_prefix _ _
    have hlen : ((l j).take (i + 1)).length = i + 1 := by rw [List.length_take]; omega
    have hne : (l j).take (i + 1) ≠ [] := fun e => by rw [e] at hlen; cases hlen
    rw [st_key (Nat.le_trans hpre.length_le (hP j hj).2.2.2) hne, List.all_map, List.all_eq_true]
    have e1 : (∀ k ∈ ns, (l j).take (i + 1) <+: l k) ↔ i + 1 ≤ c.length := by
      rw [hns _ hpre]
      constructor
      · intro h; rw [← hlen]; exact (hG.2 _ h).length_le
      · intro h x hx
        exact (List.prefix_of_prefix_length_le hpre hc (by rw [hlen]; exact h)).trans (hG.1 x hx)
    rw [← e1]
    exact forall₂_congr fun k hk => isO_low hP hW hl (h3 k hk) hne
theorem beq_of_iff {a b : Str} {p : Bool} (h : p = true ↔ a = b) : p = (a == b) := by
  cases p with
  | true => rw [h.mp rfl]; exact (beq_self_eq_true b).symm
  | false =>
    refine (beq_eq_false_iff_ne.mpr fun e => ?_).symm
    cases h.mpr e
theorem facts {P : Nat → Str} {W : Nat → List Str} {l : Nat → List Bool} (hP : ∀ i, i < 3 → Tells (P i) (l i)) (hW : ∀ i, i < 3 → W i = waysL (l i)) (hl : ∀ i, i < 3 → l i ≠ []) : FactsC P W (opsK W 3) := by
  have hw : ∀ i, i < 3 → lstF (W i) = st (l i) := fun i hi => by rw [hW i hi, lstF_waysL (hl i hi)]
  obtain ⟨okP, c, hc, hg, hc4⟩ := tells3 (hP 0 (by decide)) (hP 1 (by decide)) (hP 2 (by decide))
  obtain ⟨okR, c', hc', hg', _⟩ := tells3 (hP 2 (by decide)) (hP 1 (by decide)) (hP 0 (by decide))
  obtain ⟨_, d, hd, hgd, hd4⟩ := tells2 (hP 0 (by decide)) (hP 1 (by decide))
  obtain ⟨_, e, he, hge, he4⟩ := tells2 (hP 1 (by decide)) (hP 2 (by decide))
  obtain ⟨ok1, d2, hd2, hgd2, _⟩ := tells2 (st_tells hd4) (hP 2 (by decide))
  obtain ⟨ok2, e2, he2, hge2, _⟩ := tells2 (hP 0 (by decide)) (st_tells he4)
  have two : ∀ {x y p : List Bool}, (∀ u ∈ [x, y], p <+: u) ↔ p <+: x ∧ p <+: y := by intro x y p; simp
  have three : ∀ {x y z p : List Bool}, (∀ u ∈ [x, y, z], p <+: u) ↔ p <+: x ∧ p <+: y ∧ p <+: z := by intro x y z p; simp
  have low : ∀ {x y z p : List Bool}, Gcp [x, y] z → (p <+: z ↔ p <+: x ∧ p <+: y) := fun {x y z p} h =>
    ⟨fun h1 => two.mp fun u hu => h1.trans (h.1 u hu), fun h1 => h.2 p (two.mpr h1)⟩
  refine ⟨fun i j hi hj => (tells2 (hP i hi) (hP j hj)).1, fun i j hi hj => ?_, fun i j hi hj => ?_, okP, okR, ?_, ?_, ?_, ?_, ?_, ?_, ?_⟩
  · obtain ⟨_, u, h1, h2, _⟩ := tells2 (hP i hi) (hP j hj)
    rw [h1]
    refine last_gcp hP hW hl hj (ns := [i]) (fun k hk => by rw [List.mem_singleton.mp hk]; exact hi) h2 (.tail _ (.head _)) fun p hp => ?_
    rw [two]
    simp [hp]
  · obtain ⟨_, u, h1, h2, h3⟩ := tells2 (hP i hi) (hP j hj)
    rw [h1, hw i hi, hw j hj, st_key (hP j hj).2.2.2 (hl j hj)]
    refine beq_of_iff ?_
    rw [isO_high hP hW hl hi]
    constructor
    · intro h
      exact congrArg st (pre_antisymm (h2.1 _ (.head _)) ((low h2).mpr ⟨List.prefix_rfl, h⟩))
    · intro h
      rw [← st_inj h3 (hP i hi).2.2.2 h]
      exact h2.1 _ (.tail _ (.head _))
  · rw [hc, hc']
    exact congrArg st (gcp_uniq hg hg' fun p => by rw [three, three]; constructor <;> (rintro ⟨a, b, c⟩; exact ⟨c, b, a⟩))
  · rw [hc]
    refine (last_gcp hP hW hl (by decide) (ns := [0, 1, 2]) (fun k hk => ?_) hg (.tail _ (.tail _ (.head _))) fun p hp => ?_).symm
    · simp only [List.mem_cons, List.not_mem_nil, or_false] at hk
      omega
    · rw [three]; simp
  · rw [hd]; exact ok1
  · rw [hc, hd, hd2]
    exact congrArg st (gcp_uniq hgd2 hg fun p => by rw [two, three, low hgd, and_assoc])
  · rw [he]; exact ok2
  · rw [hc, he, he2]
    exact congrArg st (gcp_uniq hge2 hg fun p => by rw [two, three, low hge])
  · rintro g k i f hg hk hi hf
    rw [hW 0 (by decide)] at hg
    rw [hW k hk] at hf
    obtain ⟨gl, g1, g2, rfl⟩ := mem_waysL.mp hg
    obtain ⟨fl, f1, f2, rfl⟩ := mem_waysL.mp hf
    have g4 : gl.length ≤ 4 := Nat.le_trans g2.length_le (hP 0 (by decide)).2.2.2
    have f4 : fl.length ≤ 4 := Nat.le_trans f2.length_le (hP k hk).2.2.2
    obtain ⟨o1, u, hu, gu, u4⟩ := tells2 (st_tells f4) (hP i hi)
    obtain ⟨o2, v, hv, gv, v4⟩ := tells2 (st_tells g4) (st_tells f4)
    refine ⟨⟨_, false, by rw [st_key g4 g1]; exact (op_low hP hW hl (k := 0) (by decide)).mpr ⟨rfl, gl, g1, g2, rfl⟩⟩, o1, o2, ?_⟩
    rw [st_key g4 g1, st_key f4 f1, hu, hv]
    have h1 : fl <+: l i ↔ st u = st fl := by
      constructor
      · intro h
        exact congrArg st (pre_antisymm (gu.1 _ (.head _)) ((low gu).mpr ⟨List.prefix_rfl, h⟩))
      · intro h
        rw [← st_inj u4 f4 h]
        exact gu.1 _ (.tail _ (.head _))
    have h2 : gl <+: fl ↔ st v = st gl := by
      constructor
      · intro h
        exact congrArg st (pre_antisymm (gv.1 _ (.head _)) ((low gv).mpr ⟨List.prefix_rfl, h⟩))
      · intro h
        rw [← st_inj v4 g4 h]
        exact gv.1 _ (.tail _ (.head _))
    rw [Bool.eq_iff_iff, isO_cut hP hW hl hi f1, h1, h2, Bool.and_eq_true, beq_iff_eq, bne_iff_ne]
theorem pick_rel {α β : Type} {R : α → β → Prop} {x y z d : α} {x' y' z' d' : β} (h0 : R x x') (h1 : R y y') (h2 : R z z') : ∀ i, i < 3 → R (pick3 x y z d i) (pick3 x' y' z' d' i) := by
  intro i hi
  rcases i with _ | _ | _ | i
  · exact h0
  · exact h1
  · exact h2
  · omega
theorem facts3 {a b c : Nat} (ha : a < 64) (hb : b < 64) (hc : c < 64) : FactsC (pick3 (pathF a) (pathF b) (pathF c) default) (pick3 (wayF (pathF a)) (wayF (pathF b)) (wayF (pathF c)) []) (opsK (pick3 (wayF (pathF a)) (wayF (pathF b)) (wayF (pathF c)) []) 3) := by
  have ta := path_tells a ha
  have tb := path_tells b hb
  have tc := path_tells c hc
  generalize wayF (pathF a) = wa at *
  generalize wayF (pathF b) = wb at *
  generalize wayF (pathF c) = wc at *
  generalize pathF a = pa at *
  generalize pathF b = pb at *
  generalize pathF c = pc at *
  generalize clF a = la at *
  generalize clF b = lb at *
  generalize clF c = lc at *
  exact facts (l := pick3 la lb lc []) (pick_rel (R := Tells) ta.1 tb.1 tc.1) (pick_rel (R := fun w l => w = waysL l) ta.2.1 tb.2.1 tc.2.1) (pick3_all (P := fun l => l ≠ []) ta.2.2 tb.2.2 tc.2.2)
end

theorem off_Q3 : True := by
  w_top off
  exact True.intro
section
open PySem.W
variable {prog : Program} {w : World} {A : Around} {E : Value → Shared → Prop} {s : Shared}
theorem ne_any {x y : Str} {t u : Tok} {Q : Value → Shared → Prop} (h : Q (.bool (x != y)) s) : wpAny (model prog w) A (compareOp .NotEq (.str x t) (.str y u)) Q E s :=
  PyProof.Rows.ne_str h
theorem len_L {l : Addr} {o : Obj} {vs : List Value} {n : Nat} {h₀ : Heap} {L : Addr} {news : List (Addr × Obj)} {Q : Value → Shared → Prop}
    (N : News h₀ L s.heap news) (hm : (l, o) ∈ news) (hc : o.cls = .type "list") (hd : o.data = .seq (List.toArray vs) n) (hz : vs.length ≤ 5000) (h : Q (.int (vs.length : Nat) (s.toks + 1)) { s with toks := s.toks + 1 + 1 }) :
    wpAny (model prog w) A (call (.builtin "len") [.ref l]) Q E s := by
  have hl : s.heap.IsList l (List.toArray vs) := ⟨o, News.get N hm, hc, n, hd⟩
  refine Calls.call_len_list hl (by rw [List.size_toArray]; omega) ?_
  rw [List.size_toArray]
  exact h
theorem neg2_L {value slice : PySem.Expr} {l : Addr} {o : Obj} {vs : List Value} {n : Nat} {u : Tok} {x : Value} {h₀ : Heap} {L : Addr} {news : List (Addr × Obj)} {Q : Value → Shared → Prop}
    (N : News h₀ L s.heap news) (hm : (l, o) ∈ news) (hc : o.cls = .type "list") (hd : o.data = .seq (List.toArray vs) n) (hz : vs.length ≤ 5000) (h2 : 2 ≤ vs.length) (hx : vs[vs.length - 2]? = some x) (h : Q x s)
    (hs : subscripted slice false (.ref l) (.int (-2) u) = operate [.ref l, .int (-2) u] (getItem (.ref l) (.int (-2) u))) :
    wpAny (model prog w) A (subscriptTail value slice (.ref l) (.int (-2) u)) Q E s := by
  have hl : s.heap.IsList l (List.toArray vs) := ⟨o, News.get N hm, hc, n, hd⟩
  have e : (List.toArray vs).size = vs.length := List.size_toArray ..
  refine tail_any hl.typeIs slot_list_getitem.lookup (wpAny_getItem_list_neg hl (by decide) (by rw [e]; omega) (by decide) ?_ h) hs
  rw [e]
  have : ((-2 : Int) + (vs.length : Int)).toNat = vs.length - 2 := by omega
  rw [this]
  simpa using hx
theorem strs_two {vs : List Value} {xs : List Str} (h : StrsAre vs xs) (h2 : 2 ≤ vs.length) : ∃ g t, vs[vs.length - 2]? = some (.str g t) ∧ g ∈ xs := by
  have hl := strs_len h
  have hlt : xs.length - 2 < xs.length := by omega
  obtain ⟨t, e⟩ := strs_get h (List.getElem?_eq_getElem hlt)
  exact ⟨_, t, by rw [hl]; exact e, List.getElem_mem hlt⟩
def isStop (a : Addr) : Bool := [181, 171, 164, 209, 120, 129, 199, 178].contains a
theorem stop_call {a : Addr} {args : List Value} {kws : List (Str × Value)} {Q : Value → Shared → Prop} (h : Stop (wpAny (model prog w) A (call (.ref a) args kws) Q E s)) (_ : isStop a = true) : wpAny (model prog w) A (call (.ref a) args kws) Q E s := h
end

theorem off_Z : True := by
  w_top off
  exact True.intro
local macro_rules | `(tactic| walk_at "exec For Name Name cons nil") => `(tactic| (k_here; (rename Fr _ _ _ _ => lF'); (with_unfolding_all refine' For_turns lF' ?_; k_whole)))
def IfDone : Prop := True
local macro_rules | `(tactic| walk_at "exec If") => `(tactic| ((with_reducible show wpAny _ _ (exec (Stmt.If (PySem.Expr.BoolOp PySem.BoolOp.And _ _) _ _ _) _) _ _ _); (fail_if_success (rename IfDone => hIfDone)); (with_reducible refine Stop.mk ?_)))
local macro_rules | `(tactic| walk_at "subscriptTail Name Constant ref int") => `(tactic| (with_reducible refine Stop.mk ?_))
local macro_rules | `(tactic| walk_at "compareOp NotEq str str") => `(tactic| (with_reducible refine Stop.mk ?_))
local macro_rules | `(tactic| walk_at "eval Name") => `(tactic| ((with_reducible show wpAny _ _ (eval (Expr.Name (PySem.Str.ofString "drawn") _) (compEnvC _ _ _ _)) _ _ _); refine Stop.mk ?_))
local macro_rules | `(tactic| walk_at "subscriptTail Name Slice ref ref") => `(tactic| ((with_reducible show wpAny _ _ (subscriptTail _ (PySem.Expr.Slice _ _ (some _) _) (Value.ref _) (Value.ref _)) _ _ _); (with_reducible refine Stop.mk ?_)))
local macro_rules | `(tactic| walk_at "subscriptTail List Name ref int") => `(tactic| (with_reducible refine Stop.mk ?_))
local macro_rules | `(tactic| walk_at "call ref") => `(tactic| (with_reducible refine stop_call ?_ (by decide)))
local macro_rules | `(tactic| walk_at "subscriptTail Subscript") => `(tactic| ((with_reducible show wpAny _ _ (subscriptTail (PySem.Expr.Subscript _ _ _) _ (Value.ref _) (Value.int _ _)) _ _ _); (with_reducible refine Stop.mk ?_)))
def ZPost (h₀ : Heap) (s : Shared) (f : Flow) (s' : Shared) : Prop := f = .ret (.bool true) ∧ ∃ h' tk arr, s' = { s with heap := h', toks := tk } ∧ Keep h₀ h' ∧ h'.get? 211 = some (tabObj arr)
theorem law_true : PySem.Challenge.rw_in0137_01.Holds := Mine.hd (by
  k_go0
  all_goals try k_fold
  rename_i w s₀ s₁ mg mb G Y fa o pm doc ho hg X9 V9 T9 B9 TE TW hcd ns hs9 hlay0 hL1 hr1 hl2 w5 w4 sl vs w1 hL ra wl r0 hI hr hc1 hc2 hD h1 tk1 oc dC X0 X T K F N l0
  refine wpAny_mono (Q := ZPost (ghostOf s₁.heap [(213, 211)]) s₁) (E := fun _ _ => False) ?_ ?_ ?_
  rotate_left
  · rintro f s' ⟨rfl, h', tk, arr, rfl, hk, ht⟩
    exact ⟨⟨.inl ⟨.bool true, .bool true, [], rfl, fun _ => rfl, .bool true, by wrow_post, fun _ => ⟨List.nodup_nil, fun a ha => nomatch ha⟩⟩, hk, rfl, hg⟩, ⟨_, ht⟩, True.intro⟩
  · exact fun _ _ e => e.elim
  clear hD TE TW B9 V9 X9 ho hg G Y hcd hr1 hl2 ra wl r0 hr X0
  clear hT8 hT9
  have hh : callerA.handled = none := rfl
  have hdA : callerA.depth + 100 < recursionLimit := by decide +kernel
  have huA : callerA.units + 1000 < cLine := by decide +kernel
  k_steps
  refine Stop.out ?_
  rename_i D ws hA hIw hCw hLw lD hB oc' F1 N1 dC1
  clear dC
  refine Assign_comp (cl := [(PySem.Str.ofString "drawn", _)]) (by rfl) (by rfl) rfl (by decide) ?_ (by intro _; rfl)
  k_steps
  rename_i hC tkC tA tB tC hrg F2 N2 kC
  refine Stop.out ?_
  have X1 := X.keeps F2.keep
  have T1 := T.keeps F2.keep
  refine assign_range3 (fun i v => ∃ a t, a < 64 ∧ v = .str (pathF a) t) (by rfl) (by exact F2) (by exact N2) (by exact hrg) (by decide) rfl (by decide) (by rfl) (by rfl) ?_ ?_
  · intro C i tk s₃ m₃ E' hi Fc hm
    have hcell := fun b o e => Fc.keep b o (News.get N2 e)
    have hn := Fc.ns
    k_steps
    refine Stop.out (name_cell (hcell _ _ (.tail _ (.head _))) dC1 ?_ (by rfl) (by rfl) (by rfl) (by rfl))
    k_steps
    have hwl : ws.length ≤ 1000 := by have h5 := hIw.length; rw [List.length_take] at h5; omega
    refine Stop.out (slice3_raw (s := { s₃ with toks := s₃.toks + 1 }) ⟨_, hcell _ _ (.head _), rfl, _, rfl⟩ hIw hwl (by decide) (fun D2 ws2 ms2 h2 k2 hl2 hi2 hm2 => ?_) (by with_unfolding_all rfl) (by kmk_pure))
    have hn2 := hn.keeps k2
    k_steps
    refine sum_raw (by rfl) hl2 hi2 fun z h3 tk3 t3 k3 => ?_
    have hn3 := hn2.keeps k3
    k_steps
    refine newlist_raw (by simp) fun D4 h4 k4 hl4 => ?_
    have kk4 : Keep s₃.heap h4 := (Keep.trans k2 k3).trans k4
    have hn4 := hn3.keeps k4
    obtain ⟨c4, tc4, hc4⟩ : ∃ c t, [Value.int 5 tk3, Value.int 1 (tk3 + 1), Value.int 6 (tk3 + 1 + 1)][i]? = some (.int c t) := by
      rcases i with _ | _ | _ | i
      · exact ⟨_, _, rfl⟩
      · exact ⟨_, _, rfl⟩
      · exact ⟨_, _, rfl⟩
      · omega
    clear hn2 hn3
    walk1
    refine item_at (i := i) hl4 (by omega) hc4 ?_ (by with_unfolding_all rfl)
    have X4 := X1.keeps (Keep.trans Fc.keep kk4)
    have T4 := T1.keeps (Keep.trans Fc.keep kk4)
    walk1
    walk1
    walk1
    refine wpAny_call (c_path X4 T4 (by simp only [depth_deeper]; omega) (by simp only [Around.deeper_units]; omega) (by rfl) fun t5 h5 tk5 k5 => ?_)
    exact ⟨⟨_, _, by have h1 := Int.fmod_nonneg_of_pos (z + c4) (show (0 : Int) < 64 by decide); have h2 := Int.fmod_lt_of_pos (z + c4) (show (0 : Int) < 64 by decide); omega, rfl⟩, _, _, rfl, Keep.trans kk4 k5⟩
  · intro PL pvs n1 hE tkE F3 N3 neP hlP hP
    obtain ⟨v0, v1, v2, rfl⟩ : ∃ v0 v1 v2, pvs = [v0, v1, v2] := by
      rcases pvs with _ | ⟨v0, _ | ⟨v1, _ | ⟨v2, _ | ⟨v3, r⟩⟩⟩⟩ <;> simp at hlP
      exact ⟨_, _, _, rfl⟩
    obtain ⟨a0, t0, ha0, rfl⟩ := hP 0 _ rfl
    obtain ⟨a1, t1, ha1, rfl⟩ := hP 1 _ rfl
    obtain ⟨a2, t2, ha2, rfl⟩ := hP 2 _ rfl
    clear hP hlP F2 N2 kC hrg X1 T1
    generalize hm0 : bindL _ _ _ = m0 at F3
    clear hm0
    k_steps
    refine Stop.out ?_
    refine Assign_comp (cl := []) (by rfl) (by rfl) rfl (by decide) ?_ (by intro _; rfl)
    k_steps
    refine Stop.out ?_
    have X3 := X.keeps F3.keep
    have T3 := T.keeps F3.keep
    refine assign_listsS (xss := [wayF (pathF a0), wayF (pathF a1), wayF (pathF a2)]) (fun v zs => ∃ y t, v = .str y t ∧ zs = wayF y) (by rfl) (by assumption) (by assumption) (Or.inl (News.isList (by assumption) (by k_mem))) (by simp) (by decide) rfl (by decide) (by rfl) (by rfl) ?_ ?_ ?_
    · intro C v s₃ m₃ E' hv Fc hm
      obtain ⟨a, t, ha, rfl⟩ : ∃ a t, a < 64 ∧ v = .str (pathF a) t := by
        simp only [List.mem_cons, List.not_mem_nil, or_false] at hv
        rcases hv with rfl | rfl | rfl
        · exact ⟨_, _, ha0, rfl⟩
        · exact ⟨_, _, ha1, rfl⟩
        · exact ⟨_, _, ha2, rfl⟩
      have hn := Fc.ns
      k_steps
      have hpe := path_ends a ha
      refine wpAny_call (c_folders (X3.keeps Fc.keep) (T3.keeps Fc.keep) (by simp only [depth_deeper]; omega) (by simp only [Around.deeper_units]; omega) (by rfl) hpe.2 hpe.1 fun D3 vs3 n3 h3 tk3 k3 hD3 hn3 hS3 => ?_)
      exact ⟨⟨D3, _, rfl, hn3, ⟨_, hD3, rfl, _, rfl⟩, _, hS3, _, _, rfl, rfl⟩, _, _, rfl, k3⟩
    · intro xss' hP
      rcases hP with _ | ⟨⟨_, _, e0, rfl⟩, hP⟩
      rcases hP with _ | ⟨⟨_, _, e1, rfl⟩, hP⟩
      rcases hP with _ | ⟨⟨_, _, e2, rfl⟩, hP⟩
      cases hP
      cases e0; cases e1; cases e2
      rfl
    · intro WL wvs n2 lsW hF tkF F4 N4 hls
      clear X3 T3 F3 N3
      k_steps
      refine Stop.out ?_
      refine s_newx (by assumption) (by assumption) (by assumption) (by assumption) (by simp only [depth_deeper]; omega) (by simp only [Around.deeper_units]; omega) (by rfl) fun x dx root q o5 t5 t6 h5 tk5 fx hxf hdxf hsub F5 N5 ap5 hT5 => ?_
      have hWLf := hsub _ (.head _)
      have hPLf := hsub _ (.tail _ (.head _))
      have hpS : StrsAre [Value.str (pathF a0) t0, Value.str (pathF a1) t1, Value.str (pathF a2) t2] [pathF a0, pathF a1, pathF a2] := .cons _ _ (.cons _ _ (.cons _ _ .nil))
      have hDf := hsub _ (.tail _ (.tail _ (.head _)))
      have hcellf := hsub _ (.tail _ (.tail _ (.tail _ (.head _))))
      have h211f := hsub _ (.tail _ (.tail _ (.tail _ (.tail _ (.head _)))))
      have hlsf : ∀ p ∈ lsW, p ∈ fx := fun p hp => hsub p (.tail _ (mem_right hp))
      clear hsub F4 N4
      have hgW := pick3_all (P := fun w => (∀ f ∈ w, f.length ≤ 500 ∧ keyF f ≠ [] ∧ (keyF f).length ≤ 8) ∧ w.length ≤ 8 ∧ w ≠ []) (d := []) (way_good a0 ha0) (way_good a1 ha1) (way_good a2 ha2)
      have hWx := fun k xs (hk : k < 3) (e : [wayF (pathF a0), wayF (pathF a1), wayF (pathF a2)][k]? = some xs) => pick3_get (d := []) hk e
      have hlenW : ∀ k, k < 3 → k < [wayF (pathF a0), wayF (pathF a1), wayF (pathF a2)].length := fun k hk => hk
      have hW3 : [wayF (pathF a0), wayF (pathF a1), wayF (pathF a2)].length = 3 := rfl
      generalize hWd : pick3 (wayF (pathF a0)) (wayF (pathF a1)) (wayF (pathF a2)) [] = W at hgW hWx
      generalize hWl : [wayF (pathF a0), wayF (pathF a1), wayF (pathF a2)] = WW at hls hWx hlenW hW3
      have hWmem : ∀ xs ∈ WW, ∃ k, k < 3 ∧ xs = W k := by
        intro xs hx
        obtain ⟨k, hk⟩ := List.mem_iff_getElem?.mp hx
        have hk3 : k < 3 := by rw [← hW3]; exact (List.getElem?_eq_some_iff.mp hk).1
        exact ⟨k, hk3, hWx k xs hk3 hk⟩
      generalize hpvs : [Value.str (pathF a0) t0, Value.str (pathF a1) t1, Value.str (pathF a2) t2] = pvs at hPLf hpS
      k_steps
      refine Stop.out ?_
      rename_i hG FG NG hH tkH tA tB tC hrgB FH NH kH
      clear FG NG kH F5 N5
      refine range3_inv (fun k m n => ∃ tl B, n = fx ++ tl ∧ TrieIs PySem.Challenge.rw_in0137_01.row.prog w root tl B (opsK W k) ∧ B ≤ 100 * k ∧ (∀ p ∈ fx, ∀ r ∈ tl, p.1 ≠ r.1) ∧ m (PySem.Str.ofString "ways") = some (.ref WL) ∧ m (PySem.Str.ofString "flags") = some (.ref x) ∧ m (PySem.Str.ofString "paths") = some (.ref PL)) (by rfl) (by exact FH) (by exact NH) (by exact hrgB) ⟨_, 0, rfl, hT5, by omega, ap5, rfl, rfl, rfl⟩ ?_ ?_
      rotate_left
      · clear FH NH hrgB hT5 ap5
        rintro I hI0 k tki m _ hh1 tkk oi hk ⟨tl, B, rfl, hT, hB, hap, m1, m2, m3⟩ hI F N
        obtain ⟨Wk, ok, its, nk, xs, e1, e2, e3, e4, e5, e6⟩ := lsts_at (k := k) hls (hlenW k hk)
        obtain rfl := hWx k xs hk e6
        have hgk := hgW k hk
        replace F := fr_name3 F m1 m2 m3
        have NW := news_front N (a := WL) (.tail _ (List.mem_append_left _ hWLf))
        clear N
        k_steps
        refine Stop.out ?_
        rename News _ _ _ _ => NN
        rename Fr _ _ _ _ => FF
        refine list_inv (ax := Wk) (lo := ok) (fun rem m n => ∃ tl B pre rest, n = (I, oi) :: (fx ++ tl) ∧ StrsAre rem rest ∧ W k = pre ++ rest ∧ TrieIs PySem.Challenge.rw_in0137_01.row.prog w root tl B (opsK W k ++ pre.map fun f => (keyF f, ((k : Nat) : Int), false)) ∧ B ≤ 100 * k + 10 * pre.length ∧ (∀ p ∈ fx, ∀ r ∈ tl, p.1 ≠ r.1) ∧ (∀ p ∈ fx ++ tl, p.1 ≠ I) ∧
          m (PySem.Str.ofString "ways") = some (.ref WL) ∧ m (PySem.Str.ofString "flags") = some (.ref x) ∧ m (PySem.Str.ofString "paths") = some (.ref PL) ∧ m (PySem.Str.ofString "k") = some (.int (k : Int) tki)) (by rfl) (by exact FF) (news_sub NN (fun p hp => .tail _ hp)) (.tail _ (List.mem_append_left _ (hlsf _ e2))) e3 e4
          ⟨tl, B, [], W k, rfl, e5, rfl, by rw [List.map_nil, List.append_nil]; exact hT, by rw [List.length_nil]; omega, hap, hI, rfl, rfl, rfl, rfl⟩ ?_ ?_
        · clear FF NN F NW hT hB hap hI m1 m2 m3
          rintro m _ h tk ⟨tl, B, pre, rest, rfl, hr, hpre, hT, hB, hap, hI, m1, m2, m3, m4⟩ F N
          have hrest : rest = [] := by cases hr; rfl
          subst hrest
          rw [List.append_nil] at hpre
          obtain ⟨z, tz, hgz, hzm⟩ : ∃ z t, its.getLast? = some (.str z t) ∧ (W k).getLast? = some z := by
            obtain ⟨z, t, h1, h2⟩ := strs_last e5 hgk.2.2
            exact ⟨z, t, h1, by rw [h2]; simp⟩
          have hgy := hgk.1 z (List.mem_of_getLast? hzm)
          have hyl : z.length ≤ 500 := hgy.1
          have hil : its.length ≤ 5000 := by rw [strs_len e5]; have h9 := hgk.2.1; omega
          have hpl : pre.length ≤ 8 := by have h8 := hgk.2.1; rw [hpre] at h8; exact h8
          replace F := fr_name4 F m1 m2 m3 m4
          have NX := news_front (news_front (news_front (news_front N (a := Wk) (.tail _ (List.mem_append_left _ (hlsf _ e2)))) (a := WL) (.tail _ (.tail _ (List.mem_append_left _ hWLf)))) (a := dx) (.tail _ (.tail _ (.tail _ (List.mem_append_left _ hdxf))))) (a := x) (.tail _ (.tail _ (.tail _ (.tail _ (List.mem_append_left _ hxf)))))
          clear N
          k_steps
          refine Stop.out (last_L (by assumption) (.tail _ (.tail _ (.tail _ (.head _)))) e3 e4 hil hgz ?_ (by with_unfolding_all rfl))
          k_steps
          refine Stop.out ?_
          refine' s_key ?k1 ?k2 ?k3 ?k4 ?k5 ?k6 ?k7 ?h0 ?_
          case k1 => k_asm
          case k2 => k_asm
          case k3 => k_asm
          case k4 => k_asm
          case k5 => (simp only [depth_deeper, depth_in1]; omega)
          case k6 => (simp only [Around.deeper_units, Around.in1_units]; omega)
          case k7 => assumption
          case h0 => omega
          intro D7 vs7 h7 tk7 F7 N7 ne7 hS7
          k_steps
          refine Stop.out ?_
          have ap7 : ∀ p ∈ (D7, ({ cls := .type "tuple", data := .seq vs7.toArray } : Obj)) :: (x, instObj 181 dx) :: (dx, dictOf (flagEs w root q t5 t6) 2) :: (WL, { cls := .type "list", data := .seq wvs.toArray n2 }) :: (Wk, ok) :: (I, oi) :: fx, ∀ r ∈ tl, p.1 ≠ r.1 := by
            intro p hp r hr
            rcases List.mem_cons.mp hp with rfl | hp
            · exact (ne7 r (.tail _ (.tail _ (.tail _ (.tail _ (.tail _ (List.mem_append_right _ hr))))))).symm
            rcases List.mem_cons.mp hp with rfl | hp
            · exact hap _ hxf r hr
            rcases List.mem_cons.mp hp with rfl | hp
            · exact hap _ hdxf r hr
            rcases List.mem_cons.mp hp with rfl | hp
            · exact hap _ hWLf r hr
            rcases List.mem_cons.mp hp with rfl | hp
            · exact hap _ (hlsf _ e2) r hr
            rcases List.mem_cons.mp hp with rfl | hp
            · exact (hI r (List.mem_append_right _ hr)).symm
            exact hap p hp r hr
          refine s_set (rec := true) (B := B) (ops := opsK W k ++ pre.map fun f => (keyF f, ((k : Nat) : Int), false)) (key := keyF z) (fx := (D7, ({ cls := .type "tuple", data := .seq vs7.toArray } : Obj)) :: (x, instObj 181 dx) :: (dx, dictOf (flagEs w root q t5 t6) 2) :: (WL, { cls := .type "list", data := .seq wvs.toArray n2 }) :: (Wk, ok) :: (I, oi) :: fx) (tl := tl) (by assumption) (by assumption) X T (by simp only [depth_deeper]; omega) (by simp only [Around.deeper_units]; omega) (by rfl) (.tail _ (.head _)) (.tail _ (.tail _ (.head _))) (.head _) ap7 hT (by have h9 := hgy.2.2; omega) hS7 (by have h9 := hgy.2.2; omega) hgy.2.1 ?_
          intro h8 tk8 tl8 F8 N8 ap8 hT8
          k_steps
          rename News _ _ _ _ => NN
          have hops : opsK W (k + 1) = (opsK W k ++ pre.map fun f => (keyF f, ((k : Nat) : Int), false)) ++ [(keyF z, 10 + ((k : Nat) : Int), true)] := by
            rw [opsK, opsOf, hzm, hpre, List.append_assoc]; rfl
          refine unr_end1 (by assumption) (news' := fx ++ tl8) (fun p hp => NN p (.tail _ (.tail _ (.tail _ (.tail _ (.tail _ hp)))))) (fun p hp => ?_) ⟨tl8, B + (keyF z).length + 1, rfl, by rw [hops]; exact hT8, by have h9 := hgy.2.2; omega, fun p hp => ap8 p (.tail _ (.tail _ (.tail _ (.tail _ (.tail _ (.tail _ hp)))))), rfl, rfl, rfl⟩
          rcases List.mem_append.mp hp with hp | hp
          · exact hI _ (List.mem_append_left _ hp)
          · exact (ap8 (I, oi) (.tail _ (.tail _ (.tail _ (.tail _ (.tail _ (.head _)))))) p hp).symm
        · clear FF NN F NW hT hB hap hI m1 m2 m3
          rintro I2 hI02 v r m _ h tk oi2 ⟨tl, B, pre, rest, rfl, hr, hpre, hT, hB, hap, hI, m1, m2, m3, m4⟩ hI2 F N
          obtain _ | ⟨y, ty, hr'⟩ := hr
          rename_i rest
          have hgy := hgk.1 y (by rw [hpre]; simp)
          have hyl : y.length ≤ 500 := hgy.1
          have hpl : pre.length + 1 ≤ 8 := by have h8 := hgk.2.1; rw [hpre] at h8; simp at h8; omega
          replace F := fr_name4 F m1 m2 m3 m4
          have NX := news_front (news_front N (a := dx) (.tail _ (.tail _ (List.mem_append_left _ hdxf)))) (a := x) (.tail _ (.tail _ (.tail _ (List.mem_append_left _ hxf))))
          clear N
          k_steps
          refine Stop.out ?_
          refine' s_key ?k1 ?k2 ?k3 ?k4 ?k5 ?k6 ?k7 ?h0 ?_
          case k1 => k_asm
          case k2 => k_asm
          case k3 => k_asm
          case k4 => k_asm
          case k5 => (simp only [depth_deeper, depth_in1]; omega)
          case k6 => (simp only [Around.deeper_units, Around.in1_units]; omega)
          case k7 => assumption
          case h0 => omega
          intro D7 vs7 h7 tk7 F7 N7 ne7 hS7
          k_steps
          refine Stop.out ?_
          have ap7 : ∀ p ∈ (D7, ({ cls := .type "tuple", data := .seq vs7.toArray } : Obj)) :: (x, instObj 181 dx) :: (dx, dictOf (flagEs w root q t5 t6) 2) :: (I2, oi2) :: (I, oi) :: fx, ∀ r ∈ tl, p.1 ≠ r.1 := by
            intro p hp r hr
            rcases List.mem_cons.mp hp with rfl | hp
            · exact (ne7 r (.tail _ (.tail _ (.tail _ (.tail _ (List.mem_append_right _ hr)))))).symm
            rcases List.mem_cons.mp hp with rfl | hp
            · exact hap _ hxf r hr
            rcases List.mem_cons.mp hp with rfl | hp
            · exact hap _ hdxf r hr
            rcases List.mem_cons.mp hp with rfl | hp
            · exact (hI2 r (.tail _ (List.mem_append_right _ hr))).symm
            rcases List.mem_cons.mp hp with rfl | hp
            · exact (hI r (List.mem_append_right _ hr)).symm
            exact hap p hp r hr
          refine s_set (rec := false) (B := B) (ops := opsK W k ++ pre.map fun f => (keyF f, ((k : Nat) : Int), false)) (key := keyF y) (f := ((k : Nat) : Int)) (fx := (D7, ({ cls := .type "tuple", data := .seq vs7.toArray } : Obj)) :: (x, instObj 181 dx) :: (dx, dictOf (flagEs w root q t5 t6) 2) :: (I2, oi2) :: (I, oi) :: fx) (tl := tl) F7 N7 X T (by simp only [depth_deeper]; omega) (by simp only [Around.deeper_units]; omega) (by rfl) (.tail _ (.head _)) (.tail _ (.tail _ (.head _))) (.head _) ap7 hT (by have h9 := hgy.2.2; omega) hS7 (by have h9 := hgy.2.2; omega) hgy.2.1 ?_
          intro h8 tk8 tl8 F8 N8 ap8 hT8
          k_steps
          rename News _ _ _ _ => NN
          refine unr_end (by assumption) (news' := (I, oi) :: (fx ++ tl8)) (fun p hp => NN p (.tail _ (.tail _ (.tail _ hp)))) (fun p hp => ?_) (.tail _ (List.mem_append_left _ (hlsf _ e2))) ⟨tl8, B + (keyF y).length + 1, pre ++ [y], rest, rfl, hr', by rw [hpre, List.append_assoc]; rfl, by rw [List.map_append, ← List.append_assoc]; exact hT8, by rw [List.length_append, List.length_singleton]; have h9 := hgy.2.2; omega, fun p hp => ap8 p (.tail _ (.tail _ (.tail _ (.tail _ (.tail _ hp))))), fun p hp => ?_, rfl, rfl, rfl, rfl⟩
          · rcases List.mem_cons.mp hp with rfl | hp
            · exact hI2 _ (.head _)
            rcases List.mem_append.mp hp with hp | hp
            · exact hI2 _ (.tail _ (List.mem_append_left _ hp))
            · exact (ap8 (I2, oi2) (.tail _ (.tail _ (.tail _ (.head _)))) p hp).symm
          · rcases List.mem_append.mp hp with hp | hp
            · exact hI _ (List.mem_append_left _ hp)
            · exact (ap8 (I, oi) (.tail _ (.tail _ (.tail _ (.tail _ (.head _))))) p hp).symm
      · clear FH NH hrgB hT5 ap5
        rintro m _ h tk ⟨tl, B, rfl, hT, hB, hap, m1, m2, m3⟩ F N
        have hPx : ∀ k, k < 3 → ∃ t, pvs[k]? = some (.str (pick3 (pathF a0) (pathF a1) (pathF a2) default k) t) := fun k hk => strs_get hpS (pick3_some hk)
        have hC : FactsC (pick3 (pathF a0) (pathF a1) (pathF a2) default) W (opsK W 3) := by rw [← hWd]; exact facts3 ha0 ha1 ha2
        have hpP := pick3_strs (d := default) hpS
        clear hpS
        generalize pick3 (pathF a0) (pathF a1) (pathF a2) default = P at hPx hC hpP
        generalize opsK W 3 = ops at hT hC
        have hB' : B ≤ 1000 := by omega
        replace F := fr_name3 F m1 m2 m3
        k_steps
        refine Stop.out ?_
        rename IsRange _ _ _ _ _ _ _ _ => hrg1
        rename News _ _ _ _ => NN
        rename Fr _ _ _ _ => FF
        refine range3_inv (fun i m n => n = fx ++ tl ∧ m (PySem.Str.ofString "ways") = some (.ref WL) ∧ m (PySem.Str.ofString "flags") = some (.ref x) ∧ m (PySem.Str.ofString "paths") = some (.ref PL)) (by rfl) (by exact FF) (by exact NN) (by exact hrg1) ⟨rfl, rfl, rfl, rfl⟩ ?_ ?_
        rotate_left
        · clear FF NN hrg1 m1 m2 m3
          rintro I hI0 i tki m _ hh1 tkk oi hi ⟨rfl, m1, m2, m3⟩ hI F N
          replace F := fr_name3 F m1 m2 m3
          k_steps
          refine Stop.out ?_
          rename IsRange _ _ _ _ _ _ _ _ => hrg1
          rename News _ _ _ _ => NN
          rename Fr _ _ _ _ => FF
          refine range3_inv (fun j m n => n = (I, oi) :: (fx ++ tl) ∧ m (PySem.Str.ofString "ways") = some (.ref WL) ∧ m (PySem.Str.ofString "flags") = some (.ref x) ∧ m (PySem.Str.ofString "paths") = some (.ref PL) ∧ m (PySem.Str.ofString "i") = some (.int (i : Int) tki)) (by rfl) (by exact FF) (by exact NN) (by exact hrg1) ⟨rfl, rfl, rfl, rfl, rfl⟩ ?_ ?_
          · clear FF NN hrg1 m1 m2 m3
            rintro m _ h tk ⟨rfl, m1, m2, m3, m4⟩ F N
            replace F := fr_name3 F m1 m2 m3
            k_steps
            rename News _ _ _ _ => NN
            exact unr_end1 (by assumption) (news' := fx ++ tl) NN hI ⟨rfl, rfl, rfl, rfl⟩
          · clear FF NN hrg1 m1 m2 m3
            rintro I2 hI02 j tkj m _ hh2 tkk2 oi2 hj ⟨rfl, m1, m2, m3, m4⟩ hI2 F N
            obtain ⟨tpi, hpi⟩ := hPx i hi
            obtain ⟨tpj, hpj⟩ := hPx j hj
            obtain ⟨Wi, oiw, itsi, nki, xsi, a1', a2', a3', a4', a5', a6'⟩ := lsts_at (k := i) hls (hlenW i hi)
            obtain rfl := hWx i xsi hi a6'
            obtain ⟨Wj, ojw, itsj, nkj, xsj, b1', b2', b3', b4', b5', b6'⟩ := lsts_at (k := j) hls (hlenW j hj)
            obtain rfl := hWx j xsj hj b6'
            have hgi := hgW i hi
            have hgj := hgW j hj
            obtain ⟨z, tz, hgz, hzm⟩ : ∃ z t, itsj.getLast? = some (.str z t) ∧ (W j).getLast? = some z := by
              obtain ⟨z, t, h1, h2⟩ := strs_last b5' hgj.2.2
              exact ⟨z, t, h1, by rw [h2]; simp⟩
            have hgy := hgj.1 z (List.mem_of_getLast? hzm)
            have hyl : z.length ≤ 500 := hgy.1
            have hil : itsj.length ≤ 5000 := by rw [strs_len b5']; have h9 := hgj.2.1; omega
            obtain ⟨z2, tz2, hgz2, hzm2⟩ : ∃ z t, itsi.getLast? = some (.str z t) ∧ (W i).getLast? = some z := by
              obtain ⟨z, t, h1, h2⟩ := strs_last a5' hgi.2.2
              exact ⟨z, t, h1, by rw [h2]; simp⟩
            have hil2 : itsi.length ≤ 5000 := by rw [strs_len a5']; have h9 := hgi.2.1; omega
            have hok := hC.ok i j hi hj
            have hlast := hC.last i j hi hj
            have hisr := hC.isr i j hi hj
            replace F := fr_name4 F m1 m2 m3 m4
            have NX := news_front (news_front (news_front (news_front (news_front (news_front N (a := Wi) (.tail _ (.tail _ (List.mem_append_left _ (hlsf _ a2'))))) (a := Wj) (.tail _ (.tail _ (.tail _ (List.mem_append_left _ (hlsf _ b2')))))) (a := WL) (.tail _ (.tail _ (.tail _ (.tail _ (List.mem_append_left _ hWLf)))))) (a := PL) (.tail _ (.tail _ (.tail _ (.tail _ (.tail _ (List.mem_append_left _ hPLf))))))) (a := dx) (.tail _ (.tail _ (.tail _ (.tail _ (.tail _ (.tail _ (List.mem_append_left _ hdxf)))))))) (a := x) (.tail _ (.tail _ (.tail _ (.tail _ (.tail _ (.tail _ (.tail _ (List.mem_append_left _ hxf))))))))
            clear N
            k_steps
            refine Stop.out (s_common (by assumption) (by assumption) X T (by simp only [depth_deeper]; omega) (by simp only [Around.deeper_units]; omega) (by rfl) (.head _) rfl rfl (.cons _ _ (.cons _ _ .nil)) hok fun tc hc1 tkc F1 N1 => ?_)
            k_steps
            refine Stop.out (s_last (tl := tl) (fs := W j) (lof := ojw) (by assumption) (by assumption) X T (by simp only [depth_deeper]; omega) (by simp only [Around.deeper_units]; omega) (by rfl) (.tail _ (.tail _ (.head _))) (.tail _ (.tail _ (.tail _ (.head _)))) (.tail _ (.tail _ (.tail _ (.tail _ (.tail _ (.tail _ (.head _))))))) (.head _) (fun p hp => .tail _ (.tail _ (.tail _ (.tail _ (.tail _ (.tail _ (.tail _ (.tail _ (.tail _ (.tail _ (List.mem_append_right _ hp))))))))))) hT hB' b3' b4' b5' (by have h9 := hgj.2.1; omega) (fun f hf => ⟨(hgj.1 f hf).1, (hgj.1 f hf).2.1⟩) (.cons _ _ .nil) (by rw [List.length_singleton]; omega) fun tl1 hl1 tkl Fl Nl => ?_)
            k_steps
            refine Stop.out (ne_same hlast ?_)
            k_steps
            refine Stop.out (last_L (by assumption) (.tail _ (.tail _ (.tail _ (.tail _ (.tail _ (.tail _ (.head _))))))) b3' b4' hil hgz ?_ (by with_unfolding_all rfl))
            k_steps
            refine Stop.out ?_
            refine' s_key ?k1 ?k2 ?k3 ?k4 ?k5 ?k6 ?k7 ?h0 ?_
            case k1 => k_asm
            case k2 => k_asm
            case k3 => k_asm
            case k4 => k_asm
            case k5 => (simp only [depth_deeper, depth_in1]; omega)
            case k6 => (simp only [Around.deeper_units, Around.in1_units]; omega)
            case k7 => assumption
            case h0 => omega
            intro D7 vs7 h7 tk7 F7 N7 ne7 hS7
            k_steps
            refine Stop.out (s_is (tl := tl) (key := keyF z) (by assumption) (by assumption) X T (by simp only [depth_deeper]; omega) (by simp only [Around.deeper_units]; omega) (by rfl) (.tail _ (.tail _ (.tail _ (.head _)))) (.tail _ (.tail _ (.tail _ (.tail _ (.head _))))) (.head _) (fun p hp => .tail _ (.tail _ (.tail _ (.tail _ (.tail _ (.tail _ (.tail _ (.tail _ (.tail _ (.tail _ (.tail _ (List.mem_append_right _ hp)))))))))))) hT hB' hS7 (by have h9 := hgy.2.2; omega) hgy.2.1 fun h8 tk8 F8 N8 => ?_)
            k_steps
            refine Stop.out (last_L (by assumption) (.tail _ (.tail _ (.tail _ (.tail _ (.tail _ (.tail _ (.tail _ (.tail _ (.head _))))))))) a3' a4' hil2 hgz2 ?_ (by with_unfolding_all rfl))
            have hzl : lstF (W j) = z := by rw [lstF, hzm]; rfl
            have hzl2 : lstF (W i) = z2 := by rw [lstF, hzm2]; rfl
            rw [hzl, hzl2] at hisr
            k_steps
            · exfalso
              rename (isO _ _ _ != _) = true => hx
              rw [hisr] at hx
              simp at hx
            · rename News _ _ _ _ => NN
              exact unr_end1 (by assumption) (news' := (I, oi) :: (fx ++ tl)) (fun p hp => NN p (.tail _ (.tail _ (.tail _ (.tail _ (.tail _ (.tail _ (.tail _ (.tail _ (.tail _ hp)))))))))) hI2 ⟨rfl, rfl, rfl, rfl, rfl⟩
        · clear FF NN hrg1 m1 m2 m3
          rintro m _ h tk ⟨rfl, m1, m2, m3⟩ F N
          replace F := fr_name3 F m1 m2 m3
          have NX := news_front (news_front (news_front (news_front N (a := WL) (List.mem_append_left _ hWLf)) (a := PL) (.tail _ (List.mem_append_left _ hPLf))) (a := dx) (.tail _ (.tail _ (List.mem_append_left _ hdxf)))) (a := x) (.tail _ (.tail _ (.tail _ (List.mem_append_left _ hxf))))
          clear N
          k_steps
          refine Stop.out (s_common (by assumption) (by assumption) X T (by simp only [depth_deeper]; omega) (by simp only [Around.deeper_units]; omega) (by rfl) (.tail _ (.tail _ (.head _))) rfl rfl hpP hC.okP fun tc hc1 tkc F1 N1 => ?_)
          k_steps
          rename_i hE FE NE
          rename Nat => tkE
          refine Stop.out (rev_raw (s := { s₁ with heap := hE, toks := tkE + 1 + 1 }) FE NE (.tail _ (.tail _ (.head _))) rfl rfl hpP (fun Dr wsr hr FR NR hpR => ?_) (by with_unfolding_all rfl) (by kmk_pure))
          clear F1 N1
          k_steps
          refine Stop.out (s_common (by assumption) (by assumption) X T (by simp only [depth_deeper]; omega) (by simp only [Around.deeper_units]; omega) (by rfl) (.head _) rfl rfl hpR hC.okR fun tc2 hc2 tkc2 F2 N2 => ?_)
          k_steps
          refine Stop.out (ne_same hC.comR ?_)
          obtain ⟨W2, o2, its2, nk2, xs2, b1', b2', b3', b4', b5', b6'⟩ := lsts_at (k := 2) hls (hlenW 2 (by decide))
          obtain rfl := hWx 2 xs2 (by decide) b6'
          have hg2 := hgW 2 (by decide)
          have N3 := news_front N2 (a := W2) (.tail _ (.tail _ (.tail _ (.tail _ (.tail _ (List.mem_append_left _ (hlsf _ b2')))))))
          clear N2
          k_steps
          refine Stop.out (item_L 2 N3 (.tail _ (.tail _ (.tail _ (.tail _ (.tail _ (.head _)))))) rfl rfl (by rfl) (by omega) b1' ?_ (by with_unfolding_all rfl))
          k_steps
          refine Stop.out (s_last (tl := tl) (fs := W 2) (lof := o2) (by assumption) (by assumption) X T (by simp only [depth_deeper]; omega) (by simp only [Around.deeper_units]; omega) (by rfl) (.tail _ (.tail _ (.tail _ (.head _)))) (.tail _ (.tail _ (.tail _ (.tail _ (.head _))))) (.tail _ (.head _)) (.head _) (fun p hp => .tail _ (.tail _ (.tail _ (.tail _ (.tail _ (.tail _ (.tail _ (List.mem_append_right _ hp)))))))) hT hB' b3' b4' b5' (by have h9 := hg2.2.1; omega) (fun f hf => ⟨(hg2.1 f hf).1, (hg2.1 f hf).2.1⟩) (.cons _ _ (.cons _ _ (.cons _ _ .nil))) (by decide) fun tl1 hl1 tkl Fl Nl => ?_)
          k_steps
          refine Stop.out (ne_same hC.last3 ?_)
          clear b1' b2' b3' b4' b5' b6' hg2
          k_steps
          rename Fr _ _ _ _ => FQ
          rename News _ _ _ _ => NQ
          have hPQ : ((211 : Addr), PySem.W.tabObj #[]) ∈ fx ++ tl := List.mem_append_left _ h211f
          have NFT : News _ _ _ (fx ++ tl) := news_sub NQ (fun p hp => .tail _ (.tail _ (.tail _ (.tail _ (.tail _ (.tail _ (.tail _ hp)))))))
          have hlc := lsts_cls hls
          have hsubR : ∀ p ∈ (x, instObj 181 dx) :: (dx, dictOf (flagEs w root q t5 t6) 2) :: (PL, ({ cls := .type "list", data := .seq pvs.toArray n1 } : Obj)) :: (WL, ({ cls := .type "list", data := .seq wvs.toArray n2 } : Obj)) :: (D, PySem.W.listOf ws.toArray 0) :: (s₁.heap.objs.size + 1, oc') :: (lsW ++ tl), p ∈ fx ++ tl ∧ (p ∈ tl ∨ p.2 ≠ PySem.W.tabObj #[]) := by
            intro p hp
            rcases List.mem_cons.mp hp with rfl | hp
            · exact ⟨List.mem_append_left _ hxf, .inr fun e => by cases e⟩
            rcases List.mem_cons.mp hp with rfl | hp
            · exact ⟨List.mem_append_left _ hdxf, .inr fun e => by cases e⟩
            rcases List.mem_cons.mp hp with rfl | hp
            · exact ⟨List.mem_append_left _ hPLf, .inr fun e => by cases e⟩
            rcases List.mem_cons.mp hp with rfl | hp
            · exact ⟨List.mem_append_left _ hWLf, .inr fun e => by cases e⟩
            rcases List.mem_cons.mp hp with rfl | hp
            · exact ⟨List.mem_append_left _ hDf, .inr fun e => by cases e⟩
            rcases List.mem_cons.mp hp with rfl | hp
            · exact ⟨List.mem_append_left _ hcellf, .inr (data_ne (by rw [dC1]; intro e; cases e))⟩
            rcases List.mem_append.mp hp with hp | hp
            · exact ⟨List.mem_append_left _ (hlsf p hp), .inr (cls_ne (hlc p hp) (by intro e; cases e))⟩
            · exact ⟨List.mem_append_right _ hp, .inl hp⟩
          have hneR : ∀ p ∈ (x, instObj 181 dx) :: (dx, dictOf (flagEs w root q t5 t6) 2) :: (PL, ({ cls := .type "list", data := .seq pvs.toArray n1 } : Obj)) :: (WL, ({ cls := .type "list", data := .seq wvs.toArray n2 } : Obj)) :: (D, PySem.W.listOf ws.toArray 0) :: (s₁.heap.objs.size + 1, oc') :: (lsW ++ tl), p.1 ≠ 211 := by
            intro p hp
            rcases hsubR p hp with ⟨h1, h2 | h2⟩
            · exact (hap _ h211f p h2).symm
            · exact ne_tab NFT hPQ h1 h2
          have NL : News _ _ _ (((211 : Addr), PySem.W.tabObj #[]) :: (x, instObj 181 dx) :: (dx, dictOf (flagEs w root q t5 t6) 2) :: (PL, ({ cls := .type "list", data := .seq pvs.toArray n1 } : Obj)) :: (WL, ({ cls := .type "list", data := .seq wvs.toArray n2 } : Obj)) :: (D, PySem.W.listOf ws.toArray 0) :: (s₁.heap.objs.size + 1, oc') :: (lsW ++ tl)) := news_sub NFT (fun p hp => by
            rcases List.mem_cons.mp hp with rfl | hp
            · exact hPQ
            · exact (hsubR p hp).1)
          clear NQ NFT
          refine PySem.W.kla_eval rfl ?_
          refine PySem.W.kla_nest FQ NL T codeHd rfl (PySem.W.UpdF.head hneR) True.intro rfl rfl fun f1 c1 oc1 cvs1 qt1 ctv1 h1 tk1' FQ1 NQ1 hcd1 hcv1 lt1 lt1' => ?_
          clear NL FQ
          dsimp only at NQ1
          k_steps
          refine Stop.out (s_reduce1 (by assumption) (by assumption) X T (by simp only [depth_deeper]; omega) (by simp only [Around.deeper_units]; omega) (by rfl) (.head _) (.tail _ (.head _)) hcd1 hcv1 (.tail _ (.tail _ (.tail _ (.tail _ (.tail _ (.head _)))))) rfl rfl hpP (hC.ok 0 1 (by decide) (by decide)) hC.ok1 fun tr1 hr1 tkr1 FR1 NR1 => ?_)
          have n211c : (c1 : Addr) ≠ 211 := Nat.ne_of_gt (lt1 _ (.head _))
          have n211f : (f1 : Addr) ≠ 211 := Nat.ne_of_gt (Nat.lt_trans (lt1 _ (.head _)) lt1')
          clear FQ1 NQ1
          k_steps
          refine Stop.out (ne_same hC.red1 ?_)
          k_steps
          rename Fr _ _ _ _ => FQ
          rename News _ _ _ _ => NQ
          refine PySem.W.kla_eval rfl ?_
          refine PySem.W.kla_nest FQ (news_sub NQ (fun p hp => .tail _ (.tail _ hp))) T codeHd rfl (PySem.W.UpdF.head hneR) (by kn_triples) (by kn_among) rfl fun f2 c2 oc2 cvs2 qt2 ctv2 hL2 tkL2 FQ2 NQ2 hcd2 hcv2 lt2 lt2' => ?_
          clear NQ FQ lt1 lt1' n211c n211f hcd1 hcv1
          dsimp only at NQ2
          k_steps
          refine Stop.out (rev_raw (s := { s₁ with heap := hL2, toks := tkL2 + 1 + 1 }) FQ2 NQ2 (.tail _ (.tail _ (.tail _ (.tail _ (.tail _ (.head _)))))) rfl rfl hpP (fun Dr2 wsr2 hr2 FR2 NR2 hpR2 => ?_) (by with_unfolding_all rfl) (by kmk_pure))
          clear FQ2 NQ2
          k_steps
          refine Stop.out (s_reduce2 (by assumption) (by assumption) X T (by simp only [depth_deeper]; omega) (by simp only [Around.deeper_units]; omega) (by rfl) (.tail _ (.head _)) (.tail _ (.tail _ (.head _))) hcd2 hcv2 (.head _) rfl rfl hpR2 (hC.ok 1 2 (by decide) (by decide)) hC.ok2 fun tr2 hr3 tkr2 FR3 NR3 => ?_)
          clear FR2 NR2
          k_steps
          refine Stop.out (ne_same hC.red2 ?_)
          clear lt2 lt2' hcd2 hcv2 hpR2 hneR hPQ
          obtain ⟨W0, o0, its0, nk0, xs0, b1', b2', b3', b4', b5', b6'⟩ := lsts_at (k := 0) hls (hlenW 0 (by decide))
          obtain rfl := hWx 0 xs0 (by decide) b6'
          have hg0 := hgW 0 (by decide)
          obtain ⟨z0, tz0, hgz0, hzm0⟩ : ∃ z t, its0.getLast? = some (.str z t) ∧ (W 0).getLast? = some z := by
            obtain ⟨z, t, h1, h2⟩ := strs_last b5' hg0.2.2
            exact ⟨z, t, h1, by rw [h2]; simp⟩
          have hil0 : its0.length ≤ 5000 := by rw [strs_len b5']; have h9 := hg0.2.1; omega
          have NS : News _ _ _ ((W0, o0) :: (D, PySem.W.listOf ws.toArray 0) :: (s₁.heap.objs.size + 1, oc') :: (x, instObj 181 dx) :: (dx, dictOf (flagEs w root q t5 t6) 2) :: (PL, ({ cls := .type "list", data := .seq pvs.toArray n1 } : Obj)) :: (WL, ({ cls := .type "list", data := .seq wvs.toArray n2 } : Obj)) :: ((211 : Addr), _) :: (lsW ++ tl)) := news_sub NR3 (fun p hp => by
            rcases List.mem_cons.mp hp with rfl | hp
            · exact .tail _ (.tail _ (.tail _ (.tail _ (.tail _ (.tail _ (.tail _ (.tail _ (.tail _ (.tail _ (List.mem_append_left _ b2'))))))))))
            rcases List.mem_cons.mp hp with rfl | hp
            · exact .tail _ (.tail _ (.tail _ (.tail _ (.tail _ (.tail _ (.tail _ (.tail _ (.head _))))))))
            rcases List.mem_cons.mp hp with rfl | hp
            · exact .tail _ (.tail _ (.tail _ (.tail _ (.tail _ (.tail _ (.tail _ (.tail _ (.tail _ (.head _)))))))))
            rcases List.mem_cons.mp hp with rfl | hp
            · exact .tail _ (.tail _ (.tail _ (.tail _ (.head _))))
            rcases List.mem_cons.mp hp with rfl | hp
            · exact .tail _ (.tail _ (.tail _ (.tail _ (.tail _ (.head _)))))
            rcases List.mem_cons.mp hp with rfl | hp
            · exact .tail _ (.tail _ (.tail _ (.tail _ (.tail _ (.tail _ (.head _))))))
            rcases List.mem_cons.mp hp with rfl | hp
            · exact .tail _ (.tail _ (.tail _ (.tail _ (.tail _ (.tail _ (.tail _ (.head _)))))))
            rcases List.mem_cons.mp hp with rfl | hp
            · exact .tail _ (.tail _ (.tail _ (.head _)))
            exact .tail _ (.tail _ (.tail _ (.tail _ (.tail _ (.tail _ (.tail _ (.tail _ (.tail _ (.tail _ hp))))))))))
          clear NR3
          k_steps
          refine Stop.out (item_L 0 NS (.tail _ (.tail _ (.tail _ (.tail _ (.tail _ (.tail _ (.head _))))))) rfl rfl (by rfl) (by omega) b1' ?_ (by with_unfolding_all rfl))
          k_steps
          refine Stop.out (last_L (by assumption) (.head _) b3' b4' hil0 hgz0 ?_ (by with_unfolding_all rfl))
          k_steps
          refine Stop.out ?_
          refine wpAny_mono (Q := fun f s' => Stop (f = .next ∧ ∃ g tg h tk arr m', g ∈ W 0 ∧ s' = { s₁ with heap := h, toks := tk } ∧ Fr (ghostOf s₁.heap [(213, 211)]) s₁.heap.objs.size h m' ∧ m' (PySem.Str.ofString "ways") = some (.ref WL) ∧ m' (PySem.Str.ofString "flags") = some (.ref x) ∧ m' (PySem.Str.ofString "paths") = some (.ref PL) ∧ m' (PySem.Str.ofString "freed") = some (.str g tg) ∧
            News (ghostOf s₁.heap [(213, 211)]) s₁.heap.objs.size h ((x, instObj 181 dx) :: (dx, dictOf (flagEs w root q t5 t6) 2) :: (PL, ({ cls := .type "list", data := .seq pvs.toArray n1 } : Obj)) :: (WL, ({ cls := .type "list", data := .seq wvs.toArray n2 } : Obj)) :: ((211 : Addr), PySem.W.tabObj arr) :: (lsW ++ tl)))) ?_ ?_ (fun _ _ e => e)
          · clear hC hPx hgW hlsf hap hT
            have hdone : IfDone := trivial
            have hzz : z0 ∈ W 0 := List.mem_of_getLast? hzm0
            k_steps
            · refine Stop.out (item_L 0 (by assumption) (.tail _ (.tail _ (.tail _ (.tail _ (.tail _ (.tail _ (.tail _ (.head _)))))))) rfl rfl (by rfl) (by omega) b1' ?_ (by with_unfolding_all rfl))
              dsimp only
              walk1
              refine len_L (by assumption) (.tail _ (.head _)) b3' b4' hil0 ?_
              dsimp only
              k_steps
              · rename 1 < _ => h1l
                obtain ⟨g0, tg0, hg0v, hg0m⟩ := strs_two b5' (by omega)
                refine Stop.out (item_L 0 (by assumption) (.tail _ (.tail _ (.tail _ (.tail _ (.tail _ (.tail _ (.tail _ (.head _)))))))) rfl rfl (by rfl) (by omega) b1' ?_ (by with_unfolding_all rfl))
                dsimp only
                k_steps
                refine Stop.out (neg2_L (by assumption) (.tail _ (.head _)) b3' b4' hil0 (by omega) hg0v ?_ (by with_unfolding_all rfl))
                dsimp only
                k_steps
                rename News _ _ _ _ => NN
                rename Fr _ _ _ _ => FF
                exact Stop.out ⟨rfl, _, _, _, _, _, _, hg0m, rfl, FF, rfl, rfl, rfl, rfl, news_sub NN fun p hp => .tail _ (.tail _ (.tail _ (.tail _ hp)))⟩
              · rename News _ _ _ _ => NN
                rename Fr _ _ _ _ => FF
                exact Stop.out ⟨rfl, _, _, _, _, _, _, hzz, rfl, FF, rfl, rfl, rfl, rfl, news_sub NN fun p hp => .tail _ (.tail _ (.tail _ (.tail _ hp)))⟩
            · rename News _ _ _ _ => NN
              rename Fr _ _ _ _ => FF
              exact Stop.out ⟨rfl, _, _, _, _, _, _, hzz, rfl, FF, rfl, rfl, rfl, rfl, news_sub NN fun p hp => .tail _ (.tail _ (.tail _ (.tail _ hp)))⟩
          · clear b3' b4' b5' b6' hil0 hgz0
            rename Fr _ _ _ _ => FQ
            rename News _ _ _ _ => NQ
            clear FQ NQ
            rintro f s' ⟨rfl, g, tg, h, tk, arr, m, hg, rfl, F, m1, m2, m3, m4, N⟩
            replace F := fr_name4 F m1 m2 m3 m4
            k_steps
            have hgg := hg0.1 g hg
            have hgl : g.length ≤ 500 := hgg.1
            refine Stop.out ?_
            refine' s_key ?k1 ?k2 ?k3 ?k4 ?k5 ?k6 ?k7 ?h0 ?_
            case k1 => k_asm
            case k2 => k_asm
            case k3 => k_asm
            case k4 => k_asm
            case k5 => (simp only [depth_deeper, depth_in1]; omega)
            case k6 => (simp only [Around.deeper_units, Around.in1_units]; omega)
            case k7 => assumption
            case h0 => omega
            intro D7 vs7 h7 tk7 F7 N7 ne7 hS7
            k_steps
            refine Stop.out ?_
            have ap7 : ∀ p ∈ (D7, ({ cls := .type "tuple", data := .seq vs7.toArray } : Obj)) :: (x, instObj 181 dx) :: (dx, dictOf (flagEs w root q t5 t6) 2) :: (PL, ({ cls := .type "list", data := .seq pvs.toArray n1 } : Obj)) :: (WL, ({ cls := .type "list", data := .seq wvs.toArray n2 } : Obj)) :: ((211 : Addr), PySem.W.tabObj arr) :: lsW, ∀ r ∈ tl, p.1 ≠ r.1 := by
              intro p hp r hr
              rcases List.mem_cons.mp hp with rfl | hp
              · exact (ne7 r (.tail _ (.tail _ (.tail _ (.tail _ (.tail _ (List.mem_append_right _ hr))))))).symm
              rcases List.mem_cons.mp hp with rfl | hp
              · exact hap _ hxf r hr
              rcases List.mem_cons.mp hp with rfl | hp
              · exact hap _ hdxf r hr
              rcases List.mem_cons.mp hp with rfl | hp
              · exact hap _ hPLf r hr
              rcases List.mem_cons.mp hp with rfl | hp
              · exact hap _ hWLf r hr
              rcases List.mem_cons.mp hp with rfl | hp
              · exact hap _ h211f r hr
              exact hap p (hlsf p hp) r hr
            refine s_unset (B := B) (ops := ops) (key := keyF g) (fx := (D7, ({ cls := .type "tuple", data := .seq vs7.toArray } : Obj)) :: (x, instObj 181 dx) :: (dx, dictOf (flagEs w root q t5 t6) 2) :: (PL, ({ cls := .type "list", data := .seq pvs.toArray n1 } : Obj)) :: (WL, ({ cls := .type "list", data := .seq wvs.toArray n2 } : Obj)) :: ((211 : Addr), PySem.W.tabObj arr) :: lsW) (tl := tl) F7 N7 X T (by simp only [depth_deeper]; omega) (by simp only [Around.deeper_units]; omega) (by rfl) (.tail _ (.head _)) (.tail _ (.tail _ (.head _))) (.head _) ap7 hT hB' hS7 (by have h9 := hgg.2.2; omega) hgg.2.1 (hC.cut g 0 0 g hg (by decide) (by decide) hg).1 ?_
            intro h8 tk8 tl8 F8 N8 hT8
            k_steps
            refine Stop.out ?_
            rename IsRange _ _ _ _ _ _ _ _ => hrg1
            rename News _ _ _ _ => NN
            rename Fr _ _ _ _ => FF
            have hfy : ∃ fy, News _ _ _ (fy ++ tl8) ∧ (x, instObj 181 dx) ∈ fy ∧ (dx, dictOf (flagEs w root q t5 t6) 2) ∈ fy ∧ (PL, ({ cls := .type "list", data := .seq pvs.toArray n1 } : Obj)) ∈ fy ∧ (WL, ({ cls := .type "list", data := .seq wvs.toArray n2 } : Obj)) ∈ fy ∧ ((211 : Addr), PySem.W.tabObj arr) ∈ fy ∧ (∀ p ∈ lsW, p ∈ fy) :=
              ⟨(D7, ({ cls := .type "tuple", data := .seq vs7.toArray } : Obj)) :: (x, instObj 181 dx) :: (dx, dictOf (flagEs w root q t5 t6) 2) :: (PL, ({ cls := .type "list", data := .seq pvs.toArray n1 } : Obj)) :: (WL, ({ cls := .type "list", data := .seq wvs.toArray n2 } : Obj)) :: ((211 : Addr), PySem.W.tabObj arr) :: lsW, NN, .tail _ (.head _), .tail _ (.tail _ (.head _)), .tail _ (.tail _ (.tail _ (.head _))), .tail _ (.tail _ (.tail _ (.tail _ (.head _)))), .tail _ (.tail _ (.tail _ (.tail _ (.tail _ (.head _))))), fun p hp => .tail _ (.tail _ (.tail _ (.tail _ (.tail _ (.tail _ hp)))))⟩
            obtain ⟨fy, NY, y1, y2, y3, y4, y5, y6⟩ := hfy
            clear NN hS7 ne7 hap
            refine range3_inv (fun i m n => n = fy ++ tl8 ∧ m (PySem.Str.ofString "ways") = some (.ref WL) ∧ m (PySem.Str.ofString "flags") = some (.ref x) ∧ m (PySem.Str.ofString "paths") = some (.ref PL) ∧ m (PySem.Str.ofString "freed") = some (.str g tg)) (by rfl) (by exact FF) (by exact NY) (by exact hrg1) ⟨rfl, rfl, rfl, rfl, rfl⟩ ?_ ?_
            · clear FF NY hrg1 m1 m2 m3 m4
              rintro m _ h tk ⟨rfl, m1, m2, m3, m4⟩ F N
              k_steps
              exact ⟨rfl, _, _, _, rfl, F.keep, (N _ (List.mem_append_left _ y5)).1⟩
            · clear FF NY hrg1 m1 m2 m3 m4
              rintro I hI0 i tki m _ hh1 tkk oi hi ⟨rfl, m1, m2, m3, m4⟩ hI F N
              replace F := fr_name4 F m1 m2 m3 m4
              k_steps
              refine Stop.out ?_
              rename News _ _ _ _ => NN
              rename Fr _ _ _ _ => FF
              refine list_inv (ax := WL) (lo := ({ cls := .type "list", data := .seq wvs.toArray n2 } : Obj)) (vs := wvs) (fun rem m n => n = (I, oi) :: (fy ++ tl8) ∧ (∃ lsr xss, LstsAre lsr rem xss ∧ (∀ p ∈ lsr, p ∈ fy) ∧ (∀ xs ∈ xss, ∃ k, k < 3 ∧ xs = W k)) ∧ m (PySem.Str.ofString "ways") = some (.ref WL) ∧ m (PySem.Str.ofString "flags") = some (.ref x) ∧ m (PySem.Str.ofString "paths") = some (.ref PL) ∧ m (PySem.Str.ofString "freed") = some (.str g tg) ∧ m (PySem.Str.ofString "i") = some (.int (i : Int) tki)) (by rfl) (by exact FF) (by exact NN) (.tail _ (List.mem_append_left _ y4)) rfl rfl ⟨rfl, ⟨lsW, WW, hls, y6, hWmem⟩, rfl, rfl, rfl, rfl, rfl⟩ ?_ ?_
              · clear FF NN m1 m2 m3 m4
                rintro m _ h tk ⟨rfl, _, m1, m2, m3, m4, m5⟩ F N
                k_steps
                rename News _ _ _ _ => NN
                exact unr_end1 (by assumption) (news' := fy ++ tl8) NN hI ⟨rfl, m1, m2, m3, m4⟩
              · clear FF NN m1 m2 m3 m4
                rintro I2 hI02 v r m _ h tk oi2 ⟨rfl, ⟨lsr, xss, hr, hlr, hxs⟩, m1, m2, m3, m4, m5⟩ hI2 F N
                obtain _ | ⟨r1, r2, r3, hr'⟩ := hr
                rename_i T3 o3 its3 n3 xs3 ls3 xss3
                obtain ⟨k, hk, rfl⟩ := hxs xs3 (.head _)
                have hgk := hgW k hk
                replace F := fr_name5 F m1 m2 m3 m4 m5
                k_steps
                refine Stop.out ?_
                rename News _ _ _ _ => NN
                rename Fr _ _ _ _ => FF
                have hr3m : ∀ f ∈ W k, f ∈ W k := fun f hf => hf
                refine list_inv (ax := T3) (lo := o3) (vs := its3) (fun rem m n => n = (I2, oi2) :: (I, oi) :: (fy ++ tl8) ∧ (∃ rest, StrsAre rem rest ∧ ∀ f ∈ rest, f ∈ W k) ∧ m (PySem.Str.ofString "ways") = some (.ref WL) ∧ m (PySem.Str.ofString "flags") = some (.ref x) ∧ m (PySem.Str.ofString "paths") = some (.ref PL) ∧ m (PySem.Str.ofString "freed") = some (.str g tg) ∧ m (PySem.Str.ofString "i") = some (.int (i : Int) tki)) (by rfl) (by exact FF) (by exact NN) (.tail _ (.tail _ (List.mem_append_left _ (hlr _ (.head _))))) r1 r2 ⟨rfl, ⟨W k, r3, hr3m⟩, rfl, rfl, rfl, rfl, rfl⟩ ?_ ?_
                · clear FF NN m1 m2 m3 m4 m5
                  rintro m _ h tk ⟨rfl, _, m1, m2, m3, m4, m5⟩ F N
                  k_steps
                  rename News _ _ _ _ => NN
                  exact unr_end (by assumption) (news' := (I, oi) :: (fy ++ tl8)) NN hI2 (.tail _ (List.mem_append_left _ y4)) ⟨rfl, ⟨ls3, xss3, hr', fun p hp => hlr p (.tail _ hp), fun xs hx => hxs xs (.tail _ hx)⟩, m1, m2, m3, m4, m5⟩
                · clear FF NN m1 m2 m3 m4 m5
                  rintro I3 hI03 v r m _ h tk oi3 ⟨rfl, ⟨rest, hr, hrm⟩, m1, m2, m3, m4, m5⟩ hI3 F N
                  obtain _ | ⟨y, ty, hrr⟩ := hr
                  rename_i rest
                  have hyW := hrm y (.head _)
                  obtain ⟨hcut1, hcut2, hcut3, hcut⟩ := hC.cut g k i y hg hk hi hyW
                  clear hcut1
                  have hgy := hgk.1 y hyW
                  have hyl : y.length ≤ 500 := hgy.1
                  obtain ⟨tpi, hpi⟩ := hPx i hi
                  replace F := fr_name5 F m1 m2 m3 m4 m5
                  have NX := news_front (news_front (news_front N (a := PL) (.tail _ (.tail _ (.tail _ (List.mem_append_left _ y3))))) (a := dx) (.tail _ (.tail _ (.tail _ (.tail _ (List.mem_append_left _ y2)))))) (a := x) (.tail _ (.tail _ (.tail _ (.tail _ (.tail _ (List.mem_append_left _ y1))))))
                  clear N
                  k_steps
                  refine Stop.out (s_common (by assumption) (by assumption) X T (by simp only [depth_deeper]; omega) (by simp only [Around.deeper_units]; omega) (by rfl) (.head _) rfl rfl (.cons _ _ (.cons _ _ .nil)) hcut2 fun tc hc1 tkc F1 N1 => ?_)
                  k_steps
                  · rename (comF _ == _) = true => hd1
                    refine Stop.out (s_common (by assumption) (by assumption) X T (by simp only [depth_deeper]; omega) (by simp only [Around.deeper_units]; omega) (by rfl) (.head _) rfl rfl (.cons _ _ (.cons _ _ .nil)) hcut3 fun tc2 hc2 tkc2 F2 N2 => ?_)
                    k_steps
                    refine Stop.out (ne_any ?_)
                    rw [hd1, Bool.true_and] at hcut
                    k_steps
                    refine Stop.out ?_
                    refine' s_key ?k1 ?k2 ?k3 ?k4 ?k5 ?k6 ?k7 ?h0 ?_
                    case k1 => k_asm
                    case k2 => k_asm
                    case k3 => k_asm
                    case k4 => k_asm
                    case k5 => (simp only [depth_deeper, depth_in1]; omega)
                    case k6 => (simp only [Around.deeper_units, Around.in1_units]; omega)
                    case k7 => assumption
                    case h0 => omega
                    intro D7 vs7 h7 tk7 F7 N7 ne7 hS7
                    k_steps
                    refine Stop.out (s_is (tl := tl8) (key := keyF y) (by assumption) (by assumption) X T (by simp only [depth_deeper]; omega) (by simp only [Around.deeper_units]; omega) (by rfl) (.tail _ (.tail _ (.tail _ (.head _)))) (.tail _ (.tail _ (.tail _ (.tail _ (.head _))))) (.head _) (fun p hp => (.tail _ (.tail _ (.tail _ (.tail _ (.tail _ (.tail _ (.tail _ (.tail _ (.tail _ (List.mem_append_right _ hp))))))))))) hT8 hB' hS7 (by have h9 := hgy.2.2; omega) hgy.2.1 fun h8 tk8 F8 N8 => ?_)
                    rw [hcut]
                    k_steps
                    · exfalso
                      rename (_ != _) = true => hx
                      simp at hx
                    · rename News _ _ _ _ => NN
                      exact unr_end (by assumption) (news' := (I2, oi2) :: (I, oi) :: (fy ++ tl8)) (fun p hp => NN p (.tail _ (.tail _ (.tail _ (.tail _ (.tail _ (.tail _ hp))))))) hI3 (.tail _ (.tail _ (List.mem_append_left _ (hlr _ (.head _))))) ⟨rfl, ⟨rest, hrr, fun f hf => hrm f (.tail _ hf)⟩, rfl, rfl, rfl, rfl, rfl⟩
                  · rename (comF _ == _) = false => hd1
                    rw [hd1, Bool.false_and] at hcut
                    refine Stop.out ?_
                    refine' s_key ?k1 ?k2 ?k3 ?k4 ?k5 ?k6 ?k7 ?h0 ?_
                    case k1 => k_asm
                    case k2 => k_asm
                    case k3 => k_asm
                    case k4 => k_asm
                    case k5 => (simp only [depth_deeper, depth_in1]; omega)
                    case k6 => (simp only [Around.deeper_units, Around.in1_units]; omega)
                    case k7 => assumption
                    case h0 => omega
                    intro D7 vs7 h7 tk7 F7 N7 ne7 hS7
                    k_steps
                    refine Stop.out (s_is (tl := tl8) (key := keyF y) (by assumption) (by assumption) X T (by simp only [depth_deeper]; omega) (by simp only [Around.deeper_units]; omega) (by rfl) (.tail _ (.tail _ (.head _))) (.tail _ (.tail _ (.tail _ (.head _)))) (.head _) (fun p hp => (.tail _ (.tail _ (.tail _ (.tail _ (.tail _ (.tail _ (.tail _ (.tail _ (List.mem_append_right _ hp)))))))))) hT8 hB' hS7 (by have h9 := hgy.2.2; omega) hgy.2.1 fun h8 tk8 F8 N8 => ?_)
                    rw [hcut]
                    k_steps
                    · exfalso
                      rename (_ != _) = true => hx
                      rw [hd1] at hx; simp at hx
                    · rename News _ _ _ _ => NN
                      exact unr_end (by assumption) (news' := (I2, oi2) :: (I, oi) :: (fy ++ tl8)) (fun p hp => NN p (.tail _ (.tail _ (.tail _ (.tail _ (.tail _ hp)))))) hI3 (.tail _ (.tail _ (List.mem_append_left _ (hlr _ (.head _))))) ⟨rfl, ⟨rest, hrr, fun f hf => hrm f (.tail _ hf)⟩, rfl, rfl, rfl, rfl, rfl⟩
  )

end Mine
theorem PySem.Challenge.cw_in0137_01_holds : PySem.Challenge.rw_in0137_01.Holds := by
  exact Mine.law_true
