import PyProof.Rows.All
import Wide.All
import OpenK.AllK
import Wide.FinOn
import PySem.Challenge.RW_bn0015_01
open PySem PySem.W PyProof.Rows
set_option Elab.async false
namespace Mine
set_option maxRecDepth 100000 in
set_option maxHeartbeats 8000000 in
open_top hd1 for PySem.Challenge.rw_bn0015_01
end Mine
section
open PySem PySem.W PyProof.Rows PySem.Calls PySem.Spec PySem.NumText
set_option maxRecDepth 100000
namespace Mine
theorem lt_rl {n : Nat} (h : n < 1000) : n < recursionLimit := h
theorem lt_cl {n : Nat} (h : n < 9900) : n < cLine := h
theorem wp_textB {M : Model} {A : Around} {E : Value → Shared → Prop} {s : Shared} {Q : Value → Shared → Prop} {v : Value} {text : List Nat} {n : Int} {b : Nat}
    (hs : (text.takeWhile (· != 0)).length ≤ 640) (hr : (int_private% "readNumeral") 0 b (text.takeWhile (· != 0)) = (int_private% "Numeral.value") n)
    (ha : ((text.takeWhile (· != 0)).length == text.length) = true) (h : Q (.int n s.toks) { s with toks := s.toks + 1 }) :
    wpAny M A ((int_private% "intFromText") v text b) Q E s := by
  obtain ⟨hp, g, d, tk, os⟩ := s
  repeat (any_goals (first
    | assumption
    | (with_reducible refine wpAny_ite_true (decide_eq_true hs) ?_)
    | (with_reducible refine wpAny_ite_true (decide_eq_true ha) ?_)
    | wp_step))
  all_goals (try rw [hr])
  all_goals (try dsimp only)
  repeat (any_goals (first
    | assumption
    | (with_reducible refine wpAny_ite_true (decide_eq_true hs) ?_)
    | (with_reducible refine wpAny_ite_true (decide_eq_true ha) ?_)
    | wp_step))
set_option maxHeartbeats 4000000 in
theorem gives_text2 {x : PySem.Str} {u t2 : Tok} {n : Int} (hs : (numSeenOf x).length ≤ 640) (hr : (int_private% "readNumeral") 0 2 (numSeenOf x) = (int_private% "Numeral.value") n)
    (ha : ((numSeenOf x).length == (numTextOf x).length) = true) : Gives (Builtin.«int.__new__» ⟨[.type "int", .str x u, .int 2 t2], []⟩) (.int n) :=
  .of_wp fun M A E s Q h => by
    obtain ⟨hp, g, d, tk, os⟩ := s
    have f1 := F.conv_sub_int
    have f2 := F.madeHere_int
    have f6 : typeOf (.str x u) = pure (.type "str") := rfl
    have hk := KIN.Hid.mk (And.intro hs (And.intro hr ha))
    clear hs hr ha
    repeat (any_goals (first
      | assumption
      | ((with_reducible show wpAny _ _ ((int_private% "intFromText") _ _ _) _ _ _); refine wp_textB hk.out.1 hk.out.2.1 hk.out.2.2 ?_)
      | wp_step))
    all_goals first | exact ⟨_, rfl, h⟩ | skip
theorem typeCall_int_2 (a b : Value) : checkTypeCall "int" ⟨[a, b], []⟩ = pure () := by kernel_rfl
theorem newCall_int_2 (a b : Value) : checkBuiltinCall "int.__new__" ⟨[.type "int", a, b], []⟩ = pure () := by kernel_rfl
theorem call_text2 {prog : Program} {w : World} {A : Around} {E : Value → Shared → Prop} {s : Shared} {Q : Value → Shared → Prop} {x : PySem.Str} {t t2 : Tok} {n : Int}
    (hs : (numSeenOf x).length ≤ 640) (hr : (int_private% "readNumeral") 0 2 (numSeenOf x) = (int_private% "Numeral.value") n)
    (ha : ((numSeenOf x).length == (numTextOf x).length) = true) (h : Q (.int n s.toks) { s with toks := s.toks + 1 }) : wpAny (model prog w) A (call (.type "int") [.str x t, .int 2 t2]) Q E s :=
  callType_new F.called_int F.newNe_int (typeCall_int_2 _ _) (newCall_int_2 _ _) (fun obj => F.args_object_init_3 obj _ _) F.entry_int_new (gives_text2 hs hr ha).meets (show (Made.int n).post _ s from ⟨rfl, h⟩)
end Mine
end
section
open PySem PySem.W PyProof.Rows PySem.Calls PySem.Spec
set_option maxRecDepth 100000
namespace Mine
def Back (g h₀ : Heap) (L : Addr) (rest : List (Addr × Obj)) (R : Result → Shared → Prop) (r : Result) (s' : Shared) : Prop := (∀ p ∈ rest, g.get? p.1 = some p.2) → News h₀ L s'.heap rest → R r s'
theorem rest_in {h₀ g h : Heap} {L : Addr} {need rest : List (Addr × Obj)} (N : News h₀ L h (need ++ rest)) (hd : ∀ p ∈ rest, ∀ q ∈ need, p.1 ≠ q.1)
    (hg : g = hideAll h (need.map (·.1))) : ∀ p ∈ rest, g.get? p.1 = some p.2 := fun p hp =>
  hg ▸ hideAll_get _ (N p (List.mem_append_right _ hp)).1 fun q => by
    obtain ⟨q', hq, e⟩ := List.mem_map.mp q
    exact hd p hp q' hq e.symm
theorem apart_in {g h' : Heap} {L' : Addr} {rest news' : List (Addr × Obj)} (kG : ∀ p ∈ rest, g.get? p.1 = some p.2) (N' : News g L' h' news') {q : Addr × Obj} (hq : q ∈ news') : ∀ p ∈ rest, @Ne Nat p.1 q.1 := fun p hp e => by
  have h1 := kG p hp
  have h2 := (N' q hq).2.2
  have e' : p.1 = q.1 := e
  rw [e', h2] at h1
  cases h1
def Off (a : Addr) (l : List (Addr × Obj)) : Prop := ∀ q ∈ l, @Ne Nat q.1 a
theorem Off.tail {a : Addr} {b : Addr × Obj} {l : List (Addr × Obj)} (h : Off a (b :: l)) : Off a l := fun q hq => h q (.tail _ hq)
theorem Off.head {a : Addr} {b : Addr × Obj} {l : List (Addr × Obj)} (h : Off a (b :: l)) : @Ne Nat b.1 a := h b (.head _)
theorem off_nil {a : Addr} : Off a [] := fun _ hq => nomatch hq
theorem off_cons {a : Addr} {b : Addr × Obj} {l : List (Addr × Obj)} : Off a (b :: l) ↔ @Ne Nat b.1 a ∧ Off a l := List.forall_mem_cons
theorem off_nil_iff {a : Addr} : Off a [] ↔ True := ⟨fun _ => trivial, fun _ => off_nil⟩
theorem news3 {h₀ h : Heap} {L : Addr} {l rest : List (Addr × Obj)} (N : News h₀ L h l) (R : News h₀ L h rest) {a b c : Addr × Obj} (ha : a ∈ l) (hb : b ∈ l) (hc : c ∈ l) : News h₀ L h (a :: b :: c :: rest) := fun p hp => by
  rcases List.mem_cons.mp hp with rfl | hp
  · exact N _ ha
  rcases List.mem_cons.mp hp with rfl | hp
  · exact N _ hb
  rcases List.mem_cons.mp hp with rfl | hp
  · exact N _ hc
  exact R _ hp
theorem news2 {h₀ h : Heap} {L : Addr} {l rest : List (Addr × Obj)} (N : News h₀ L h l) (R : News h₀ L h rest) {a b : Addr × Obj} (ha : a ∈ l) (hb : b ∈ l) : News h₀ L h (a :: b :: rest) := fun p hp => by
  rcases List.mem_cons.mp hp with rfl | hp
  · exact N _ ha
  rcases List.mem_cons.mp hp with rfl | hp
  · exact N _ hb
  exact R _ hp
theorem news1 {h₀ h : Heap} {L : Addr} {l rest : List (Addr × Obj)} (N : News h₀ L h l) (R : News h₀ L h rest) {a : Addr × Obj} (ha : a ∈ l) : News h₀ L h (a :: rest) := fun p hp => by
  rcases List.mem_cons.mp hp with rfl | hp
  · exact N _ ha
  exact R _ hp
section
variable {prog : Program} {w : World} {A₀ A : Around} {s : Shared} {base h₀ : Heap} {outer : List Env} {L : Addr} {m : Str → Option Value} {env : Env} {need rest : List (Addr × Obj)} {K : Frag}
  {R : Result → Shared → Prop} {name qual : Str} {params : Arguments} {body : List Stmt} {scope : Scope} {dV kV doc pm cdv ct oc : Value} {an od : Option Addr} {osl : Array (Option Value)} {f : Addr} {args : Args} {binds : List (Str × Value)}
  {p : Program} {loose : List Str} {mean : ExcName → Option Value} {mg mb : Str → Option Value}
theorem leaveF {g : Heap} {v : Value} {s' : Shared} (N : News h₀ L s.heap (need ++ rest)) (hd : ∀ p ∈ rest, ∀ q ∈ need, p.1 ≠ q.1) (hg : g = hideAll s.heap (need.map (·.1)))
    (hl : LeaveK h₀ L m g (Back g h₀ L rest R) v s') : LeaveK h₀ L m g R v s' := by
  obtain ⟨L', m', news', F', N', k⟩ := hl
  have hr := rest_in N hd hg
  exact ⟨L', m', news', F', N', fun FF NN => k FF NN hr fun p hp => ⟨F'.keep _ _ (hr p hp), (N p (List.mem_append_right _ hp)).2⟩⟩
theorem enterF (B : Below A₀ base outer h₀) (F : Fr h₀ L s.heap m) (X₀ : K.In h₀) (N : News h₀ L s.heap (need ++ rest)) (hdis : ∀ p ∈ rest, ∀ q ∈ need, p.1 ≠ q.1) (T : Top p loose mean mg mb h₀) (hA : A.frames = some (env :: outer)) (hf : env.frame = some L) (hke : env.scope.kind = .function)
    (ho : K.lookup f = some ⟨oc, od, .func (fnOf name qual params body scope dV kV doc pm an cdv ct), osl⟩) (hcd : codeIn K cdv qual = true) (hroom : A.depth < recursionLimit)
    (hbind : BindsTo s (fnOf name qual params body scope dV kV doc pm an cdv ct) args binds) (hloc : ∀ y ∈ binds, scope.names.lookup y.1 = some .local)
    (h : ∀ g L' h₁, Fr g L' h₁ (fun y => binds.reverse.lookup y) → News g L' h₁ need → Below A base (env :: outer) g → K.In g → Top p loose mean mg mb g → (∀ p ∈ need, p.1 < L') →
      wpAny (model prog w) (A.deeper (envOf qual scope L' f cdv)) (execs body (envOf qual scope L' f cdv))
        (fun fl s' => LeaveK h₀ L m g (Back g h₀ L rest R) (match fl with | .ret v => v | _ => .none) s')
        (fun e s' => wpAny (model prog w) (A.deeper (envOf qual scope L' f cdv)) (leaving (envOf qual scope L' f cdv) e) (fun _ s'' => R (.error e) s'') (fun e' s'' => R (.error e') s'') s')
        { s with heap := h₁, toks := s.toks + binds.length })
    (hco : scope.isCoroutine = false) (hgen : scope.isGenerator = false) (hk : scope.kind = .function)
    (hcell : ∀ x ∈ scope.names, x.2 ≠ .cell) : codeAny (model prog w) A (.call (.ref f) args) R s := by
  have Nn : News h₀ L s.heap need := fun p hp => N p (List.mem_append_left _ hp)
  have X := X₀.keeps F.keep
  obtain ⟨_, BG, st₀, lv⟩ := groundX (R := R) B F Nn hA hf hke
  have st : ∀ b o, h₀.get? b = some o → (hideAll s.heap (need.map (·.1))).get? b = some o := st₀
  refine codeAny_call_def (fd := fnOf name qual params body scope dV kV doc pm an cdv ct) (body := body) (binds := binds) hroom (X _ _ ho) rfl (T.nolimit.keeps F.keep) (codeRec_of X hcd) rfl hbind hcell hloc (fun h₁ hns hk₁ => ?_) hco hgen hk
  refine wpAny_mono (h (hideAll s.heap (need.map (·.1))) s.heap.objs.size h₁ ⟨hns, fun b o e => hk₁ b o (of_hideAll _ e), Nat.le_of_eq (hideAll_size _ _)⟩
    (fun p hp => ⟨hk₁ _ _ (Nn p hp).1, Nat.ne_of_lt (Heap.lt_size (Nn p hp).1), hideAll_none _ (List.mem_map_of_mem hp)⟩) BG (X₀.keeps st) (T.keeps st) (fun p hp => Heap.lt_size (Nn p hp).1)) (fun fl s' hl => ?_) fun _ _ y => y
  exact lv _ _ (leaveF N hdis rfl hl)
theorem enterFC (B : Below A₀ base outer h₀) (F : Fr h₀ L s.heap m) (X₀ : K.In h₀) (N : News h₀ L s.heap (need ++ rest)) (hdis : ∀ p ∈ rest, ∀ q ∈ need, p.1 ≠ q.1) (T : Top p loose mean mg mb h₀) (hA : A.frames = some (env :: outer)) (hf : env.frame = some L) (hke : env.scope.kind = .function)
    (ho : K.lookup f = some ⟨oc, od, .func (fnOf name qual params body scope dV kV doc pm an cdv ct), osl⟩) (hcd : codeIn K cdv qual = true) (hroom : A.depth < recursionLimit)
    (hbind : BindsTo s (fnOf name qual params body scope dV kV doc pm an cdv ct) args binds) (hkind : (binds.all fun y => scope.names.lookup y.1 == some .local || scope.names.lookup y.1 == some .cell) = true)
    (hnd : ((cellsFrom 0 scope.names []).map (·.1)).Nodup)
    (h : ∀ g L' h₁ tk cells, Fr g L' h₁ (bindL (envOfC qual scope L' f cdv).kindOf binds fun _ => none) → News g L' h₁ (cells ++ need) →
      CellsAre (bindC (envOfC qual scope L' f cdv).kindOf binds fun _ => none) (cellsFrom (L' + 1) scope.names []) cells → Below A base (env :: outer) g → K.In g → Top p loose mean mg mb g → (∀ p ∈ need, p.1 < L') →
      wpAny (model prog w) (A.deeper (envOfC qual scope L' f cdv)) (execs body (envOfC qual scope L' f cdv))
        (fun fl s' => LeaveK h₀ L m g (Back g h₀ L rest R) (match fl with | .ret v => v | _ => .none) s')
        (fun e s' => wpAny (model prog w) (A.deeper (envOfC qual scope L' f cdv)) (leaving (envOfC qual scope L' f cdv) e) (fun _ s'' => R (.error e) s'') (fun e' s'' => R (.error e') s'') s')
        { s with heap := h₁, toks := tk })
    (hco : scope.isCoroutine = false) (hgen : scope.isGenerator = false) (hk : scope.kind = .function) : codeAny (model prog w) A (.call (.ref f) args) R s := by
  have Nn : News h₀ L s.heap need := fun p hp => N p (List.mem_append_left _ hp)
  have X := X₀.keeps F.keep
  obtain ⟨_, BG, st₀, lv⟩ := groundX (R := R) B F Nn hA hf hke
  have st : ∀ b o, h₀.get? b = some o → (hideAll s.heap (need.map (·.1))).get? b = some o := st₀
  refine codeAny_call_function (fd := fnOf name qual params body scope dV kV doc pm an cdv ct) hroom (X _ _ ho) rfl hco hgen rfl (codeRec_of X hcd) (hbind _ _ _ _ ?_)
  refine wpAny_newFunctionEnv_cells hk (kindsX hkind _) fun env' he s' x => ?_
  subst he
  refine ⟨(T.nolimit.keeps F.keep).keeps x.toInCall.keep, codeAny_func ?_⟩
  obtain ⟨h₁, tk, rfl, _⟩ := x.done
  have hk₁ := x.toInCall.keep
  obtain ⟨cells, NC, Y⟩ := Cl.news (h₀ := s.heap) (Nat.le_refl _) fun n c hm => ⟨x.cell n c (lookup_of_mem_nodup (cellsFrom_names scope.names 0 (s.heap.objs.size + 1) [] [] rfl ▸ hnd) hm), x.above n c hm⟩
  refine wpAny_mono (h (hideAll s.heap (need.map (·.1))) s.heap.objs.size h₁ tk cells ⟨x.toInCall.ns, fun b o e => hk₁ b o (of_hideAll _ e), Nat.le_of_eq (hideAll_size _ _)⟩ (fun p hp => ?_) Y BG (X₀.keeps st) (T.keeps st) (fun p hp => Heap.lt_size (Nn p hp).1)) (fun fl s' hl => ?_) fun _ _ y => y
  · rcases List.mem_append.mp hp with hp | hp
    · refine ⟨(NC p hp).1, (NC p hp).2.1, ?_⟩
      cases q : (hideAll s.heap (need.map (·.1))).get? p.1 with
      | none => rfl
      | some o => have := of_hideAll _ q; rw [(NC p hp).2.2] at this; cases this
    · exact ⟨hk₁ _ _ (Nn p hp).1, Nat.ne_of_lt (Heap.lt_size (Nn p hp).1), hideAll_none _ (List.mem_map_of_mem hp)⟩
  · exact lv _ _ (leaveF N hdis rfl hl)
end
section
variable {M : Model} {A : Around} {E : Value → Shared → Prop} {s : Shared} {K : Frag} {env : Env} {pos : Pos} {x C : Addr} {ox : Obj} {od : Option Obj} {first : List Value} {Q : Value → Shared → Prop}
theorem kco_callWithKW {e : Expr} {rest : List Expr} {kws : List Keyword} (_I : InstAt s.heap x ox C od) (hd : ox.data = .plain) (hall : (backToKw pos (keywordEach kws env)).all (·.1.isSome) = true)
    (h : wpAny M A (spliced (backTo pos (starEach (e :: rest) env))) (fun vs s₁ => wpAny M A (evalAll ((backToKw pos (keywordEach kws env)).map (·.2)))
      (fun ks s₂ => kco_P K x C ox od s₂.heap ∧ wpAny M A (call (.ref x) (first ++ vs) (((backToKw pos (keywordEach kws env)).filterMap (·.1)).zip ks)) Q E s₂) E s₁) E s)
    (hplain : ((backTo pos (starEach (e :: rest) env)).any (·.1) || (backToKw pos (keywordEach kws env)).any (·.1.isNone)) = false := by rfl) (he : starEach (e :: rest) env = (false, eval e env) :: starEach rest env := by rfl) :
    wpAny M A (callWith pos (.ref x) first (backTo pos (starEach (e :: rest) env)) (backToKw pos (keywordEach kws env))) Q E s :=
  kco_callWith_of hplain hd (evalArgs_kw2 hall h he)
end
end Mine
end
section
open PySem PySem.W PyProof.Rows PySem.Calls PySem.Spec PySem.NumText
set_option maxRecDepth 100000
namespace Mine
local macro_rules | `(tactic| k_room) => `(tactic| first | (refine lt_rl ?_; (try simp only [depth_under_make, depth_under_kw, depth_in1, depth_deeper, depth_caller]); (try dsimp only [ktrTop]); omega) | ((try simp only [depth_under_make, depth_under_kw, depth_in1, depth_deeper, depth_caller]); (try dsimp only [ktrTop]); omega))
local macro_rules | `(tactic| k_units) => `(tactic| first | (refine lt_cl ?_; (try simp only [units_in1, units_deeper, units_under_make, Around.mark_units, units_caller]); (try dsimp only [ktrTop]); omega) | ((try simp only [units_in1, units_deeper, units_under_make, Around.mark_units, units_caller]); (try dsimp only [ktrTop]); omega))
local macro_rules | `(tactic| ktr_room) => `(tactic| k_room)
local macro_rules | `(tactic| ktr_units) => `(tactic| k_units)
local macro_rules | `(tactic| k_enter) => `(tactic| (refine' code_defC ?k1 ?k2 ?k3 ?k4 ?k5 ?kA ?kF ?kK ?k6 ?k7 ?k8 ?k9 ?kB ?kD ?_ ?c2 ?c3 ?c4; (case kA => exact rfl); (case kF => exact rfl); (case kK => first | exact rfl | assumption); (case k1 => k_asm); (case k2 => k_asm); (case k3 => k_asm); (case k4 => k_asm); (case k5 => k_asm); (case k6 => k_is); (case k7 => k_is); (case k8 => k_room); (case k9 => first | exact BindsTo.of_eq rfl | exact binds_K (by k_in) rfl (by k_is) rfl rfl rfl | fail "k_enter: no rule for these arguments"); (case kB => exact rfl); (case kD => decide +kernel); (case c2 => exact rfl); (case c3 => exact rfl); (case c4 => exact rfl); k_whole; intro g' L' h' tk' cells' FG' F' N' Y' B' X' T' l1; (try k_lt l1); k_cells Y'; (try simp only [List.cons_append, List.nil_append] at N'); (try dsimp only); (try k_lift B'); (try k_fold)))
local macro_rules | `(tactic| k_enter) => `(tactic| (refine' code_def ?k1 ?k2 ?k3 ?k4 ?k5 ?kA ?kF ?kK ?k6 ?k7 ?k8 ?k9 ?kB ?_ ?c2 ?c3 ?c4 ?c5; (case kA => exact rfl); (case kF => exact rfl); (case kK => first | exact rfl | assumption); (case k1 => k_asm); (case k2 => k_asm); (case k3 => k_asm); (case k4 => k_asm); (case k5 => k_asm); (case k6 => k_is); (case k7 => k_is); (case k8 => k_room); (case k9 => first | exact BindsTo.of_eq rfl | exact binds_K (by k_in) rfl (by k_is) rfl rfl rfl | fail "k_enter: no rule for these arguments"); (case c5 => decide); (case kB => exact locs rfl); (case c2 => exact rfl); (case c3 => exact rfl); (case c4 => exact rfl); k_whole; intro g' L' h' FG' F' N' B' X' T'; (try dsimp only); (try k_lift B'); (try k_fold)))
local macro_rules | `(tactic| cell_enter) => `(tactic| (refine' enterF ?k1 ?k2 ?k3 ?k4 ?kdis ?k5 ?kA ?kF ?kK ?k6 ?k7 ?k8 ?k9 ?kB ?_ ?c2 ?c3 ?c4 ?c5; (case kA => exact rfl); (case kF => exact rfl); (case kK => first | exact rfl | assumption); (case k1 => k_asm); (case k2 => k_asm); (case k3 => k_asm); (case k4 => assumption); (case kdis => assumption); (case k5 => k_asm); (case k6 => k_is); (case k7 => k_is); (case k8 => k_room); (case k9 => first | exact BindsTo.of_eq rfl | exact binds_K (by k_in) rfl (by k_is) rfl rfl rfl | fail "k_enter: no rule for these arguments"); (case c5 => decide); (case kB => exact locs rfl); (case c2 => exact rfl); (case c3 => exact rfl); (case c4 => exact rfl); k_whole; intro g' L' h' F' N' B' X' T' l1; (try k_lt l1); (try dsimp only); (try k_fold)))
local macro_rules | `(tactic| ktr_enter) => `(tactic| (refine' enterFC ?k1 ?k2 ?k3 ?k4 ?kdis ?k5 ?kA ?kF ?kK ?k6 ?k7 ?k8 ?k9 ?kB ?kD ?_ ?c2 ?c3 ?c4; (case kA => exact rfl); (case kF => exact rfl); (case kK => first | exact rfl | assumption); (case k1 => k_asm); (case k2 => k_asm); (case k3 => k_asm); (case k4 => assumption); (case kdis => assumption); (case k5 => k_asm); (case k6 => k_is); (case k7 => k_is); (case k8 => k_room); (case k9 => first | exact BindsTo.of_eq rfl | exact binds_K (by k_in) rfl (by k_is) rfl rfl rfl | fail "k_enter: no rule for these arguments"); (case kB => exact rfl); (case kD => decide +kernel); (case c2 => exact rfl); (case c3 => exact rfl); (case c4 => exact rfl); k_whole; intro g' L' h' tk' cells' F' N' Y' B' X' T' l1; (try k_lt l1); k_cells Y'; (try simp only [List.cons_append, List.nil_append] at N'); (try dsimp only); (try k_fold)))
local macro_rules | `(tactic| walk_at "subscriptTail Name Slice ref ref") => `(tactic| (k_here; (with_reducible show wpAny _ _ (subscriptTail _ (PySem.Expr.Slice none none none _) (Value.ref _) (Value.ref _)) _ _ _); k_dflt (refine' slice_all ?F ?N ?l ?z ?_ ?s ?t; (case F => k_asm); (case N => k_asm); (case l => k_mem); (case z => first | omega | assumption); (case s => with_unfolding_all rfl); (case t => kmk_pure)); intro D' h' F' N' l1; (try k_lt l1); (try k_sweep)))
local macro_rules | `(tactic| ksw_same) => `(tactic| (intro z h2 h3; (try simp only [List.forall_mem_cons, List.not_mem_nil, false_implies, implies_true, and_true, ne_eq] at h2); (try simp only [List.contains_cons, List.contains_nil, Bool.or_false, Bool.or_eq_false_iff, beq_eq_false_iff_ne, ne_eq] at h3); simp [frS, kstB, h2, h3]))
local macro_rules | `(tactic| walk_at "getMethod ref") => `(tactic| (k_here; k_dflt (first
  | (refine' method_inst ?k1 ?k2 ?k3 ?k4 ?k5 ?k6 ?k7 ?_; (case k1 => k_asm); (case k2 => k_asm); (case k3 => k_inst); (case k4 => k_is); (case k5 => k_is); (case k6 => k_is); (case k7 => k_get); k_whole)
  | (refine' kmu_own ?k1 ?k2 ?k3 ?k4 ?k5 ?_; (case k1 => k_asm); (case k2 => k_asm); (case k3 => k_inst); (case k4 => k_is); (case k5 => k_is); k_whole))))
local macro_rules | `(tactic| walk_at "callWith") => `(tactic| (k_here; (with_reducible show wpAny _ _ (callWith _ _ _ _ (backToKw _ _)) _ _ _); k_dflt (show wpAny _ _ (callWith _ (Value.ref _) _ (backTo _ (starEach (_ :: _) _)) (backToKw _ (keywordEach (_ :: _) _))) _ _ _); k_dflt (refine' kco_callWithKW ?k1 ?k2 ?k3 ?_; (case k1 => k_inst); (case k2 => rfl); (case k3 => rfl); k_whole)))
theorem br_and {i : Int} (h0 : 0 ≤ i) (h1 : i < 256) : Builtin.bitAnd i (2 ^ Int.toNat 8 - 1) = i := by
  have e : (2 ^ Int.toNat 8 - 1 : Int) = 255 := by decide
  rw [e, bitAnd_pp h0 (by decide)]
  obtain ⟨n, rfl⟩ := Int.eq_ofNat_of_zero_le h0
  have hn : n < 256 := by omega
  have : ((n : Int).toNat &&& (255 : Int).toNat) = n := by
    show n &&& 255 = n
    have := Nat.and_two_pow_sub_one_eq_mod n 8
    rw [show (255 : Nat) = 2 ^ 8 - 1 from rfl, this]
    omega
  rw [this]
def brT (i : Int) : Str := Txt.zfill (Txt.slice (baseText "0b" 2 i) (some 2) none) 8
def brv (i : Nat) : Nat := (List.range 8).foldl (fun a j => 2 * a + (i / 2 ^ j) % 2) 0
def brOk (i : Nat) : Bool := (brT i).length == 8 && (baseText "0b" 2 i).length ≤ 10 && (numSeenOf (Txt.sliceBy (brT i) none none (-1, 0))).length == 8 && (numTextOf (Txt.sliceBy (brT i) none none (-1, 0))).length == 8 && (numSeenOf (Txt.sliceBy (brT i) none none (-1, 0))) == ((List.range 8).map fun j => 48 + (i / 2 ^ j) % 2)
set_option maxHeartbeats 4000000 in
theorem br_chk : ((List.range 256).all brOk) = true := by decide +kernel
set_option maxHeartbeats 4000000 in
theorem br_read : ((List.range 256).map fun i => ((int_private% "readNumeral") 0 2 ((List.range 8).map fun j => 48 + (i / 2 ^ j) % 2))) = (List.range 256).map fun i => ((int_private% "Numeral.value") (brv i : Int)) := by kernel_rfl
theorem sliceBy_tok (x : Str) (k : Int) (u u' : Tok) : Txt.sliceBy x none none (k, u) = Txt.sliceBy x none none (k, u') := rfl
theorem br_facts {n : Nat} (hn : n < 256) (u : Tok) : (brT n).length = 8 ∧ (baseText "0b" 2 (n : Int)).length ≤ 10 ∧ (numSeenOf (Txt.sliceBy (brT n) none none (-1, u))).length ≤ 640 ∧
    (int_private% "readNumeral") 0 2 (numSeenOf (Txt.sliceBy (brT n) none none (-1, u))) = (int_private% "Numeral.value") (brv n : Int) ∧
    ((numSeenOf (Txt.sliceBy (brT n) none none (-1, u))).length == (numTextOf (Txt.sliceBy (brT n) none none (-1, u))).length) = true := by
  rw [sliceBy_tok _ _ u 0]
  have h := List.all_eq_true.mp br_chk n (List.mem_range.mpr hn)
  simp only [brOk, Bool.and_eq_true, beq_iff_eq, decide_eq_true_eq] at h
  obtain ⟨⟨⟨⟨h1, h2⟩, h3⟩, h4⟩, h5⟩ := h
  refine ⟨h1, h2, by omega, ?_, by rw [h3, h4]; rfl⟩
  rw [h5]
  have hr := congrArg (fun l => l[n]?) br_read
  simp only [List.getElem?_map, List.getElem?_range hn, Option.map_some] at hr
  exact Option.some.inj hr
section
variable {w : World} {mean : ExcName → Option Value} {mg mb : Str → Option Value} {dp un : Nat} {gd : Option (List Code)} {cn : Str} {cs : Scope} {a : Addr} {ccd : Value} {cl : List (Str × Addr)} {outer : List Env} {A₀ : Around} {base h₀ : Heap} {L : Addr} {m : Str → Option Value} {news : List (Addr × Obj)} {s : Shared} {Q E : Value → Shared → Prop}
theorem bin_br {A : Around} {i : Int} {t : Tok} (h0 : 0 ≤ i) (h1 : i < 256) (h : Q (.str (baseText "0b" 2 i) s.toks) { s with toks := s.toks + 1 }) :
    wpAny (model PySem.Challenge.rw_bn0015_01.row.prog w) A (call (.builtin "bin") [.int (Builtin.bitAnd i (2 ^ Int.toNat 8 - 1)) t]) Q E s := by
  rw [br_and h0 h1]
  exact P.bin_of_int h (PySem.baseText_under (by decide) (by decide) (by omega))
theorem rev_br {A : Around} {value : Expr} {slice : Expr} {x : Str} {t uk : Tok} {Q : Value → Shared → Prop} (hF : Fr h₀ L s.heap m) (hN : News h₀ L s.heap news) {n : Nat} (hn : n < 256) (hx : x = brT n) (h : ∀ h' t' c, Fr h₀ L h' m → News h₀ L h' news → Q (.str (Txt.sliceBy (brT n) none none (-1, uk)) t') { s with heap := h', toks := c })
    (hs : subscripted slice false (.str x t) (.ref s.heap.objs.size) = operate [.ref s.heap.objs.size, .str x t] (getItem (.str x t) (.ref s.heap.objs.size)) := by with_unfolding_all rfl)
    (ht : ∀ r, letTemporaryGo value (.str x t) r = pure () := by intro _; with_unfolding_all rfl) :
    wpAny (model PySem.Challenge.rw_bn0015_01.row.prog w) A (subscriptTail value slice (.str x t) (.ref s.heap.objs.size)) Q E { s with heap := s.heap.push { cls := .type "slice", data := .fields #[.none, .none, .int (-1) uk] } } := by
  have hl : x.length ≤ sizeLine := by
    rw [hx, (br_facts hn 0).1, sizeLine_eq]; omega
  have h2 : ∀ h' t' c, Fr h₀ L h' m → News h₀ L h' news → Q (.str (Txt.sliceBy x none none (-1, uk)) t') { s with heap := h', toks := c } := by
    rw [hx]; exact h
  clear hx h
  exact slice_strK_nn hF hN (by decide) h2 hs ht hl
theorem int_br {A : Around} {t t2 uk : Tok} {n : Nat} (hn : n < 256) (h : Q (.int (brv n : Int) s.toks) { s with toks := s.toks + 1 }) :
    wpAny (model PySem.Challenge.rw_bn0015_01.row.prog w) A (call (.type "int") [.str (Txt.sliceBy (brT n) none none (-1, uk)) t, .int 2 t2]) Q E s :=
  have f := br_facts hn uk
  call_text2 f.2.2.1 f.2.2.2.1 f.2.2.2.2 h
local macro_rules | `(tactic| walk_at "call builtin:bin") => `(tactic| (refine bin_br (by omega) (by omega) ?_))
local macro_rules | `(tactic| walk_at "call type:int") => `(tactic| (refine int_br (by assumption) ?_))
local macro_rules | `(tactic| walk_at "subscriptTail Name Slice str ref") => `(tactic| (refine rev_br (s := ⟨_, _, _, _, _⟩) (by assumption) (by assumption) (by assumption) rfl ?_; intro _ _ _ _ _))
set_option maxHeartbeats 4000000 in
theorem br_C {n : Nat} {ti tk : Tok} (B : Below A₀ base outer h₀) (F : Fr h₀ L s.heap m) (X : Frag.In (Mine.hd1.heap_39 w.params) h₀) (N : News h₀ L s.heap news) (T : Top Mine.hd1.view_39 (looseW Mine.hd1.view_39 [Str.ofString "PolynomialRing", Str.ofString "Polynomial"]) mean mg mb h₀) (hk : cs.kind = .function) (hd : dp ≤ 700) (hu : un ≤ 7000)
    (h1 : n < 256)
    (hret : ∀ (t : Tok) (h' : Heap) (tk' : Nat), Fr h₀ L h' m → News h₀ L h' news → Q (.int (brv n : Int) t) { s with heap := h', toks := tk' }) :
    wpAny (model PySem.Challenge.rw_bn0015_01.row.prog w) (ktrTop dp un gd cn cs L a ccd cl outer) (call (.ref 301) [.int (n : Int) ti, .int 8 tk]) Q E s := by
  w_top off; revert X; k_fill; intro X
  refine wpAny_call ?_
  k_dflt k_enter
  k_steps
  exact hret _ _ _ (by assumption) (by assumption)
def brI (i : Int) : Int := (brv i.toNat : Int)
theorem br_CI {i : Int} {ti tk : Tok} (B : Below A₀ base outer h₀) (F : Fr h₀ L s.heap m) (X : Frag.In (Mine.hd1.heap_39 w.params) h₀) (N : News h₀ L s.heap news) (T : Top Mine.hd1.view_39 (looseW Mine.hd1.view_39 [Str.ofString "PolynomialRing", Str.ofString "Polynomial"]) mean mg mb h₀) (hk : cs.kind = .function) (hd : dp ≤ 700) (hu : un ≤ 7000)
    (h0 : 0 ≤ i) (h1 : i < 256)
    (hret : ∀ (t : Tok) (h' : Heap) (tk' : Nat), Fr h₀ L h' m → News h₀ L h' news → Q (.int (brI i) t) { s with heap := h', toks := tk' }) :
    wpAny (model PySem.Challenge.rw_bn0015_01.row.prog w) (ktrTop dp un gd cn cs L a ccd cl outer) (call (.ref 301) [.int i ti, .int 8 tk]) Q E s := by
  obtain ⟨n, rfl⟩ := Int.eq_ofNat_of_zero_le h0
  exact br_C B F X N T hk hd hu (by omega) hret
end
end Mine
end
section
open PySem PySem.W PyProof.Rows PySem.Calls PySem.Spec
set_option maxRecDepth 100000
namespace Mine
open Builtin Builtin.Int in
set_option maxHeartbeats 4000000 in
theorem gives_pow3 (b : Int) (t : Tok) (e : Int) (u : Tok) (v : Tok) (he : ¬ e < 0) :
    Gives (Builtin.«int.__pow__» ⟨[.int b t, .int e u, .int 8380417 v], []⟩) (.int (powMod (b % ((8380417 : Int).natAbs : Int)).toNat e.natAbs (8380417 : Int).natAbs : Nat)) :=
  .of_wp fun M A E s Q h => by
    obtain ⟨hp, g, d, tk, os⟩ := s
    wp_walk
    exact ⟨_, rfl, h⟩
open Builtin Builtin.Int in
set_option maxHeartbeats 4000000 in
theorem gives_pow_inv (t u v : Tok) :
    Gives (Builtin.«int.__pow__» ⟨[.int 256 t, .int (-1) u, .int 8380417 v], []⟩) (.int 8347681) :=
  .of_wp fun M A E s Q h => by
    obtain ⟨hp, g, d, tk, os⟩ := s
    wp_walk
    exact ⟨_, rfl, h⟩
theorem entry_pow : entryFor table "pow" = some Builtin.«pow» := entryFor_of_tree (by kernel_rfl)
theorem kind_pow : builtinKind "pow" = none := by decide +kernel
theorem plain_pow : plainId "pow" = true := by decide +kernel
theorem args_pow3 (a b c : Value) : argsOk "pow" ⟨[a, b, c], []⟩ := by unfold argsOk; kernel_rfl
theorem args_ipow3 (a b c : Value) : argsOk "int.__pow__" ⟨[a, b, c], []⟩ := by unfold argsOk; kernel_rfl
section
variable {prog : Program} {w : World} {A : Around} {E : Value → Shared → Prop} {s : Shared} {Q : Value → Shared → Prop}
theorem call_ipow3 {b e m r : Int} {t u v : Tok} (g : Gives (Builtin.«int.__pow__» ⟨[.int b t, .int e u, .int m v], []⟩) (.int r)) (h : Q (.int r s.toks) { s with toks := s.toks + 1 }) :
    wpAny (model prog w) A (call (.builtin "int.__pow__") [.int b t, .int e u, .int m v]) Q E s :=
  call_gives F.slot_int_pow (typeIs_int s b t) F.entry_int_pow (args_ipow3 _ _ _) g h
theorem dunder_pow : PySem.dunder "pow" = Str.ofString "__pow__" := by decide
theorem slot_pow' : Slot "int" (Str.ofString "__pow__") "int.__pow__" := dunder_pow ▸ F.slot_int_pow
set_option maxHeartbeats 4000000 in
theorem call_pow3 {b e m r : Int} {t u v : Tok} (g : Gives (Builtin.«int.__pow__» ⟨[.int b t, .int e u, .int m v], []⟩) (.int r)) (h : Q (.int r s.toks) { s with toks := s.toks + 1 }) :
    wpAny (model prog w) A (call (.builtin "pow") [.int b t, .int e u, .int m v]) Q E s := by
  refine call_function_entry kind_pow plain_pow entry_pow (args_pow3 _ _ _) ?_
  obtain ⟨hp, g9, d, tk, os⟩ := s
  have f1 := slot_pow'.lookup
  have hT : (⟨hp, g9, d, tk, os⟩ : Shared).TypeIs (.int b t) "int" := typeIs_int _ _ _
  have f6 : typeOf (.int b t) = pure (.type "int") := rfl
  repeat (any_goals (first
    | ((with_reducible show wpAny _ _ (callSpecial? _ _ _ _) _ _ _); refine wpAny_callSpecial?_slot hT slot_pow' (call_ipow3 g ?_))
    | assumption
    | wp_step))
  all_goals exact ⟨_, rfl, h⟩
theorem call_pow_mod {b e : Int} {t u v : Tok} (he : 0 ≤ e) (h : Q (.int (Builtin.powMod (b % 8380417).toNat e.toNat 8380417 : Nat) s.toks) { s with toks := s.toks + 1 }) :
    wpAny (model prog w) A (call (.builtin "pow") [.int b t, .int e u, .int 8380417 v]) Q E s := by
  refine call_pow3 (gives_pow3 b t e u v (by omega)) ?_
  have e1 : e.natAbs = e.toNat := by omega
  rw [e1]
  exact h
theorem call_pow_inv {t u v : Tok} (h : Q (.int 8347681 s.toks) { s with toks := s.toks + 1 }) :
    wpAny (model prog w) A (call (.builtin "pow") [.int 256 t, .int (-1) u, .int 8380417 v]) Q E s := call_pow3 (gives_pow_inv t u v) h
end
end Mine
end
section
open PySem PySem.W PyProof.Rows PySem.Calls PySem.Spec PySem.NumText
set_option maxRecDepth 100000
namespace Mine
local macro_rules | `(tactic| k_room) => `(tactic| first | (refine lt_rl ?_; (try simp only [depth_under_make, depth_under_kw, depth_in1, depth_deeper, depth_caller]); (try dsimp only [ktrTop]); omega) | ((try simp only [depth_under_make, depth_under_kw, depth_in1, depth_deeper, depth_caller]); (try dsimp only [ktrTop]); omega))
local macro_rules | `(tactic| k_units) => `(tactic| first | (refine lt_cl ?_; (try simp only [units_in1, units_deeper, units_under_make, Around.mark_units, units_caller]); (try dsimp only [ktrTop]); omega) | ((try simp only [units_in1, units_deeper, units_under_make, Around.mark_units, units_caller]); (try dsimp only [ktrTop]); omega))
local macro_rules | `(tactic| ktr_room) => `(tactic| k_room)
local macro_rules | `(tactic| ktr_units) => `(tactic| k_units)
local macro_rules | `(tactic| k_enter) => `(tactic| (refine' code_defC ?k1 ?k2 ?k3 ?k4 ?k5 ?kA ?kF ?kK ?k6 ?k7 ?k8 ?k9 ?kB ?kD ?_ ?c2 ?c3 ?c4; (case kA => exact rfl); (case kF => exact rfl); (case kK => first | exact rfl | assumption); (case k1 => k_asm); (case k2 => k_asm); (case k3 => k_asm); (case k4 => k_asm); (case k5 => k_asm); (case k6 => k_is); (case k7 => k_is); (case k8 => k_room); (case k9 => first | exact BindsTo.of_eq rfl | exact binds_K (by k_in) rfl (by k_is) rfl rfl rfl | fail "k_enter: no rule for these arguments"); (case kB => exact rfl); (case kD => decide +kernel); (case c2 => exact rfl); (case c3 => exact rfl); (case c4 => exact rfl); k_whole; intro g' L' h' tk' cells' FG' F' N' Y' B' X' T' l1; (try k_lt l1); k_cells Y'; (try simp only [List.cons_append, List.nil_append] at N'); (try dsimp only); (try k_lift B'); (try k_fold)))
local macro_rules | `(tactic| k_enter) => `(tactic| (refine' code_def ?k1 ?k2 ?k3 ?k4 ?k5 ?kA ?kF ?kK ?k6 ?k7 ?k8 ?k9 ?kB ?_ ?c2 ?c3 ?c4 ?c5; (case kA => exact rfl); (case kF => exact rfl); (case kK => first | exact rfl | assumption); (case k1 => k_asm); (case k2 => k_asm); (case k3 => k_asm); (case k4 => k_asm); (case k5 => k_asm); (case k6 => k_is); (case k7 => k_is); (case k8 => k_room); (case k9 => first | exact BindsTo.of_eq rfl | exact binds_K (by k_in) rfl (by k_is) rfl rfl rfl | fail "k_enter: no rule for these arguments"); (case c5 => decide); (case kB => exact locs rfl); (case c2 => exact rfl); (case c3 => exact rfl); (case c4 => exact rfl); k_whole; intro g' L' h' FG' F' N' B' X' T'; (try dsimp only); (try k_lift B'); (try k_fold)))
local macro_rules | `(tactic| cell_enter) => `(tactic| (refine' enterF ?k1 ?k2 ?k3 ?k4 ?kdis ?k5 ?kA ?kF ?kK ?k6 ?k7 ?k8 ?k9 ?kB ?_ ?c2 ?c3 ?c4 ?c5; (case kA => exact rfl); (case kF => exact rfl); (case kK => first | exact rfl | assumption); (case k1 => k_asm); (case k2 => k_asm); (case k3 => k_asm); (case k4 => assumption); (case kdis => assumption); (case k5 => k_asm); (case k6 => k_is); (case k7 => k_is); (case k8 => k_room); (case k9 => first | exact BindsTo.of_eq rfl | exact binds_K (by k_in) rfl (by k_is) rfl rfl rfl | fail "k_enter: no rule for these arguments"); (case c5 => decide); (case kB => exact locs rfl); (case c2 => exact rfl); (case c3 => exact rfl); (case c4 => exact rfl); k_whole; intro g' L' h' F' N' B' X' T' l1; (try k_lt l1); (try dsimp only); (try k_fold)))
local macro_rules | `(tactic| ktr_enter) => `(tactic| (refine' enterFC ?k1 ?k2 ?k3 ?k4 ?kdis ?k5 ?kA ?kF ?kK ?k6 ?k7 ?k8 ?k9 ?kB ?kD ?_ ?c2 ?c3 ?c4; (case kA => exact rfl); (case kF => exact rfl); (case kK => first | exact rfl | assumption); (case k1 => k_asm); (case k2 => k_asm); (case k3 => k_asm); (case k4 => assumption); (case kdis => assumption); (case k5 => k_asm); (case k6 => k_is); (case k7 => k_is); (case k8 => k_room); (case k9 => first | exact BindsTo.of_eq rfl | exact binds_K (by k_in) rfl (by k_is) rfl rfl rfl | fail "k_enter: no rule for these arguments"); (case kB => exact rfl); (case kD => decide +kernel); (case c2 => exact rfl); (case c3 => exact rfl); (case c4 => exact rfl); k_whole; intro g' L' h' tk' cells' F' N' Y' B' X' T' l1; (try k_lt l1); k_cells Y'; (try simp only [List.cons_append, List.nil_append] at N'); (try dsimp only); (try k_fold)))
local macro_rules | `(tactic| walk_at "subscriptTail Name Slice ref ref") => `(tactic| (k_here; (with_reducible show wpAny _ _ (subscriptTail _ (PySem.Expr.Slice none none none _) (Value.ref _) (Value.ref _)) _ _ _); k_dflt (refine' slice_all ?F ?N ?l ?z ?_ ?s ?t; (case F => k_asm); (case N => k_asm); (case l => k_mem); (case z => first | omega | assumption); (case s => with_unfolding_all rfl); (case t => kmk_pure)); intro D' h' F' N' l1; (try k_lt l1); (try k_sweep)))
local macro_rules | `(tactic| ksw_same) => `(tactic| (intro z h2 h3; (try simp only [List.forall_mem_cons, List.not_mem_nil, false_implies, implies_true, and_true, ne_eq] at h2); (try simp only [List.contains_cons, List.contains_nil, Bool.or_false, Bool.or_eq_false_iff, beq_eq_false_iff_ne, ne_eq] at h3); simp [frS, kstB, h2, h3]))
local macro_rules | `(tactic| walk_at "getMethod ref") => `(tactic| (k_here; k_dflt (first
  | (refine' method_inst ?k1 ?k2 ?k3 ?k4 ?k5 ?k6 ?k7 ?_; (case k1 => k_asm); (case k2 => k_asm); (case k3 => k_inst); (case k4 => k_is); (case k5 => k_is); (case k6 => k_is); (case k7 => k_get); k_whole)
  | (refine' kmu_own ?k1 ?k2 ?k3 ?k4 ?k5 ?_; (case k1 => k_asm); (case k2 => k_asm); (case k3 => k_inst); (case k4 => k_is); (case k5 => k_is); k_whole))))
local macro_rules | `(tactic| walk_at "callWith") => `(tactic| (k_here; (with_reducible show wpAny _ _ (callWith _ _ _ _ (backToKw _ _)) _ _ _); k_dflt (show wpAny _ _ (callWith _ (Value.ref _) _ (backTo _ (starEach (_ :: _) _)) (backToKw _ (keywordEach (_ :: _) _))) _ _ _); k_dflt (refine' kco_callWithKW ?k1 ?k2 ?k3 ?_; (case k1 => k_inst); (case k2 => rfl); (case k3 => rfl); k_whole)))
section
variable {w : World} {mean : ExcName → Option Value} {mg mb : Str → Option Value} {dp un : Nat} {gd : Option (List Code)} {cn : Str} {cs : Scope} {a : Addr} {ccd : Value} {cl : List (Str × Addr)} {outer : List Env} {A₀ : Around} {base h₀ : Heap} {L : Addr} {m : Str → Option Value} {news : List (Addr × Obj)} {s : Shared} {Q E : Value → Shared → Prop}
theorem brI_nonneg {i : Int} : 0 ≤ brI i := Int.natCast_nonneg _
theorem dis2 {x dx : Addr} {ox od : Obj} (l1 : ∀ p ∈ news, p.1 < dx) (l2 : dx < x) : ∀ p ∈ news, ∀ q ∈ [(x, ox), (dx, od)], p.1 ≠ q.1 := by
  intro p hp q hq
  have := l1 p hp
  rcases List.mem_cons.mp hq with rfl | hq
  · exact Nat.ne_of_lt (Nat.lt_trans this l2)
  · rcases List.mem_cons.mp hq with rfl | hq
    · exact Nat.ne_of_lt this
    · cases hq
local macro_rules | `(tactic| walk_at "call ref") => `(tactic| (k_here; k_dflt (show wpAny _ _ (call (Value.ref 301) [Value.int _ _, _]) _ _ _); k_dflt (refine' br_CI ?k1 ?k2 ?k3 ?k4 ?k5 ?kK ?kd ?ku ?k6 ?k7 ?_; (case k1 => k_asm); (case k2 => k_asm); (case k3 => k_asm); (case k4 => k_asm); (case k5 => k_asm); (case kK => first | exact rfl | assumption); (case kd => k_room); (case ku => k_units); (case k6 => omega); (case k7 => omega)); intro t9 h9 tk9 F9 N9; (try dsimp only); (try k_fold)))
local macro_rules | `(tactic| walk_at "call builtin:pow") => `(tactic| first | (refine call_pow_inv ?_) | (refine call_pow_mod brI_nonneg ?_))
abbrev ringD (P : Params) (s1 s2 z : Addr) (t1 t2 t3 t4 t5 t6 t7 t8 t9 : Tok) : Obj := dictOf [⟨PyData.keyHash P (Str.ofString "q"), .str (Str.ofString "q") t1, .int 8380417 t2⟩,
  ⟨PyData.keyHash P (Str.ofString "n"), .str (Str.ofString "n") t3, .int 256 t4⟩, ⟨PyData.keyHash P (Str.ofString "shake128"), .str (Str.ofString "shake128") t5, .ref s1⟩,
  ⟨PyData.keyHash P (Str.ofString "shake256"), .str (Str.ofString "shake256") t6, .ref s2⟩, ⟨PyData.keyHash P (Str.ofString "ntt_zetas"), .str (Str.ofString "ntt_zetas") t7, .ref z⟩,
  ⟨PyData.keyHash P (Str.ofString "ntt_f"), .str (Str.ofString "ntt_f") t8, .int 8347681 t9⟩] 6
def zetaL : List Int := (List.range 256).map fun i => ((Builtin.powMod 1753 (brv i) 8380417 : Nat) : Int)
theorem zetaL_of {ys : List Value} (h : IntsAre ys (List.map (fun a : Int => ((Builtin.powMod ((1753 : Int) % 8380417).toNat (brI a).toNat 8380417 : Nat) : Int)) (rangeKs 0 (256 - 0 : Int).toNat))) : IntsAre ys zetaL := by
  have e : (List.map (fun a : Int => ((Builtin.powMod ((1753 : Int) % 8380417).toNat (brI a).toNat 8380417 : Nat) : Int)) (rangeKs 0 (256 - 0 : Int).toNat)) = zetaL := by
    unfold rangeKs zetaL
    rw [List.map_map]
    refine List.map_congr_left fun i _ => ?_
    have e1 : (brI (0 + (i : Int))).toNat = brv i := by unfold brI; rw [Int.zero_add]; rfl
    show ((Builtin.powMod ((1753 : Int) % 8380417).toNat (brI (0 + (i : Int))).toNat 8380417 : Nat) : Int) = _
    rw [e1]
    rfl
  rw [← e]
  exact h
set_option maxHeartbeats 4000000 in
theorem ring_C (B : Below A₀ base outer h₀) (F : Fr h₀ L s.heap m) (X : Frag.In (Mine.hd1.heap_39 w.params) h₀) (N : News h₀ L s.heap news) (T : Top Mine.hd1.view_39 (looseW Mine.hd1.view_39 [Str.ofString "PolynomialRing", Str.ofString "Polynomial"]) mean mg mb h₀) (hk : cs.kind = .function) (hd : dp ≤ 500) (hu : un ≤ 5000)
    (hret : ∀ (x dx z s1 s2 : Addr) (zs : List Value) (t1 t2 t3 t4 t5 t6 t7 t8 t9 : Tok) (h' : Heap) (tk' : Nat), IntsAre zs zetaL → Fr h₀ L h' m →
      News h₀ L h' ((x, instObj 392 dx) :: (dx, ringD w.params s1 s2 z t1 t2 t3 t4 t5 t6 t7 t8 t9) :: (z, LCg.lst zs) :: news) →
      (Off x news) → (Off dx news) → (Off z news) → @Ne Nat x dx → @Ne Nat x z → @Ne Nat dx z →
      Q (.ref x) { s with heap := h', toks := tk' }) :
    wpAny (model PySem.Challenge.rw_bn0015_01.row.prog w) (ktrTop dp un gd cn cs L a ccd cl outer) (call (.ref 392) [.ref 601, .ref 601]) Q E s := by
  w_top off; revert X; k_fill; intro X
  k_dflt (refine' call_cls ?k1 ?k2 ?k3 ?k4 ?k5 ?k6 ?_; (case k1 => k_asm); (case k2 => k_asm); (case k3 => k_asm); (case k4 => k_is); (case k5 => k_is); (case k6 => k_is); k_whole)
  intro x dx h' F' N' l1 l2
  have N2 : News h₀ L h' ([(x, instObj 392 dx), (dx, dictOf [] 0)] ++ news) := N'
  have dis := dis2 (ox := instObj 392 dx) (od := dictOf [] 0) l1 l2
  clear N N' F
  k_lt2 l2
  k_dflt ktr_enter
  clear dis N2
  have hMk := kstMark
  k_steps
  dsimp only [Back, InitBack]
  rename News h₀ L _ _ => kN1
  rename Fr h₀ L _ _ => kF1
  rename IntsAre _ _ => kI1
  revert kN1
  rename News _ _ _ _ => kC1
  intro kN1 kG kR
  refine ⟨rfl, ?_⟩
  refine' hret x dx _ _ _ _ _ _ _ _ _ _ _ _ _ _ _ (zetaL_of kI1) kF1 (news3 kN1 kR ?a ?b ?c) ?d ?e ?f ?g ?h ?i
  case a => k_memK
  case b => k_memK
  case c => k_memK
  case d => exact apart_in kG kC1 (q := (x, _)) (by k_memK)
  case e => exact apart_in kG kC1 (q := (dx, _)) (by k_memK)
  case f => exact apart_in kG kC1 (q := (_, LCg.lst _)) (by k_memK)
  case g => k_ne
  case h => k_ne
  case i => k_ne
end
end Mine
end
section
open PySem PySem.W PyProof.Rows PySem.Calls PySem.Spec PySem.NumText
set_option maxRecDepth 100000
namespace Mine
theorem split_need {h₀ h : Heap} {L : Addr} {news : List (Addr × Obj)} (N : News h₀ L h news) (need : List (Addr × Obj)) (hn : ∀ q ∈ need, q ∈ news) :
    ∃ rest, News h₀ L h (need ++ rest) ∧ (∀ p ∈ rest, ∀ q ∈ need, p.1 ≠ q.1) ∧ ∀ p ∈ news, p ∈ need ∨ p ∈ rest := by
  refine ⟨news.filter fun p => !(need.map (·.1)).contains p.1, fun p hp => ?_, fun p hp q hq e => ?_, fun p hp => ?_⟩
  · rcases List.mem_append.mp hp with h | h
    · exact N _ (hn _ h)
    · exact N _ (List.mem_filter.mp h).1
  · have h := (List.mem_filter.mp hp).2
    have : (need.map (·.1)).contains p.1 = true := by rw [List.contains_iff_mem, e]; exact List.mem_map_of_mem hq
    rw [this] at h
    cases h
  · by_cases hc : (need.map (·.1)).contains p.1 = true
    · left
      obtain ⟨q, hq, e⟩ := List.mem_map.mp (List.contains_iff_mem.mp hc)
      have h1 := (N _ (hn _ hq)).1
      have h2 := (N _ hp).1
      rw [← e, h1] at h2
      have : p = q := Prod.ext e.symm (Option.some.inj h2).symm
      rw [this]; exact hq
    · right
      exact List.mem_filter.mpr ⟨hp, by simpa using hc⟩
theorem news_cov {h₀ h : Heap} {L : Addr} {out need rest news : List (Addr × Obj)} (kN : News h₀ L h (out ++ need)) (kR : News h₀ L h rest) (cov : ∀ p ∈ news, p ∈ need ∨ p ∈ rest) : News h₀ L h (out ++ news) := fun p hp => by
  rcases List.mem_append.mp hp with h | h
  · exact kN _ (List.mem_append_left _ h)
  · rcases cov _ h with h | h
    · exact kN _ (List.mem_append_right _ h)
    · exact kR _ h
theorem apart_cov {g h' : Heap} {L' : Addr} {led need rest news : List (Addr × Obj)} (kG : ∀ p ∈ rest, g.get? p.1 = some p.2) (N' : News g L' h' led) (cov : ∀ p ∈ news, p ∈ need ∨ p ∈ rest) {q : Addr × Obj} (hq : q ∈ led)
    (hn : ∀ p ∈ need, @Ne Nat p.1 q.1) : ∀ p ∈ news, @Ne Nat p.1 q.1 := fun p hp => by
  rcases cov _ hp with h | h
  · exact hn _ h
  · exact apart_in kG N' hq _ h
abbrev polyD (P : Params) (ring l : Addr) (t1 t2 : Tok) : Obj := dictOf [⟨PyData.keyHash P (Str.ofString "parent"), .str (Str.ofString "parent") t1, .ref ring⟩, ⟨PyData.keyHash P (Str.ofString "coeffs"), .str (Str.ofString "coeffs") t2, .ref l⟩] 2
local macro_rules | `(tactic| k_room) => `(tactic| first | (refine lt_rl ?_; (try simp only [depth_under_make, depth_under_kw, depth_in1, depth_deeper, depth_caller]); (try dsimp only [ktrTop]); omega) | ((try simp only [depth_under_make, depth_under_kw, depth_in1, depth_deeper, depth_caller]); (try dsimp only [ktrTop]); omega))
local macro_rules | `(tactic| k_units) => `(tactic| first | (refine lt_cl ?_; (try simp only [units_in1, units_deeper, units_under_make, Around.mark_units, units_caller]); (try dsimp only [ktrTop]); omega) | ((try simp only [units_in1, units_deeper, units_under_make, Around.mark_units, units_caller]); (try dsimp only [ktrTop]); omega))
local macro_rules | `(tactic| ktr_room) => `(tactic| k_room)
local macro_rules | `(tactic| ktr_units) => `(tactic| k_units)
local macro_rules | `(tactic| k_enter) => `(tactic| (refine' code_defC ?k1 ?k2 ?k3 ?k4 ?k5 ?kA ?kF ?kK ?k6 ?k7 ?k8 ?k9 ?kB ?kD ?_ ?c2 ?c3 ?c4; (case kA => exact rfl); (case kF => exact rfl); (case kK => first | exact rfl | assumption); (case k1 => k_asm); (case k2 => k_asm); (case k3 => k_asm); (case k4 => k_asm); (case k5 => k_asm); (case k6 => k_is); (case k7 => k_is); (case k8 => k_room); (case k9 => first | exact BindsTo.of_eq rfl | exact binds_K (by k_in) rfl (by k_is) rfl rfl rfl | fail "k_enter: no rule for these arguments"); (case kB => exact rfl); (case kD => decide +kernel); (case c2 => exact rfl); (case c3 => exact rfl); (case c4 => exact rfl); k_whole; intro g' L' h' tk' cells' FG' F' N' Y' B' X' T' l1; (try k_lt l1); k_cells Y'; (try simp only [List.cons_append, List.nil_append] at N'); (try dsimp only); (try k_lift B'); (try k_fold)))
local macro_rules | `(tactic| k_enter) => `(tactic| (refine' code_def ?k1 ?k2 ?k3 ?k4 ?k5 ?kA ?kF ?kK ?k6 ?k7 ?k8 ?k9 ?kB ?_ ?c2 ?c3 ?c4 ?c5; (case kA => exact rfl); (case kF => exact rfl); (case kK => first | exact rfl | assumption); (case k1 => k_asm); (case k2 => k_asm); (case k3 => k_asm); (case k4 => k_asm); (case k5 => k_asm); (case k6 => k_is); (case k7 => k_is); (case k8 => k_room); (case k9 => first | exact BindsTo.of_eq rfl | exact binds_K (by k_in) rfl (by k_is) rfl rfl rfl | fail "k_enter: no rule for these arguments"); (case c5 => decide); (case kB => exact locs rfl); (case c2 => exact rfl); (case c3 => exact rfl); (case c4 => exact rfl); k_whole; intro g' L' h' FG' F' N' B' X' T'; (try dsimp only); (try k_lift B'); (try k_fold)))
local macro_rules | `(tactic| cell_enter) => `(tactic| (refine' enterF ?k1 ?k2 ?k3 ?k4 ?kdis ?k5 ?kA ?kF ?kK ?k6 ?k7 ?k8 ?k9 ?kB ?_ ?c2 ?c3 ?c4 ?c5; (case kA => exact rfl); (case kF => exact rfl); (case kK => first | exact rfl | assumption); (case k1 => k_asm); (case k2 => k_asm); (case k3 => k_asm); (case k4 => assumption); (case kdis => assumption); (case k5 => k_asm); (case k6 => k_is); (case k7 => k_is); (case k8 => k_room); (case k9 => first | exact BindsTo.of_eq rfl | exact binds_K (by k_in) rfl (by k_is) rfl rfl rfl | fail "k_enter: no rule for these arguments"); (case c5 => decide); (case kB => exact locs rfl); (case c2 => exact rfl); (case c3 => exact rfl); (case c4 => exact rfl); k_whole; intro g' L' h' F' N' B' X' T' l1; (try k_lt l1); (try dsimp only); (try k_fold)))
local macro_rules | `(tactic| ktr_enter) => `(tactic| (refine' enterFC ?k1 ?k2 ?k3 ?k4 ?kdis ?k5 ?kA ?kF ?kK ?k6 ?k7 ?k8 ?k9 ?kB ?kD ?_ ?c2 ?c3 ?c4; (case kA => exact rfl); (case kF => exact rfl); (case kK => first | exact rfl | assumption); (case k1 => k_asm); (case k2 => k_asm); (case k3 => k_asm); (case k4 => assumption); (case kdis => assumption); (case k5 => k_asm); (case k6 => k_is); (case k7 => k_is); (case k8 => k_room); (case k9 => first | exact BindsTo.of_eq rfl | exact binds_K (by k_in) rfl (by k_is) rfl rfl rfl | fail "k_enter: no rule for these arguments"); (case kB => exact rfl); (case kD => decide +kernel); (case c2 => exact rfl); (case c3 => exact rfl); (case c4 => exact rfl); k_whole; intro g' L' h' tk' cells' F' N' Y' B' X' T' l1; (try k_lt l1); k_cells Y'; (try simp only [List.cons_append, List.nil_append] at N'); (try dsimp only); (try k_fold)))
local macro_rules | `(tactic| walk_at "subscriptTail Name Slice ref ref") => `(tactic| (k_here; (with_reducible show wpAny _ _ (subscriptTail _ (PySem.Expr.Slice none none none _) (Value.ref _) (Value.ref _)) _ _ _); k_dflt (refine' slice_all ?F ?N ?l ?z ?_ ?s ?t; (case F => k_asm); (case N => k_asm); (case l => k_mem); (case z => first | omega | assumption); (case s => with_unfolding_all rfl); (case t => kmk_pure)); intro D' h' F' N' l1; (try k_lt l1); (try k_sweep)))
local macro_rules | `(tactic| ksw_same) => `(tactic| (intro z h2 h3; (try simp only [List.forall_mem_cons, List.not_mem_nil, false_implies, implies_true, and_true, ne_eq] at h2); (try simp only [List.contains_cons, List.contains_nil, Bool.or_false, Bool.or_eq_false_iff, beq_eq_false_iff_ne, ne_eq] at h3); simp [frS, kstB, h2, h3]))
local macro_rules | `(tactic| walk_at "getMethod ref") => `(tactic| (k_here; k_dflt (first
  | (refine' method_inst ?k1 ?k2 ?k3 ?k4 ?k5 ?k6 ?k7 ?_; (case k1 => k_asm); (case k2 => k_asm); (case k3 => k_inst); (case k4 => k_is); (case k5 => k_is); (case k6 => k_is); (case k7 => k_get); k_whole)
  | (refine' kmu_own ?k1 ?k2 ?k3 ?k4 ?k5 ?_; (case k1 => k_asm); (case k2 => k_asm); (case k3 => k_inst); (case k4 => k_is); (case k5 => k_is); k_whole))))
local macro_rules | `(tactic| walk_at "callWith") => `(tactic| (k_here; (with_reducible show wpAny _ _ (callWith _ _ _ _ (backToKw _ _)) _ _ _); k_dflt (show wpAny _ _ (callWith _ (Value.ref _) _ (backTo _ (starEach (_ :: _) _)) (backToKw _ (keywordEach (_ :: _) _))) _ _ _); k_dflt (refine' kco_callWithKW ?k1 ?k2 ?k3 ?_; (case k1 => k_inst); (case k2 => rfl); (case k3 => rfl); k_whole)))
section
variable {w : World} {mean : ExcName → Option Value} {mg mb : Str → Option Value} {dp un : Nat} {gd : Option (List Code)} {cn : Str} {cs : Scope} {a : Addr} {ccd : Value} {cl : List (Str × Addr)} {outer : List Env} {A₀ : Around} {base h₀ : Heap} {L : Addr} {m : Str → Option Value} {news : List (Addr × Obj)} {s : Shared} {Q E : Value → Shared → Prop}
local macro_rules | `(tactic| walk_at "call builtin:len") => `(tactic| (k_here; k_dflt (refine' kst_len (k := 256) ?k1 ?k2 ?k3 ?k4 ?_; (case k1 => k_asm); (case k2 => k_mem); (case k3 => assumption); (case k4 => decide); k_whole)))
set_option maxHeartbeats 4000000 in
theorem polyT_C (B : Below A₀ base outer h₀) (F : Fr h₀ L s.heap m) (X : Frag.In (Mine.hd1.heap_39 w.params) h₀) (N : News h₀ L s.heap news) (T : Top Mine.hd1.view_39 (looseW Mine.hd1.view_39 [Str.ofString "PolynomialRing", Str.ofString "Polynomial"]) mean mg mb h₀) (hk : cs.kind = .function) (hd : dp ≤ 500) (hu : un ≤ 5000) {x dx s1 s2 z l : Addr} {t1 t2 t3 t4 t5 t6 t7 t8 t9 : Tok} {vs : List Value} {nn : Nat} (hx : (x, instObj 392 dx) ∈ news) (hdx : (dx, ringD w.params s1 s2 z t1 t2 t3 t4 t5 t6 t7 t8 t9) ∈ news)
    (hl : (l, listOf vs.toArray nn) ∈ news) (hlen : vs.length = 256) (hxd : @Ne Nat x dx) (hxl : @Ne Nat x l) (hdl : @Ne Nat dx l)
    (hret : ∀ (p dp : Addr) (u1 u2 : Tok) (h' : Heap) (tk' : Nat), Fr h₀ L h' m →
      News h₀ L h' ((p, instObj 592 dp) :: (dp, polyD w.params x l u1 u2) :: news) → (Off p news) → (Off dp news) → @Ne Nat p dp →
      Q (.ref p) { s with heap := h', toks := tk' }) :
    wpAny (model PySem.Challenge.rw_bn0015_01.row.prog w) (ktrTop dp un gd cn cs L a ccd cl outer) (call (.ref x) [.ref l] [(Str.ofString "is_ntt", .bool true)]) Q E s := by
  w_top off; revert X; k_fill; intro X
  obtain ⟨rest, N2, dis, cov⟩ := split_need N [(x, instObj 392 dx), (dx, ringD w.params s1 s2 z t1 t2 t3 t4 t5 t6 t7 t8 t9), (l, listOf vs.toArray nn)]
    (fun q hq => by
      rcases List.mem_cons.mp hq with rfl | hq
      · exact hx
      rcases List.mem_cons.mp hq with rfl | hq
      · exact hdx
      rcases List.mem_cons.mp hq with rfl | hq
      · exact hl
      cases hq)
  have N3 : News h₀ L s.heap [(x, instObj 392 dx), (dx, ringD w.params s1 s2 z t1 t2 t3 t4 t5 t6 t7 t8 t9), (l, listOf vs.toArray nn)] := fun p hp => N2 p (List.mem_append_left _ hp)
  refine wpAny_call ?_
  k_dflt (refine' kco_code ?k1 ?k2 ?k3 ?k4 ?k5 ?k6 ?_; (case k1 => k_in); (case k2 => k_inst); (case k3 => rfl); (case k4 => k_is); (case k5 => k_is); (case k6 => k_is); (try dsimp only))
  k_dflt cell_enter
  clear N2 N3 dis
  have hMk := kstMark
  k_steps
  dsimp only [Back]
  rename News h₀ L _ _ => kN1
  rename Fr h₀ L _ _ => kF1
  revert kN1
  rename News _ _ _ _ => kC1
  intro kN1 kG kR
  refine' hret _ _ _ _ _ _ kF1 (news_cov (out := [(_, instObj 592 _), (_, polyD w.params x l _ _)]) kN1 kR cov) ?d ?e ?f
  case d => exact apart_cov kG kC1 cov (q := (_, instObj 592 _)) (by k_memK) (by k_all)
  case e => exact apart_cov kG kC1 cov (q := (_, polyD w.params x l _ _)) (by k_memK) (by k_all)
  case f => k_ne
set_option maxHeartbeats 4000000 in
theorem polyF_C (B : Below A₀ base outer h₀) (F : Fr h₀ L s.heap m) (X : Frag.In (Mine.hd1.heap_39 w.params) h₀) (N : News h₀ L s.heap news) (T : Top Mine.hd1.view_39 (looseW Mine.hd1.view_39 [Str.ofString "PolynomialRing", Str.ofString "Polynomial"]) mean mg mb h₀) (hk : cs.kind = .function) (hd : dp ≤ 500) (hu : un ≤ 5000) {x dx s1 s2 z l : Addr} {t1 t2 t3 t4 t5 t6 t7 t8 t9 : Tok} {vs : List Value} {nn : Nat} (hx : (x, instObj 392 dx) ∈ news) (hdx : (dx, ringD w.params s1 s2 z t1 t2 t3 t4 t5 t6 t7 t8 t9) ∈ news)
    (hl : (l, listOf vs.toArray nn) ∈ news) (hlen : vs.length = 256) (hxd : @Ne Nat x dx) (hxl : @Ne Nat x l) (hdl : @Ne Nat dx l)
    (hret : ∀ (p dp : Addr) (u1 u2 : Tok) (h' : Heap) (tk' : Nat), Fr h₀ L h' m →
      News h₀ L h' ((p, instObj 528 dp) :: (dp, polyD w.params x l u1 u2) :: news) → (Off p news) → (Off dp news) → @Ne Nat p dp →
      Q (.ref p) { s with heap := h', toks := tk' }) :
    wpAny (model PySem.Challenge.rw_bn0015_01.row.prog w) (ktrTop dp un gd cn cs L a ccd cl outer) (call (.ref x) [.ref l] [(Str.ofString "is_ntt", .bool false)]) Q E s := by
  w_top off; revert X; k_fill; intro X
  obtain ⟨rest, N2, dis, cov⟩ := split_need N [(x, instObj 392 dx), (dx, ringD w.params s1 s2 z t1 t2 t3 t4 t5 t6 t7 t8 t9), (l, listOf vs.toArray nn)]
    (fun q hq => by
      rcases List.mem_cons.mp hq with rfl | hq
      · exact hx
      rcases List.mem_cons.mp hq with rfl | hq
      · exact hdx
      rcases List.mem_cons.mp hq with rfl | hq
      · exact hl
      cases hq)
  have N3 : News h₀ L s.heap [(x, instObj 392 dx), (dx, ringD w.params s1 s2 z t1 t2 t3 t4 t5 t6 t7 t8 t9), (l, listOf vs.toArray nn)] := fun p hp => N2 p (List.mem_append_left _ hp)
  refine wpAny_call ?_
  k_dflt (refine' kco_code ?k1 ?k2 ?k3 ?k4 ?k5 ?k6 ?_; (case k1 => k_in); (case k2 => k_inst); (case k3 => rfl); (case k4 => k_is); (case k5 => k_is); (case k6 => k_is); (try dsimp only))
  k_dflt cell_enter
  clear N2 N3 dis
  have hMk := kstMark
  k_steps
  dsimp only [Back]
  rename News h₀ L _ _ => kN1
  rename Fr h₀ L _ _ => kF1
  revert kN1
  rename News _ _ _ _ => kC1
  intro kN1 kG kR
  refine' hret _ _ _ _ _ _ kF1 (news_cov (out := [(_, instObj 528 _), (_, polyD w.params x l _ _)]) kN1 kR cov) ?d ?e ?f
  case d => exact apart_cov kG kC1 cov (q := (_, instObj 528 _)) (by k_memK) (by k_all)
  case e => exact apart_cov kG kC1 cov (q := (_, polyD w.params x l _ _)) (by k_memK) (by k_all)
  case f => k_ne
set_option maxHeartbeats 4000000 in
theorem poly0_C (B : Below A₀ base outer h₀) (F : Fr h₀ L s.heap m) (X : Frag.In (Mine.hd1.heap_39 w.params) h₀) (N : News h₀ L s.heap news) (T : Top Mine.hd1.view_39 (looseW Mine.hd1.view_39 [Str.ofString "PolynomialRing", Str.ofString "Polynomial"]) mean mg mb h₀) (hk : cs.kind = .function) (hd : dp ≤ 500) (hu : un ≤ 5000) {x dx s1 s2 z l : Addr} {t1 t2 t3 t4 t5 t6 t7 t8 t9 : Tok} {vs : List Value} {nn : Nat} (hx : (x, instObj 392 dx) ∈ news) (hdx : (dx, ringD w.params s1 s2 z t1 t2 t3 t4 t5 t6 t7 t8 t9) ∈ news)
    (hl : (l, listOf vs.toArray nn) ∈ news) (hlen : vs.length = 256) (hxd : @Ne Nat x dx) (hxl : @Ne Nat x l) (hdl : @Ne Nat dx l)
    (hret : ∀ (p dp : Addr) (u1 u2 : Tok) (h' : Heap) (tk' : Nat), Fr h₀ L h' m →
      News h₀ L h' ((p, instObj 528 dp) :: (dp, polyD w.params x l u1 u2) :: news) → (Off p news) → (Off dp news) → @Ne Nat p dp →
      Q (.ref p) { s with heap := h', toks := tk' }) :
    wpAny (model PySem.Challenge.rw_bn0015_01.row.prog w) (ktrTop dp un gd cn cs L a ccd cl outer) (call (.ref x) [.ref l] []) Q E s := by
  w_top off; revert X; k_fill; intro X
  obtain ⟨rest, N2, dis, cov⟩ := split_need N [(x, instObj 392 dx), (dx, ringD w.params s1 s2 z t1 t2 t3 t4 t5 t6 t7 t8 t9), (l, listOf vs.toArray nn)]
    (fun q hq => by
      rcases List.mem_cons.mp hq with rfl | hq
      · exact hx
      rcases List.mem_cons.mp hq with rfl | hq
      · exact hdx
      rcases List.mem_cons.mp hq with rfl | hq
      · exact hl
      cases hq)
  have N3 : News h₀ L s.heap [(x, instObj 392 dx), (dx, ringD w.params s1 s2 z t1 t2 t3 t4 t5 t6 t7 t8 t9), (l, listOf vs.toArray nn)] := fun p hp => N2 p (List.mem_append_left _ hp)
  refine wpAny_call ?_
  k_dflt (refine' kco_code ?k1 ?k2 ?k3 ?k4 ?k5 ?k6 ?_; (case k1 => k_in); (case k2 => k_inst); (case k3 => rfl); (case k4 => k_is); (case k5 => k_is); (case k6 => k_is); (try dsimp only))
  k_dflt cell_enter
  clear N2 N3 dis
  have hMk := kstMark
  k_steps
  dsimp only [Back]
  rename News h₀ L _ _ => kN1
  rename Fr h₀ L _ _ => kF1
  revert kN1
  rename News _ _ _ _ => kC1
  intro kN1 kG kR
  refine' hret _ _ _ _ _ _ kF1 (news_cov (out := [(_, instObj 528 _), (_, polyD w.params x l _ _)]) kN1 kR cov) ?d ?e ?f
  case d => exact apart_cov kG kC1 cov (q := (_, instObj 528 _)) (by k_memK) (by k_all)
  case e => exact apart_cov kG kC1 cov (q := (_, polyD w.params x l _ _)) (by k_memK) (by k_all)
  case f => k_ne
end
end Mine
end
section
open PySem PySem.W PyProof.Rows PySem.Calls PySem.Spec
set_option maxRecDepth 100000
namespace Mine
theorem pick_all (vs : List Value) : slicePick vs.toArray none none none = vs.toArray := by
  have e : sliceBounds none none none vs.toArray.size = (((0 : Nat) : Int), (vs.toArray.size : Int), 1) := by
    unfold sliceBounds
    simp
  rw [kmk_pick_nat _ e]
  simp
theorem pick_to (vs : List Value) (c : Nat) : slicePick vs.toArray none (some (c : Int)) none = (vs.take c).toArray := by
  have e : sliceBounds none (some (c : Int)) none vs.toArray.size = (((0 : Nat) : Int), ((min c vs.length : Nat) : Int), 1) := by
    rw [sliceBounds_plain]
    simp only [Option.elim, List.size_toArray]
    congr 2
    unfold clipAt
    split <;> omega
  rw [kmk_pick_nat _ e]
  simp only [List.drop_zero, Nat.sub_zero]
  congr 1
  rw [List.take_eq_take_min, Nat.min_assoc, Nat.min_self, ← List.take_eq_take_min]
section
variable {prog : Program} {w : World} {A : Around} {E : Value → Shared → Prop} {s : Shared} {h₀ : Heap} {L l : Addr} {m : Str → Option Value} {news : List (Addr × Obj)} {Q : Value → Shared → Prop} {value slice : Expr}
theorem slice_all {vs : List Value} {nn : Nat} (F : Fr h₀ L s.heap m) (N : News h₀ L s.heap news) (hl : (l, listOf vs.toArray nn) ∈ news) (hz : vs.length ≤ 65536)
    (h : ∀ D h', Fr h₀ L h' m → News h₀ L h' ((D, listOf vs.toArray 0) :: news) → (∀ p ∈ news, p.1 < D) → Q (.ref D) { s with heap := h' })
    (hs : subscripted slice false (.ref l) (.ref s.heap.objs.size) = operate [.ref s.heap.objs.size, .ref l] (getItem (.ref l) (.ref s.heap.objs.size))) (ht : ∀ r, letTemporaryGo value (.ref l) r = pure ()) :
    wpAny (model prog w) A (subscriptTail value slice (.ref l) (.ref s.heap.objs.size)) Q E { s with heap := s.heap.push { cls := .type "slice", data := .fields #[.none, .none, .none] } } := by
  have hz' : vs.toArray.size ≤ sizeLine := by rw [List.size_toArray, sizeLine_eq]; omega
  refine kmk_slice F N (News.isList N hl) IsPart.none IsPart.none (fun D h' F' N' l1 => h D h' F' ?_ l1) hs ht hz'
  rw [pick_all] at N'
  exact N'
theorem slice_to {vs : List Value} {nn c : Nat} {tc : Tok} (F : Fr h₀ L s.heap m) (N : News h₀ L s.heap news) (hl : (l, listOf vs.toArray nn) ∈ news) (hz : vs.length ≤ 65536)
    (h : ∀ D h', Fr h₀ L h' m → News h₀ L h' ((D, listOf (vs.take c).toArray 0) :: news) → (∀ p ∈ news, p.1 < D) → Q (.ref D) { s with heap := h' })
    (hs : subscripted slice false (.ref l) (.ref s.heap.objs.size) = operate [.ref s.heap.objs.size, .ref l] (getItem (.ref l) (.ref s.heap.objs.size))) (ht : ∀ r, letTemporaryGo value (.ref l) r = pure ()) :
    wpAny (model prog w) A (subscriptTail value slice (.ref l) (.ref s.heap.objs.size)) Q E { s with heap := s.heap.push { cls := .type "slice", data := .fields #[.none, .int (c : Int) tc, .none] } } := by
  have hz' : vs.toArray.size ≤ sizeLine := by rw [List.size_toArray, sizeLine_eq]; omega
  refine kmk_slice F N (News.isList N hl) IsPart.none (IsPart.int _ _) (fun D h' F' N' l1 => h D h' F' ?_ l1) hs ht hz'
  rw [pick_to] at N'
  exact N'
theorem sub_at {vs : List Value} {ns : List Int} {n : Nat} {k : Int} {u : Tok} (N : News h₀ L s.heap news) (hm : (l, listOf vs.toArray n) ∈ news) (hi : IntsAre vs ns) (h0 : 0 ≤ k) (h1 : k < ns.length) (hfit : k < 2 ^ 63) (h : ∀ t, Q (.int (ns.getD k.toNat 0) t) s)
    (hs : ∀ (k : Int) (u : Tok), subscripted slice false (.ref l) (.int k u) = operate [.ref l, .int k u] (getItem (.ref l) (.int k u))) :
    wpAny (model prog w) A (subscriptTail value slice (.ref l) (.int k u)) Q E s := ksa_sub N hm hi h0 h1 hfit h (hs k u)
end
end Mine
end
section
open PySem PySem.W PyProof.Rows PySem.Calls PySem.Spec
set_option maxRecDepth 100000
namespace Mine
def Stop (P : Prop) : Prop := P
theorem stop_here {P : Prop} (h : Stop P) : P := h
theorem stop_go {P : Prop} (h : P) : Stop P := h
def frS (m₀ u : Str → Option Value) (vars : List Str) (ps : List (Str × Value)) : Str → Option Value := kstB (fun z => if vars.contains z then u z else m₀ z) ps
def LoopSt {σ : Type} (Led : σ → List (Addr × Obj)) (ps : σ → List (Str × Value)) (vars : List Str) (m₀ : Str → Option Value) (P : σ → Prop) (m : Str → Option Value) (nx : List (Addr × Obj)) : Prop :=
  ∃ c : σ, nx = Led c ∧ (∀ p ∈ ps c, m p.1 = some p.2) ∧ (∀ z, (∀ p ∈ ps c, z ≠ p.1) → vars.contains z = false → m z = m₀ z) ∧ P c
section
variable {prog : Program} {w : World} {A : Around} {E : Value → Shared → Prop} {s : Shared} {env : Env} {h₀ : Heap} {x : Str} {body : List Stmt} {Q : Flow → Shared → Prop}
theorem frS_eq {ps : List (Str × Value)} {vars : List Str} {m₀ m₁ : Str → Option Value} (h1 : ∀ p ∈ ps, m₁ p.1 = some p.2) (h2 : ∀ z, (∀ p ∈ ps, z ≠ p.1) → vars.contains z = false → m₁ z = m₀ z) : frS m₀ m₁ vars ps = m₁ := by
  funext y
  refine kstB_eq h1 fun hn => ?_
  show (if vars.contains y = true then m₁ y else m₀ y) = m₁ y
  cases h3 : vars.contains y with
  | true => simp
  | false => simp only [Bool.false_eq_true, if_false]; exact (h2 y hn h3).symm
theorem rng {σ : Type} {r : Addr} {a₀ b₀ : Int} {t₀ u₀ v₀ : Tok} {n : Nat} {m₀ : Str → Option Value} (Led : σ → List (Addr × Obj)) (ps : σ → List (Str × Value)) (vars : List Str) (P : Nat → σ → Prop) (c₀ : σ)
    (hh : A.handled = none) (hr : IsRange s.heap r a₀ b₀ 1 t₀ u₀ v₀) (hsmall : Builtin.Range.small a₀ b₀ 1 = true) (hn : Builtin.Range.rangeSize a₀ b₀ 1 = (n : Int)) (F : Fr h₀ env.locals s.heap m₀) (N : News h₀ env.locals s.heap (Led c₀)) (hk : ∀ p ∈ ps c₀, m₀ p.1 = some p.2) (hp : P 0 c₀)
    (turn : ∀ (c : σ) (i : Nat) t (u : Str → Option Value) h tk own, i < n → OwnOff own ((Led c₀).map (·.1)) → P i c →
      Fr h₀ env.locals h (fun y => if y = x then some (.int (a₀ + (i : Int)) t) else frS m₀ u vars (ps c) y) → News h₀ env.locals h (Led c ++ own) →
      wpAny (model prog w) A (execs body env) (InvPostN h₀ env.locals (LoopSt Led ps vars m₀ (P (i + 1))) own ((Led c₀).map (·.1)) { s with heap := h, toks := tk } Q) E { s with heap := h, toks := tk })
    (done : ∀ (c : σ) (u : Str → Option Value) h tk, P n c → Fr h₀ env.locals h (frS m₀ u vars (ps c)) → News h₀ env.locals h (Led c) → Q .next { s with heap := h, toks := tk }) :
    wpAny (model prog w) A (pyIter (.ref r)) (fun it s₂ => LoopAtV prog w A h₀ env x body Q E it s₂) E s := by
  refine wpAny_pyIter_range hr hsmall ?_
  have W : Walks prog w A s.heap.objs.size [s.heap.objs.size] [s.heap.objs.size] n (fun i v => i < n ∧ ∃ t, v = .int (a₀ + i * 1) t)
      (fun i h => IsRangeIter h s.heap.objs.size (a₀ + (i : Nat) * 1) ((n : Int) - (i : Nat)) 1) := (Walks.range hh _ a₀ 1 n).bound
  refine loop_invN (fun i m nx => LoopSt Led ps vars m₀ (P i) m nx) W ?_ ?_ ?_ ?_ (by show IsRangeIter _ _ _ _ _; rw [hn]; simpa using Heap.get?_push_size _ rfl) (F.push _) (fun p hp => ⟨Heap.get?_push_of_some _ (N p hp).1, (N p hp).2⟩) ⟨c₀, rfl, hk, fun _ _ _ => rfl, hp⟩ ?_ ?_
  · intro hm
    exact absurd F.ns.lt ((List.mem_singleton.mp hm) ▸ Nat.lt_irrefl _)
  · intro b hb
    rw [List.mem_singleton.mp hb]
    exact next_is_new F
  · intro p hp hI
    exact absurd (Heap.lt_size (N p hp).1) ((List.mem_singleton.mp hI) ▸ Nat.lt_irrefl _)
  · intro p hp hI
    exact absurd (Heap.lt_size (N p hp).1) ((List.mem_singleton.mp hI) ▸ Nat.lt_irrefl _)
  · rintro i v m₁ nx h tk own hi ⟨_, t, rfl⟩ _ hoff ⟨c, rfl, h1, h2, hp'⟩ F₁ N₁
    have e1 : a₀ + (i : Int) * 1 = a₀ + (i : Int) := by omega
    rw [e1] at F₁
    refine turn c i t m₁ h tk own hi hoff hp' ?_ N₁
    rw [frS_eq h1 h2]
    exact F₁
  · rintro m₁ nx h tk ⟨c, rfl, h1, h2, hp'⟩ F₁ N₁
    refine done c m₁ h tk hp' ?_ N₁
    rw [frS_eq h1 h2]
    exact F₁
theorem rngS {σ : Type} {r : Addr} {a₀ b₀ c₁ : Int} {t₀ u₀ v₀ : Tok} {n : Nat} {m₀ : Str → Option Value} (Led : σ → List (Addr × Obj)) (ps : σ → List (Str × Value)) (vars : List Str) (P : Nat → σ → Prop) (c₀ : σ)
    (hh : A.handled = none) (hr : IsRange s.heap r a₀ b₀ c₁ t₀ u₀ v₀) (hsmall : Builtin.Range.small a₀ b₀ c₁ = true) (hn : Builtin.Range.rangeSize a₀ b₀ c₁ = (n : Int)) (F : Fr h₀ env.locals s.heap m₀) (N : News h₀ env.locals s.heap (Led c₀)) (hk : ∀ p ∈ ps c₀, m₀ p.1 = some p.2) (hp : P 0 c₀)
    (turn : ∀ (c : σ) (i : Nat) t (u : Str → Option Value) h tk own, i < n → OwnOff own ((Led c₀).map (·.1)) → P i c →
      Fr h₀ env.locals h (fun y => if y = x then some (.int (a₀ + (i : Int) * c₁) t) else frS m₀ u vars (ps c) y) → News h₀ env.locals h (Led c ++ own) →
      wpAny (model prog w) A (execs body env) (InvPostN h₀ env.locals (LoopSt Led ps vars m₀ (P (i + 1))) own ((Led c₀).map (·.1)) { s with heap := h, toks := tk } Q) E { s with heap := h, toks := tk })
    (done : ∀ (c : σ) (u : Str → Option Value) h tk, P n c → Fr h₀ env.locals h (frS m₀ u vars (ps c)) → News h₀ env.locals h (Led c) → Q .next { s with heap := h, toks := tk }) :
    wpAny (model prog w) A (pyIter (.ref r)) (fun it s₂ => LoopAtV prog w A h₀ env x body Q E it s₂) E s := by
  refine wpAny_pyIter_range hr hsmall ?_
  have W : Walks prog w A s.heap.objs.size [s.heap.objs.size] [s.heap.objs.size] n (fun i v => i < n ∧ ∃ t, v = .int (a₀ + i * c₁) t)
      (fun i h => IsRangeIter h s.heap.objs.size (a₀ + (i : Nat) * c₁) ((n : Int) - (i : Nat)) c₁) := (Walks.range hh _ a₀ c₁ n).bound
  refine loop_invN (fun i m nx => LoopSt Led ps vars m₀ (P i) m nx) W ?_ ?_ ?_ ?_ (by show IsRangeIter _ _ _ _ _; rw [hn]; simpa using Heap.get?_push_size _ rfl) (F.push _) (fun p hp => ⟨Heap.get?_push_of_some _ (N p hp).1, (N p hp).2⟩) ⟨c₀, rfl, hk, fun _ _ _ => rfl, hp⟩ ?_ ?_
  · intro hm
    exact absurd F.ns.lt ((List.mem_singleton.mp hm) ▸ Nat.lt_irrefl _)
  · intro b hb
    rw [List.mem_singleton.mp hb]
    exact next_is_new F
  · intro p hp hI
    exact absurd (Heap.lt_size (N p hp).1) ((List.mem_singleton.mp hI) ▸ Nat.lt_irrefl _)
  · intro p hp hI
    exact absurd (Heap.lt_size (N p hp).1) ((List.mem_singleton.mp hI) ▸ Nat.lt_irrefl _)
  · rintro i v m₁ nx h tk own hi ⟨_, t, rfl⟩ _ hoff ⟨c, rfl, h1, h2, hp'⟩ F₁ N₁
    refine turn c i t m₁ h tk own hi hoff hp' ?_ N₁
    rw [frS_eq h1 h2]
    exact F₁
  · rintro m₁ nx h tk ⟨c, rfl, h1, h2, hp'⟩ F₁ N₁
    refine done c m₁ h tk hp' ?_ N₁
    rw [frS_eq h1 h2]
    exact F₁
theorem whl {σ : Type} {L : Addr} {test : Expr} {pos : Pos} {m₀ : Str → Option Value} (Led : σ → List (Addr × Obj)) (ps : σ → List (Str × Value)) (vars : List Str) (P : σ → Prop) (μ : σ → Nat) (c₀ : σ)
    (F : Fr h₀ L s.heap m₀) (N : News h₀ L s.heap (Led c₀)) (hk : ∀ p ∈ ps c₀, m₀ p.1 = some p.2) (hp : P c₀)
    (turn : ∀ (c : σ) (u : Str → Option Value) h tk, P c → Fr h₀ L h (frS m₀ u vars (ps c)) → News h₀ L h (Led c) →
      wpAny (model prog w) A (isTrue test env (eval test env)) (fun b s₂ =>
        if b = true then wpAny (model prog w) A (execs body env) (KswPost h₀ L s Led ps (fun _ => True) vars m₀ P μ Q c) E s₂ else Q .next s₂) E { s with heap := h, toks := tk })
    (hE : PassesOwn (model prog w) A env E) :
    wpAny (model prog w) A (exec (.While test body [] pos) env) Q E s :=
  ksw_while Led ps (fun _ => True) vars P μ c₀ F N trivial hk hp (fun c u h tk _ hp F N => turn c u h tk hp F N) hE
end
end Mine
end
section
namespace Mine
def bf (z : Int) (l j : Nat) (cs : List Int) : List Int :=
  (cs.set (j + l) (cs.getD j 0 - z * cs.getD (j + l) 0)).set j ((cs.set (j + l) (cs.getD j 0 - z * cs.getD (j + l) 0)).getD j 0 + z * cs.getD (j + l) 0)
def blk (z : Int) (l start : Nat) : Nat → List Int → List Int
  | 0, cs => cs
  | i + 1, cs => bf z l (start + i) (blk z l start i cs)
def lay (zs : List Int) (l k0 : Nat) : Nat → List Int → List Int
  | 0, cs => cs
  | b + 1, cs => blk (zs.getD (k0 + b + 1) 0) l (2 * l * b) l (lay zs l k0 b cs)
def ntt (zs : List Int) : Nat → List Int → List Int
  | 0, cs => cs
  | i + 1, cs => lay zs (128 / 2 ^ i) (2 ^ i - 1) (2 ^ i) (ntt zs i cs)
def modTo (d : Nat) (cs : List Int) : List Int := (cs.take d).map (fun c => c % 8380417) ++ cs.drop d
def ibf (z : Int) (l j : Nat) (cs : List Int) : List Int :=
  (((cs.set j (cs.getD j 0 + cs.getD (j + l) 0)).set (j + l) (cs.getD j 0 - (cs.set j (cs.getD j 0 + cs.getD (j + l) 0)).getD (j + l) 0)).set (j + l)
    (z * ((cs.set j (cs.getD j 0 + cs.getD (j + l) 0)).set (j + l) (cs.getD j 0 - (cs.set j (cs.getD j 0 + cs.getD (j + l) 0)).getD (j + l) 0)).getD (j + l) 0))
def iblk (z : Int) (l start : Nat) : Nat → List Int → List Int
  | 0, cs => cs
  | i + 1, cs => ibf z l (start + i) (iblk z l start i cs)
def ilay (zs : List Int) (l k0 : Nat) : Nat → List Int → List Int
  | 0, cs => cs
  | b + 1, cs => iblk (-(zs.getD (k0 - (b + 1)) 0)) l (2 * l * b) l (ilay zs l k0 b cs)
def intt (zs : List Int) : Nat → List Int → List Int
  | 0, cs => cs
  | i + 1, cs => ilay zs (2 ^ i) (256 / 2 ^ i) (128 / 2 ^ i) (intt zs i cs)
def mulTo (d : Nat) (cs : List Int) : List Int := (cs.take d).map (fun c => c * 8347681 % 8380417) ++ cs.drop d
theorem ibf_len (z : Int) (l j : Nat) (cs : List Int) : (ibf z l j cs).length = cs.length := by simp [ibf]
theorem iblk_len (z : Int) (l st : Nat) : ∀ (i : Nat) (cs : List Int), (iblk z l st i cs).length = cs.length
  | 0, _ => rfl
  | i + 1, cs => by rw [iblk, ibf_len, iblk_len z l st i cs]
theorem ilay_len (zs : List Int) (l k0 : Nat) : ∀ (b : Nat) (cs : List Int), (ilay zs l k0 b cs).length = cs.length
  | 0, _ => rfl
  | b + 1, cs => by rw [ilay, iblk_len, ilay_len zs l k0 b cs]
theorem intt_len (zs : List Int) : ∀ (i : Nat) (cs : List Int), (intt zs i cs).length = cs.length
  | 0, _ => rfl
  | i + 1, cs => by rw [intt, ilay_len, intt_len zs i cs]
theorem bf_len (z : Int) (l j : Nat) (cs : List Int) : (bf z l j cs).length = cs.length := by simp [bf]
theorem blk_len (z : Int) (l st : Nat) : ∀ (i : Nat) (cs : List Int), (blk z l st i cs).length = cs.length
  | 0, _ => rfl
  | i + 1, cs => by rw [blk, bf_len, blk_len z l st i cs]
theorem lay_len (zs : List Int) (l k0 : Nat) : ∀ (b : Nat) (cs : List Int), (lay zs l k0 b cs).length = cs.length
  | 0, _ => rfl
  | b + 1, cs => by rw [lay, blk_len, lay_len zs l k0 b cs]
theorem ntt_len (zs : List Int) : ∀ (i : Nat) (cs : List Int), (ntt zs i cs).length = cs.length
  | 0, _ => rfl
  | i + 1, cs => by rw [ntt, lay_len, ntt_len zs i cs]
theorem modTo_len (d : Nat) (cs : List Int) : (modTo d cs).length = cs.length := by
  unfold modTo
  rw [List.length_append, List.length_map, ← List.length_append, List.take_append_drop]
theorem modTo_zero (cs : List Int) : modTo 0 cs = cs := by unfold modTo; simp
theorem modTo_get {d : Nat} {cs : List Int} (h : d < cs.length) : (modTo d cs).getD d 0 = cs.getD d 0 := by
  unfold modTo
  rw [List.getD_eq_getElem?_getD, List.getElem?_append_right (by rw [List.length_map, List.length_take]; omega), List.length_map, List.length_take, Nat.min_eq_left (by omega), Nat.sub_self, List.getElem?_drop, Nat.add_zero, List.getD_eq_getElem?_getD]
theorem modTo_succ {d : Nat} {cs : List Int} (h : d < cs.length) : (modTo d cs).set d (cs.getD d 0 % 8380417) = modTo (d + 1) cs := by
  unfold modTo
  rw [List.set_append_right _ _ (by rw [List.length_map, List.length_take]; omega), List.length_map, List.length_take, Nat.min_eq_left (by omega), Nat.sub_self]
  have e : cs.drop d = cs.getD d 0 :: cs.drop (d + 1) := by
    rw [List.drop_eq_getElem_cons h, List.getD_eq_getElem?_getD, List.getElem?_eq_getElem h]
    rfl
  rw [e, List.set_cons_zero, List.take_add_one, List.map_append, List.getElem?_eq_getElem h, List.getD_eq_getElem?_getD, List.getElem?_eq_getElem h]
  simp
theorem mulTo_len (d : Nat) (cs : List Int) : (mulTo d cs).length = cs.length := by
  unfold mulTo
  rw [List.length_append, List.length_map, ← List.length_append, List.take_append_drop]
theorem mulTo_zero (cs : List Int) : mulTo 0 cs = cs := by unfold mulTo; simp
theorem mulTo_get {d : Nat} {cs : List Int} (h : d < cs.length) : (mulTo d cs).getD d 0 = cs.getD d 0 := by
  unfold mulTo
  rw [List.getD_eq_getElem?_getD, List.getElem?_append_right (by rw [List.length_map, List.length_take]; omega), List.length_map, List.length_take, Nat.min_eq_left (by omega), Nat.sub_self, List.getElem?_drop, Nat.add_zero, List.getD_eq_getElem?_getD]
theorem mulTo_succ {d : Nat} {cs : List Int} (h : d < cs.length) : (mulTo d cs).set d (cs.getD d 0 * 8347681 % 8380417) = mulTo (d + 1) cs := by
  unfold mulTo
  rw [List.set_append_right _ _ (by rw [List.length_map, List.length_take]; omega), List.length_map, List.length_take, Nat.min_eq_left (by omega), Nat.sub_self]
  have e : cs.drop d = cs.getD d 0 :: cs.drop (d + 1) := by
    rw [List.drop_eq_getElem_cons h, List.getD_eq_getElem?_getD, List.getElem?_eq_getElem h]
    rfl
  rw [e, List.set_cons_zero, List.take_add_one, List.map_append, List.getElem?_eq_getElem h, List.getD_eq_getElem?_getD, List.getElem?_eq_getElem h]
  simp
end Mine
end
section
open PySem PySem.W PyProof.Rows PySem.Calls PySem.Spec PySem.NumText
set_option maxRecDepth 100000
namespace Mine
theorem ints_to {vs : List Value} {a b : List Int} (h : IntsAre vs a) (e : a = b) : IntsAre vs b := e ▸ h
theorem zetaL_len : zetaL.length = 256 := by unfold zetaL; rw [List.length_map, List.length_range]
theorem zetaL_bnd (i : Nat) : 0 ≤ zetaL.getD i 0 ∧ zetaL.getD i 0 < 8380417 := by
  by_cases h : i < 256
  · have e : zetaL.getD i 0 = ((Builtin.powMod 1753 (brv i) 8380417 : Nat) : Int) := by
      unfold zetaL
      rw [List.getD_eq_getElem?_getD, List.getElem?_map, List.getElem?_range h]
      rfl
    have hb := (by decide +kernel : ((List.range 256).all fun i => decide (Builtin.powMod 1753 (brv i) 8380417 < 8380417)) = true)
    have hc := of_decide_eq_true (List.all_eq_true.mp hb i (List.mem_range.mpr h))
    rw [e]
    omega
  · rw [List.getD_eq_getElem?_getD, List.getElem?_eq_none (by rw [zetaL_len]; omega)]
    exact ⟨by decide, by decide⟩
local macro_rules | `(tactic| k_room) => `(tactic| first | (refine lt_rl ?_; (try simp only [depth_under_make, depth_under_kw, depth_in1, depth_deeper, depth_caller]); (try dsimp only [ktrTop]); omega) | ((try simp only [depth_under_make, depth_under_kw, depth_in1, depth_deeper, depth_caller]); (try dsimp only [ktrTop]); omega))
local macro_rules | `(tactic| k_units) => `(tactic| first | (refine lt_cl ?_; (try simp only [units_in1, units_deeper, units_under_make, Around.mark_units, units_caller]); (try dsimp only [ktrTop]); omega) | ((try simp only [units_in1, units_deeper, units_under_make, Around.mark_units, units_caller]); (try dsimp only [ktrTop]); omega))
local macro_rules | `(tactic| ktr_room) => `(tactic| k_room)
local macro_rules | `(tactic| ktr_units) => `(tactic| k_units)
local macro_rules | `(tactic| k_enter) => `(tactic| (refine' code_defC ?k1 ?k2 ?k3 ?k4 ?k5 ?kA ?kF ?kK ?k6 ?k7 ?k8 ?k9 ?kB ?kD ?_ ?c2 ?c3 ?c4; (case kA => exact rfl); (case kF => exact rfl); (case kK => first | exact rfl | assumption); (case k1 => k_asm); (case k2 => k_asm); (case k3 => k_asm); (case k4 => k_asm); (case k5 => k_asm); (case k6 => k_is); (case k7 => k_is); (case k8 => k_room); (case k9 => first | exact BindsTo.of_eq rfl | exact binds_K (by k_in) rfl (by k_is) rfl rfl rfl | fail "k_enter: no rule for these arguments"); (case kB => exact rfl); (case kD => decide +kernel); (case c2 => exact rfl); (case c3 => exact rfl); (case c4 => exact rfl); k_whole; intro g' L' h' tk' cells' FG' F' N' Y' B' X' T' l1; (try k_lt l1); k_cells Y'; (try simp only [List.cons_append, List.nil_append] at N'); (try dsimp only); (try k_lift B'); (try k_fold)))
local macro_rules | `(tactic| k_enter) => `(tactic| (refine' code_def ?k1 ?k2 ?k3 ?k4 ?k5 ?kA ?kF ?kK ?k6 ?k7 ?k8 ?k9 ?kB ?_ ?c2 ?c3 ?c4 ?c5; (case kA => exact rfl); (case kF => exact rfl); (case kK => first | exact rfl | assumption); (case k1 => k_asm); (case k2 => k_asm); (case k3 => k_asm); (case k4 => k_asm); (case k5 => k_asm); (case k6 => k_is); (case k7 => k_is); (case k8 => k_room); (case k9 => first | exact BindsTo.of_eq rfl | exact binds_K (by k_in) rfl (by k_is) rfl rfl rfl | fail "k_enter: no rule for these arguments"); (case c5 => decide); (case kB => exact locs rfl); (case c2 => exact rfl); (case c3 => exact rfl); (case c4 => exact rfl); k_whole; intro g' L' h' FG' F' N' B' X' T'; (try dsimp only); (try k_lift B'); (try k_fold)))
local macro_rules | `(tactic| cell_enter) => `(tactic| (refine' enterF ?k1 ?k2 ?k3 ?k4 ?kdis ?k5 ?kA ?kF ?kK ?k6 ?k7 ?k8 ?k9 ?kB ?_ ?c2 ?c3 ?c4 ?c5; (case kA => exact rfl); (case kF => exact rfl); (case kK => first | exact rfl | assumption); (case k1 => k_asm); (case k2 => k_asm); (case k3 => k_asm); (case k4 => assumption); (case kdis => assumption); (case k5 => k_asm); (case k6 => k_is); (case k7 => k_is); (case k8 => k_room); (case k9 => first | exact BindsTo.of_eq rfl | exact binds_K (by k_in) rfl (by k_is) rfl rfl rfl | fail "k_enter: no rule for these arguments"); (case c5 => decide); (case kB => exact locs rfl); (case c2 => exact rfl); (case c3 => exact rfl); (case c4 => exact rfl); k_whole; intro g' L' h' F' N' B' X' T' l1; (try k_lt l1); (try dsimp only); (try k_fold)))
local macro_rules | `(tactic| ktr_enter) => `(tactic| (refine' enterFC ?k1 ?k2 ?k3 ?k4 ?kdis ?k5 ?kA ?kF ?kK ?k6 ?k7 ?k8 ?k9 ?kB ?kD ?_ ?c2 ?c3 ?c4; (case kA => exact rfl); (case kF => exact rfl); (case kK => first | exact rfl | assumption); (case k1 => k_asm); (case k2 => k_asm); (case k3 => k_asm); (case k4 => assumption); (case kdis => assumption); (case k5 => k_asm); (case k6 => k_is); (case k7 => k_is); (case k8 => k_room); (case k9 => first | exact BindsTo.of_eq rfl | exact binds_K (by k_in) rfl (by k_is) rfl rfl rfl | fail "k_enter: no rule for these arguments"); (case kB => exact rfl); (case kD => decide +kernel); (case c2 => exact rfl); (case c3 => exact rfl); (case c4 => exact rfl); k_whole; intro g' L' h' tk' cells' F' N' Y' B' X' T' l1; (try k_lt l1); k_cells Y'; (try simp only [List.cons_append, List.nil_append] at N'); (try dsimp only); (try k_fold)))
local macro_rules | `(tactic| walk_at "subscriptTail Name Slice ref ref") => `(tactic| (k_here; (with_reducible show wpAny _ _ (subscriptTail _ (PySem.Expr.Slice none none none _) (Value.ref _) (Value.ref _)) _ _ _); k_dflt (refine' slice_all ?F ?N ?l ?z ?_ ?s ?t; (case F => k_asm); (case N => k_asm); (case l => k_mem); (case z => first | omega | assumption); (case s => with_unfolding_all rfl); (case t => kmk_pure)); intro D' h' F' N' l1; (try k_lt l1); (try k_sweep)))
local macro_rules | `(tactic| ksw_same) => `(tactic| (intro z h2 h3; (try simp only [List.forall_mem_cons, List.not_mem_nil, false_implies, implies_true, and_true, ne_eq] at h2); (try simp only [List.contains_cons, List.contains_nil, Bool.or_false, Bool.or_eq_false_iff, beq_eq_false_iff_ne, ne_eq] at h3); simp [frS, kstB, h2, h3]))
local macro_rules | `(tactic| walk_at "getMethod ref") => `(tactic| (k_here; k_dflt (first
  | (refine' method_inst ?k1 ?k2 ?k3 ?k4 ?k5 ?k6 ?k7 ?_; (case k1 => k_asm); (case k2 => k_asm); (case k3 => k_inst); (case k4 => k_is); (case k5 => k_is); (case k6 => k_is); (case k7 => k_get); k_whole)
  | (refine' kmu_own ?k1 ?k2 ?k3 ?k4 ?k5 ?_; (case k1 => k_asm); (case k2 => k_asm); (case k3 => k_inst); (case k4 => k_is); (case k5 => k_is); k_whole))))
local macro_rules | `(tactic| walk_at "callWith") => `(tactic| (k_here; (with_reducible show wpAny _ _ (callWith _ _ _ _ (backToKw _ _)) _ _ _); k_dflt (show wpAny _ _ (callWith _ (Value.ref _) _ (backTo _ (starEach (_ :: _) _)) (backToKw _ (keywordEach (_ :: _) _))) _ _ _); k_dflt (refine' kco_callWithKW ?k1 ?k2 ?k3 ?_; (case k1 => k_inst); (case k2 => rfl); (case k3 => rfl); k_whole)))
local macro_rules | `(tactic| walk_at "subscriptTail") => `(tactic| (k_here; (with_reducible show wpAny _ _ (subscriptTail _ _ (Value.ref _) (Value.int _ _)) _ _ _); k_dflt (refine' sub_at ?k1 ?k2 ?k3 ?k4 ?k5 ?k6 ?_ ?k7; (case k1 => k_asm); (case k2 => k_mem); (case k3 => with_reducible assumption); (case k4 => omega); (case k5 => ((try simp only [List.length_set, bf_len, blk_len, lay_len, ntt_len, modTo_len, zetaL_len]); omega)); (case k6 => omega); (case k7 => (intro _ _; with_unfolding_all rfl)); k_whole); intro _))
local macro_rules | `(tactic| walk_at "subscriptTail Name Name ref int") => `(tactic| (k_here; (with_reducible show wpAny _ _ (subscriptTail _ _ (Value.ref _) (Value.int _ _)) _ _ _); k_dflt (refine' sub_at ?k1 ?k2 ?k3 ?k4 ?k5 ?k6 ?_ ?k7; (case k1 => k_asm); (case k2 => k_mem); (case k3 => with_reducible assumption); (case k4 => omega); (case k5 => ((try simp only [List.length_set, bf_len, blk_len, lay_len, ntt_len, modTo_len, zetaL_len]); omega)); (case k6 => omega); (case k7 => (intro _ _; with_unfolding_all rfl)); k_whole); intro _))
local macro_rules | `(tactic| walk_at "subscriptTail Name BinOp ref int") => `(tactic| (k_here; (with_reducible show wpAny _ _ (subscriptTail _ _ (Value.ref _) (Value.int _ _)) _ _ _); k_dflt (refine' sub_at ?k1 ?k2 ?k3 ?k4 ?k5 ?k6 ?_ ?k7; (case k1 => k_asm); (case k2 => k_mem); (case k3 => with_reducible assumption); (case k4 => omega); (case k5 => ((try simp only [List.length_set, bf_len, blk_len, lay_len, ntt_len, modTo_len, zetaL_len]); omega)); (case k6 => omega); (case k7 => (intro _ _; with_unfolding_all rfl)); k_whole); intro _))
local macro_rules | `(tactic| walk_at "setItem ref int") => `(tactic| (k_here; (with_reducible show wpAny _ _ (setItem (Value.ref _) (Value.int _ _) (Value.int _ _)) _ _ _); k_dflt (refine' ksa_set ?k1 ?k2 ?k3 ?k4 ?k5 ?k6 ?k7 ?_; (case k1 => k_asm); (case k2 => k_asm); (case k3 => k_upd); (case k4 => with_reducible assumption); (case k5 => omega); (case k6 => ((try simp only [List.length_set, bf_len, blk_len, lay_len, ntt_len, modTo_len, zetaL_len]); omega)); (case k7 => omega); k_whole); intro h' F' N' hi' hl' hs'; (try k_sweep)))
local macro_rules | `(tactic| walk_at "exec While Compare cons nil") => `(tactic| (refine stop_here ?_))
local macro_rules | `(tactic| walk_at "call ref") => `(tactic| (k_here; k_dflt (show wpAny _ _ (call (Value.ref _) [Value.ref _] [(_, Value.bool true)]) _ _ _); k_dflt (refine' polyT_C ?k1 ?k2 ?k3 ?k4 ?k5 ?kK ?kd ?ku ?m1 ?m2 ?m3 ?kl ?n1 ?n2 ?n3 ?_; (case k1 => k_asm); (case k2 => k_asm); (case k3 => k_asm); (case k4 => k_asm); (case k5 => k_asm); (case kK => first | exact rfl | assumption); (case kd => k_room); (case ku => k_units); (case m1 => k_mem); (case m2 => k_mem); (case m3 => k_mem); (case kl => assumption); (case n1 => k_ne); (case n2 => k_ne); (case n3 => k_ne)); intro p9 d9 u9 v9 h9 tk9 F9 N9 a9 b9 c9; (try dsimp only); (try k_fold); (try k_sweep)))
local macro_rules | `(tactic| walk_at "pyIter ref") => `(tactic| (refine stop_here ?_))
local macro_rules | `(tactic| walk_at "exec For Name Call cons nil") => `(tactic| (refine stop_here ?_))
section
variable {w : World} {mean : ExcName → Option Value} {mg mb : Str → Option Value} {dp un : Nat} {gd : Option (List Code)} {cn : Str} {cs : Scope} {a : Addr} {ccd : Value} {cl : List (Str × Addr)} {outer : List Env} {A₀ : Around} {base h₀ : Heap} {L : Addr} {m : Str → Option Value} {news : List (Addr × Obj)} {s : Shared} {Q E : Value → Shared → Prop}
set_option maxHeartbeats 4000000 in
theorem ntt_C (B : Below A₀ base outer h₀) (F : Fr h₀ L s.heap m) (X : Frag.In (Mine.hd1.heap_39 w.params) h₀) (N : News h₀ L s.heap news) (T : Top Mine.hd1.view_39 (looseW Mine.hd1.view_39 [Str.ofString "PolynomialRing", Str.ofString "Polynomial"]) mean mg mb h₀) (hk : cs.kind = .function) (hd : dp ≤ 400) (hu : un ≤ 4000) {p qd x dx s1 s2 z l : Addr} {u1 u2 t1 t2 t3 t4 t5 t6 t7 t8 t9 : Tok} {vs zs : List Value} {nn : Nat} {ns : List Int} (hp : (p, instObj 528 qd) ∈ news) (hpd : (qd, polyD w.params x l u1 u2) ∈ news)
    (hx : (x, instObj 392 dx) ∈ news) (hdx : (dx, ringD w.params s1 s2 z t1 t2 t3 t4 t5 t6 t7 t8 t9) ∈ news) (hz : (z, LCg.lst zs) ∈ news)
    (hl : (l, listOf vs.toArray nn) ∈ news) (e1 : @Ne Nat x dx) (hlen : ns.length = 256) (hi : IntsAre vs ns) (hzi : IntsAre zs zetaL)
    (hret : ∀ (p2 qd2 c2 : Addr) (w1 w2 : Tok) (ws : List Value) (h' : Heap) (tk' : Nat), IntsAre ws (modTo 256 (ntt zetaL 8 ns)) → Fr h₀ L h' m →
      News h₀ L h' ((p2, instObj 592 qd2) :: (qd2, polyD w.params x c2 w1 w2) :: (c2, listOf ws.toArray 0) :: news) →
      (Off p2 news) → (Off qd2 news) → (Off c2 news) → @Ne Nat p2 qd2 → @Ne Nat c2 p2 → @Ne Nat c2 qd2 →
      Q (.ref p2) { s with heap := h', toks := tk' }) :
    wpAny (model PySem.Challenge.rw_bn0015_01.row.prog w) (ktrTop dp un gd cn cs L a ccd cl outer) (call (.ref 415) [.ref p]) Q E s := by
  w_top off; revert X; k_fill; intro X
  obtain ⟨rest, N2, dis, cov⟩ := split_need N [(p, instObj 528 qd), (qd, polyD w.params x l u1 u2), (x, instObj 392 dx), (dx, ringD w.params s1 s2 z t1 t2 t3 t4 t5 t6 t7 t8 t9), (z, LCg.lst zs), (l, listOf vs.toArray nn)]
    (fun q hq => by
      rcases List.mem_cons.mp hq with rfl | hq
      · exact hp
      rcases List.mem_cons.mp hq with rfl | hq
      · exact hpd
      rcases List.mem_cons.mp hq with rfl | hq
      · exact hx
      rcases List.mem_cons.mp hq with rfl | hq
      · exact hdx
      rcases List.mem_cons.mp hq with rfl | hq
      · exact hz
      rcases List.mem_cons.mp hq with rfl | hq
      · exact hl
      cases hq)
  refine wpAny_call ?_
  k_dflt cell_enter
  clear N2 dis
  have hMk := kstMark
  have hv : vs.length = 256 := hi.length.trans hlen
  k_steps
  refine stop_go ?_
  rename_i g L1 h1 B1 X1 T1 lA D0 h2 lB h3 h4 h5 D h6 lC h7 h8 F1 N1
  have hDn : ∀ q ∈ [(p, instObj 528 qd), (qd, polyD w.params x l u1 u2), (x, instObj 392 dx), (dx, ringD w.params s1 s2 z t1 t2 t3 t4 t5 t6 t7 t8 t9), (z, LCg.lst zs), (l, listOf vs.toArray nn)], @Ne Nat q.1 D := by k_all
  k_dflt refine' whl (σ := List Value × (Int × Tok) × (Int × Tok))
    (fun c => [(D, listOf c.1.toArray 0), (p, instObj 528 qd), (qd, polyD w.params x l u1 u2), (x, instObj 392 dx), (dx, ringD w.params s1 s2 z t1 t2 t3 t4 t5 t6 t7 t8 t9), (z, LCg.lst zs), (l, listOf vs.toArray nn)])
    (fun c => [(Str.ofString "k", .int c.2.1.1 c.2.1.2), (Str.ofString "l", .int c.2.2.1 c.2.2.2)])
    [Str.ofString "start", Str.ofString "zeta", Str.ofString "j", Str.ofString "t"]
    (fun c => ∃ i, i ≤ 8 ∧ c.2.1.1 = ((2 ^ i - 1 : Nat) : Int) ∧ c.2.2.1 = ((128 / 2 ^ i : Nat) : Int) ∧ IntsAre c.1 (ntt zetaL i ns))
    (fun c => c.2.2.1.toNat) (vs, (0, _), (128, _)) F1 ?N ?hk ?hp ?turn ?hE
  case N =>
    intro q hq
    rcases List.mem_cons.mp hq with rfl | hq
    · exact N1 _ (.head _)
    · exact N1 _ (.tail _ (.tail _ hq))
  case hk => kst_all
  case hp => exact ⟨0, by decide, rfl, rfl, hi⟩
  case hE => first | passes_own | with_unfolding_all passes_own
  clear N1 F1
  rintro ⟨vs2, ⟨k, tk1⟩, ⟨lI, tl1⟩⟩ u h9 tk9 ⟨i, hi8, hk2, hl2, hI⟩ F2 N2
  dsimp only at hk2 hl2 hI N2 F2
  have hIb := hI
  subst hk2
  subst hl2
  have hv2 : vs2.length = 256 := hI.length.trans ((ntt_len _ _ _).trans hlen)
  rcases Nat.lt_or_ge i 8 with hi9 | hi9
  · have h256 : 2 * (128 / 2 ^ i) * 2 ^ i = 256 := (by decide : ∀ i, i < 8 → 2 * (128 / 2 ^ i) * 2 ^ i = 256) i hi9
    have hl1 : 1 ≤ 128 / 2 ^ i := (by decide : ∀ i, i < 8 → 1 ≤ 128 / 2 ^ i) i hi9
    have hn128 : 2 ^ i ≤ 128 := (by decide : ∀ i, i < 8 → 2 ^ i ≤ 128) i hi9
    obtain ⟨lN, hlN⟩ : ∃ a, a = 128 / 2 ^ i := ⟨_, rfl⟩
    obtain ⟨n2, hn2⟩ : ∃ a, a = 2 ^ i := ⟨_, rfl⟩
    rw [← hlN, ← hn2] at h256
    rw [← hlN] at hl1
    rw [← hn2] at hn128
    rw [← hlN, ← hn2] at F2
    k_steps
    refine stop_go ?_
    rename Fr g L1 _ _ => F3
    rename News g L1 _ _ => N3
    k_dflt refine' whl (σ := List Value × (Int × Tok) × (Int × Tok))
      (fun c => [(D, listOf c.1.toArray 0), (p, instObj 528 qd), (qd, polyD w.params x l u1 u2), (x, instObj 392 dx), (dx, ringD w.params s1 s2 z t1 t2 t3 t4 t5 t6 t7 t8 t9), (z, LCg.lst zs), (l, listOf vs.toArray nn)])
      (fun c => [(Str.ofString "k", .int c.2.1.1 c.2.1.2), (Str.ofString "start", .int c.2.2.1 c.2.2.2)])
      [Str.ofString "zeta", Str.ofString "j", Str.ofString "t"]
      (fun c => ∃ b, b ≤ n2 ∧ c.2.1.1 = ((n2 - 1 + b : Nat) : Int) ∧ c.2.2.1 = ((2 * lN * b : Nat) : Int) ∧ IntsAre c.1 (lay zetaL lN (n2 - 1) b (ntt zetaL i ns)))
      (fun c => (256 - c.2.2.1).toNat) (vs2, (_, tk1), (0, _)) F3 N3 ?hk2 ?hp2 ?turn2 ?hE2
    case hk2 => kst_all
    case hp2 => exact ⟨0, Nat.zero_le _, rfl, by simp, hI⟩
    case hE2 => first | passes_own | with_unfolding_all passes_own
    clear N3 F3 hI hIb
    rintro ⟨vs3, ⟨k3, tk3⟩, ⟨st, ts⟩⟩ u2' h10 tk10 ⟨b, hb, e1, e2, hI3⟩ F4 N4
    dsimp only at e1 e2 hI3 N4 F4
    have hI3b := hI3
    subst e1
    subst e2
    have hv3 : vs3.length = 256 := hI3.length.trans ((lay_len _ _ _ _ _).trans ((ntt_len _ _ _).trans hlen))
    rcases Nat.lt_or_ge b n2 with hb9 | hb9
    · have hs256 : 2 * lN * b + 2 * lN ≤ 256 := by
        rw [← h256, ← Nat.mul_succ]
        exact Nat.mul_le_mul_left _ hb9
      obtain ⟨sN, hsN⟩ : ∃ a, a = 2 * lN * b := ⟨_, rfl⟩
      rw [← hsN] at hs256 F4
      k_steps
      refine stop_go ?_
      rename Fr g L1 _ _ => F5
      with_unfolding_all refine' For_invVF F5 ?hx5 ?hp5 ?_
      case hx5 => exact rfl
      case hp5 => exact rfl
      k_steps
      refine stop_go ?_
      rename Fr g L1 _ _ => F6
      rename News g L1 _ _ => N6
      rename IsRange _ _ _ _ _ _ _ _ => R6
      have zb := zetaL_bnd (n2 - 1 + b + 1)
      have ze : ((n2 - 1 + b : Nat) + 1 : Int).toNat = n2 - 1 + b + 1 := by omega
      rw [ze] at F6
      generalize hz9 : zetaL.getD (n2 - 1 + b + 1) 0 = z9 at F6 zb
      k_dflt refine' rng (σ := List Value × (Int × Tok)) (n := lN)
        (fun c => [(D, listOf c.1.toArray 0), (p, instObj 528 qd), (qd, polyD w.params x l u1 u2), (x, instObj 392 dx), (dx, ringD w.params s1 s2 z t1 t2 t3 t4 t5 t6 t7 t8 t9), (z, LCg.lst zs), (l, listOf vs.toArray nn)])
        (fun c => [(Str.ofString "j", .int c.2.1 c.2.2)])
        [Str.ofString "t"]
        (fun d c => (d = 0 ∨ c.2.1 = ((sN + d - 1 : Nat) : Int)) ∧ IntsAre c.1 (blk z9 lN sN d (lay zetaL lN (n2 - 1) b (ntt zetaL i ns))))
        (vs3, (_, ts)) rfl R6 ?sm ?sz F6 N6 ?hk3 ?hp3 ?turn3 ?done3
      case sm => exact small_one (by omega) (by omega) (by omega) (by omega)
      case sz => rw [rangeSize_nat]; omega
      case hk3 => kst_all
      case hp3 => exact ⟨.inl rfl, hI3⟩
      case turn3 =>
        clear N6 F6 R6
        rintro ⟨vs4, ⟨j4, tj4⟩⟩ d t4' u4 h11 tk11 own hd9 off ⟨hj4, hI4⟩ F7 N7
        dsimp only at hj4 hI4 N7 F7
        have hv4 : vs4.length = 256 := hI4.length.trans ((blk_len _ _ _ _ _).trans ((lay_len _ _ _ _ _).trans ((ntt_len _ _ _).trans hlen)))
        k_steps
        rename Fr g L1 _ _ => F8
        rename News g L1 _ _ => N8
        rename IntsAre _ _ => I8
        have q1 : ((sN : Int) + (d : Int)).toNat = sN + d := by omega
        have q2 : ((sN : Int) + (d : Int) + (lN : Int)).toNat = sN + d + lN := by omega
        k_dflt refine' InvEndN.intro F8 N8 ⟨(_, (_, _)), rfl, ?hk4, ?hr4, ⟨.inr ?hj, ints_to I8 ?hI⟩⟩ rfl ?hn4 ?ho4
        case hk4 => kst_all
        case hr4 => ksw_same
        case hj => show ((sN : Int) + (d : Int)) = ((sN + (d + 1) - 1 : Nat) : Int); omega
        case hI => simp only [blk, bf, q1, q2]
        case hn4 => k_allIn
        case ho4 => intro q hq; k_ownIn
      case done3 =>
        rintro ⟨vs4, ⟨j4, tj4⟩⟩ u4 h11 tk11 ⟨hj4, hI4⟩ F7 N7
        dsimp only at hj4 hI4 N7 F7
        rcases hj4 with hj4 | hj4
        · omega
        subst hj4
        k_steps
        rename Fr g L1 _ _ => F8
        rename News g L1 _ _ => N8
        subst hz9
        k_dflt refine' ksw_end (_, ((_, _), (_, _))) F8 N8 ?hn5 trivial ?hk5 ?hr5 ⟨b + 1, hb9, ?hka, ?hkb, ints_to hI4 (by rw [hsN, lay])⟩ ?hm5
        case hn5 => k_allIn
        case hk5 => kst_all
        case hr5 => ksw_same
        case hka => show (((n2 - 1 + b : Nat) : Int) + 1) = ((n2 - 1 + (b + 1) : Nat) : Int); omega
        case hkb => show ((lN : Int) + (((sN + lN - 1 : Nat) : Int) + 1)) = ((2 * lN * (b + 1) : Nat) : Int); rw [Nat.mul_succ, ← hsN]; omega
        case hm5 => show (256 - ((lN : Int) + (((sN + lN - 1 : Nat) : Int) + 1))).toNat < (256 - ((2 * lN * b : Nat) : Int)).toNat; rw [← hsN]; omega
    · have hbn : b = n2 := Nat.le_antisymm hb hb9
      subst hbn
      rw [h256] at F4
      k_steps
      rename Fr g L1 _ _ => F8
      rename News g L1 _ _ => N8
      have hl9 : (lN : Int).fdiv (2 ^ Int.toNat 1) = ((128 / 2 ^ (i + 1) : Nat) : Int) := by
        rw [hlN]
        exact (by decide : ∀ i, i < 8 → ((128 / 2 ^ i : Nat) : Int).fdiv (2 ^ Int.toNat 1) = ((128 / 2 ^ (i + 1) : Nat) : Int)) i hi9
      have hl8 : 128 / 2 ^ (i + 1) < lN := by
        rw [hlN]
        exact (by decide : ∀ i, i < 8 → 128 / 2 ^ (i + 1) < 128 / 2 ^ i) i hi9
      have hb1 : 1 ≤ b := by rw [hn2]; exact Nat.one_le_two_pow
      k_dflt refine' ksw_end (_, ((_, _), (_, _))) F8 N8 ?hn6 trivial ?hk6 ?hr6 ⟨i + 1, hi9, ?hkc, hl9, ints_to hI3 (by rw [ntt, ← hlN, ← hn2])⟩ ?hm6
      case hn6 => k_allIn
      case hk6 => kst_all
      case hr6 => ksw_same
      case hkc => show ((b - 1 + b : Nat) : Int) = ((2 ^ (i + 1) - 1 : Nat) : Int); rw [Nat.pow_succ, ← hn2]; omega
      case hm6 => show ((lN : Int).fdiv (2 ^ Int.toNat 1)).toNat < ((128 / 2 ^ i : Nat) : Int).toNat; rw [hl9, ← hlN]; omega
  · have e8 : i = 8 := by omega
    subst e8
    k_steps
    refine stop_go ?_
    rename Fr g L1 _ _ => F5
    with_unfolding_all refine' For_invVF F5 ?hx7 ?hp7 ?_
    case hx7 => exact rfl
    case hp7 => exact rfl
    k_steps
    refine stop_go ?_
    rename Fr g L1 _ _ => F6
    rename News g L1 _ _ => N6
    rename IsRange _ _ _ _ _ _ _ _ => R6
    k_dflt refine' rng (σ := List Value) (n := 256)
      (fun c => [(D, listOf c.toArray 0), (p, instObj 528 qd), (qd, polyD w.params x l u1 u2), (x, instObj 392 dx), (dx, ringD w.params s1 s2 z t1 t2 t3 t4 t5 t6 t7 t8 t9), (z, LCg.lst zs), (l, listOf vs.toArray nn)])
      (fun _ => [])
      [Str.ofString "j"]
      (fun d c => IntsAre c (modTo d (ntt zetaL 8 ns)))
      vs2 rfl R6 ?sm7 ?sz7 F6 N6 ?hk7 ?hq7 ?turn7 ?done7
    case sm7 => exact small_one (by omega) (by omega) (by omega) (by omega)
    case sz7 => rfl
    case hk7 => kst_all
    case hq7 => exact ints_to hI (modTo_zero _).symm
    case turn7 =>
      clear N6 F6 R6
      rintro vs4 d t4' u4 h11 tk11 own hd9 off hI4 F7 N7
      (try dsimp only at hI4 N7 F7)
      have hv4 : vs4.length = 256 := hI4.length.trans ((modTo_len _ _).trans ((ntt_len _ _ _).trans hlen))
      k_steps
      rename Fr g L1 _ _ => F8
      rename News g L1 _ _ => N8
      rename IntsAre _ _ => I8
      have q1 : ((0 : Int) + (d : Int)).toNat = d := by omega
      have hd2 : d < (ntt zetaL 8 ns).length := by rw [ntt_len]; omega
      k_dflt refine' InvEndN.intro F8 N8 ⟨_, rfl, ?hk8, ?hr8, ints_to I8 ?hI8⟩ rfl ?hn8 ?ho8
      case hk8 => kst_all
      case hr8 => ksw_same
      case hI8 => rw [q1, modTo_get hd2, Int.fmod_eq_emod_of_nonneg _ (by decide), modTo_succ hd2]
      case hn8 => k_allIn
      case ho8 => intro q hq; k_ownIn
    case done7 =>
      rintro vs4 u4 h11 tk11 hI4 F7 N7
      (try dsimp only at hI4 N7 F7)
      have hv4 : vs4.length = 256 := hI4.length.trans ((modTo_len _ _).trans ((ntt_len _ _ _).trans hlen))
      k_steps
      dsimp only [Back]
      rename News h₀ L _ _ => kN1
      rename Fr h₀ L _ _ => kF1
      revert kN1
      rename News g L1 _ _ => kC1
      intro kN1 kG kR
      rename Off _ _ => hB
      revert hB
      rename Off _ _ => hA
      intro hB
      refine' hret _ _ D _ _ vs4 _ _ hI4 kF1 (news_cov (out := [(_, instObj 592 _), (_, polyD w.params x D _ _), (D, listOf vs4.toArray 0)]) kN1 kR cov) ?yd ?ye ?yf ?yg ?yh ?yi
      case yd => exact apart_cov kG kC1 cov (q := (_, instObj 592 _)) (.head _) hA.tail
      case ye => exact apart_cov kG kC1 cov (q := (_, polyD w.params x D _ _)) (.tail _ (.head _)) hB.tail
      case yf => exact apart_cov kG kC1 cov (q := (D, listOf vs4.toArray 0)) (.tail _ (.tail _ (.head _))) hDn
      case yg => assumption
      case yh => exact hA.head
      case yi => exact hB.head
end
end Mine
end
section
open PySem PySem.W PyProof.Rows PySem.Calls PySem.Spec PySem.NumText
set_option maxRecDepth 100000
namespace Mine
local macro_rules | `(tactic| k_room) => `(tactic| first | (refine lt_rl ?_; (try simp only [depth_under_make, depth_under_kw, depth_in1, depth_deeper, depth_caller]); (try dsimp only [ktrTop]); omega) | ((try simp only [depth_under_make, depth_under_kw, depth_in1, depth_deeper, depth_caller]); (try dsimp only [ktrTop]); omega))
local macro_rules | `(tactic| k_units) => `(tactic| first | (refine lt_cl ?_; (try simp only [units_in1, units_deeper, units_under_make, Around.mark_units, units_caller]); (try dsimp only [ktrTop]); omega) | ((try simp only [units_in1, units_deeper, units_under_make, Around.mark_units, units_caller]); (try dsimp only [ktrTop]); omega))
local macro_rules | `(tactic| ktr_room) => `(tactic| k_room)
local macro_rules | `(tactic| ktr_units) => `(tactic| k_units)
local macro_rules | `(tactic| k_enter) => `(tactic| (refine' code_defC ?k1 ?k2 ?k3 ?k4 ?k5 ?kA ?kF ?kK ?k6 ?k7 ?k8 ?k9 ?kB ?kD ?_ ?c2 ?c3 ?c4; (case kA => exact rfl); (case kF => exact rfl); (case kK => first | exact rfl | assumption); (case k1 => k_asm); (case k2 => k_asm); (case k3 => k_asm); (case k4 => k_asm); (case k5 => k_asm); (case k6 => k_is); (case k7 => k_is); (case k8 => k_room); (case k9 => first | exact BindsTo.of_eq rfl | exact binds_K (by k_in) rfl (by k_is) rfl rfl rfl | fail "k_enter: no rule for these arguments"); (case kB => exact rfl); (case kD => decide +kernel); (case c2 => exact rfl); (case c3 => exact rfl); (case c4 => exact rfl); k_whole; intro g' L' h' tk' cells' FG' F' N' Y' B' X' T' l1; (try k_lt l1); k_cells Y'; (try simp only [List.cons_append, List.nil_append] at N'); (try dsimp only); (try k_lift B'); (try k_fold)))
local macro_rules | `(tactic| k_enter) => `(tactic| (refine' code_def ?k1 ?k2 ?k3 ?k4 ?k5 ?kA ?kF ?kK ?k6 ?k7 ?k8 ?k9 ?kB ?_ ?c2 ?c3 ?c4 ?c5; (case kA => exact rfl); (case kF => exact rfl); (case kK => first | exact rfl | assumption); (case k1 => k_asm); (case k2 => k_asm); (case k3 => k_asm); (case k4 => k_asm); (case k5 => k_asm); (case k6 => k_is); (case k7 => k_is); (case k8 => k_room); (case k9 => first | exact BindsTo.of_eq rfl | exact binds_K (by k_in) rfl (by k_is) rfl rfl rfl | fail "k_enter: no rule for these arguments"); (case c5 => decide); (case kB => exact locs rfl); (case c2 => exact rfl); (case c3 => exact rfl); (case c4 => exact rfl); k_whole; intro g' L' h' FG' F' N' B' X' T'; (try dsimp only); (try k_lift B'); (try k_fold)))
local macro_rules | `(tactic| cell_enter) => `(tactic| (refine' enterF ?k1 ?k2 ?k3 ?k4 ?kdis ?k5 ?kA ?kF ?kK ?k6 ?k7 ?k8 ?k9 ?kB ?_ ?c2 ?c3 ?c4 ?c5; (case kA => exact rfl); (case kF => exact rfl); (case kK => first | exact rfl | assumption); (case k1 => k_asm); (case k2 => k_asm); (case k3 => k_asm); (case k4 => assumption); (case kdis => assumption); (case k5 => k_asm); (case k6 => k_is); (case k7 => k_is); (case k8 => k_room); (case k9 => first | exact BindsTo.of_eq rfl | exact binds_K (by k_in) rfl (by k_is) rfl rfl rfl | fail "k_enter: no rule for these arguments"); (case c5 => decide); (case kB => exact locs rfl); (case c2 => exact rfl); (case c3 => exact rfl); (case c4 => exact rfl); k_whole; intro g' L' h' F' N' B' X' T' l1; (try k_lt l1); (try dsimp only); (try k_fold)))
local macro_rules | `(tactic| ktr_enter) => `(tactic| (refine' enterFC ?k1 ?k2 ?k3 ?k4 ?kdis ?k5 ?kA ?kF ?kK ?k6 ?k7 ?k8 ?k9 ?kB ?kD ?_ ?c2 ?c3 ?c4; (case kA => exact rfl); (case kF => exact rfl); (case kK => first | exact rfl | assumption); (case k1 => k_asm); (case k2 => k_asm); (case k3 => k_asm); (case k4 => assumption); (case kdis => assumption); (case k5 => k_asm); (case k6 => k_is); (case k7 => k_is); (case k8 => k_room); (case k9 => first | exact BindsTo.of_eq rfl | exact binds_K (by k_in) rfl (by k_is) rfl rfl rfl | fail "k_enter: no rule for these arguments"); (case kB => exact rfl); (case kD => decide +kernel); (case c2 => exact rfl); (case c3 => exact rfl); (case c4 => exact rfl); k_whole; intro g' L' h' tk' cells' F' N' Y' B' X' T' l1; (try k_lt l1); k_cells Y'; (try simp only [List.cons_append, List.nil_append] at N'); (try dsimp only); (try k_fold)))
local macro_rules | `(tactic| walk_at "subscriptTail Name Slice ref ref") => `(tactic| (k_here; (with_reducible show wpAny _ _ (subscriptTail _ (PySem.Expr.Slice none none none _) (Value.ref _) (Value.ref _)) _ _ _); k_dflt (refine' slice_all ?F ?N ?l ?z ?_ ?s ?t; (case F => k_asm); (case N => k_asm); (case l => k_mem); (case z => first | omega | assumption); (case s => with_unfolding_all rfl); (case t => kmk_pure)); intro D' h' F' N' l1; (try k_lt l1); (try k_sweep)))
local macro_rules | `(tactic| ksw_same) => `(tactic| (intro z h2 h3; (try simp only [List.forall_mem_cons, List.not_mem_nil, false_implies, implies_true, and_true, ne_eq] at h2); (try simp only [List.contains_cons, List.contains_nil, Bool.or_false, Bool.or_eq_false_iff, beq_eq_false_iff_ne, ne_eq] at h3); simp [frS, kstB, h2, h3]))
local macro_rules | `(tactic| walk_at "getMethod ref") => `(tactic| (k_here; k_dflt (first
  | (refine' method_inst ?k1 ?k2 ?k3 ?k4 ?k5 ?k6 ?k7 ?_; (case k1 => k_asm); (case k2 => k_asm); (case k3 => k_inst); (case k4 => k_is); (case k5 => k_is); (case k6 => k_is); (case k7 => k_get); k_whole)
  | (refine' kmu_own ?k1 ?k2 ?k3 ?k4 ?k5 ?_; (case k1 => k_asm); (case k2 => k_asm); (case k3 => k_inst); (case k4 => k_is); (case k5 => k_is); k_whole))))
local macro_rules | `(tactic| walk_at "callWith") => `(tactic| (k_here; (with_reducible show wpAny _ _ (callWith _ _ _ _ (backToKw _ _)) _ _ _); k_dflt (show wpAny _ _ (callWith _ (Value.ref _) _ (backTo _ (starEach (_ :: _) _)) (backToKw _ (keywordEach (_ :: _) _))) _ _ _); k_dflt (refine' kco_callWithKW ?k1 ?k2 ?k3 ?_; (case k1 => k_inst); (case k2 => rfl); (case k3 => rfl); k_whole)))
local macro_rules | `(tactic| walk_at "subscriptTail") => `(tactic| (k_here; (with_reducible show wpAny _ _ (subscriptTail _ _ (Value.ref _) (Value.int _ _)) _ _ _); k_dflt (refine' sub_at ?k1 ?k2 ?k3 ?k4 ?k5 ?k6 ?_ ?k7; (case k1 => k_asm); (case k2 => k_mem); (case k3 => with_reducible assumption); (case k4 => omega); (case k5 => ((try simp only [List.length_set, ibf_len, iblk_len, ilay_len, intt_len, mulTo_len, zetaL_len]); omega)); (case k6 => omega); (case k7 => (intro _ _; with_unfolding_all rfl)); k_whole); intro _))
local macro_rules | `(tactic| walk_at "subscriptTail Name Name ref int") => `(tactic| (k_here; (with_reducible show wpAny _ _ (subscriptTail _ _ (Value.ref _) (Value.int _ _)) _ _ _); k_dflt (refine' sub_at ?k1 ?k2 ?k3 ?k4 ?k5 ?k6 ?_ ?k7; (case k1 => k_asm); (case k2 => k_mem); (case k3 => with_reducible assumption); (case k4 => omega); (case k5 => ((try simp only [List.length_set, ibf_len, iblk_len, ilay_len, intt_len, mulTo_len, zetaL_len]); omega)); (case k6 => omega); (case k7 => (intro _ _; with_unfolding_all rfl)); k_whole); intro _))
local macro_rules | `(tactic| walk_at "subscriptTail Name BinOp ref int") => `(tactic| (k_here; (with_reducible show wpAny _ _ (subscriptTail _ _ (Value.ref _) (Value.int _ _)) _ _ _); k_dflt (refine' sub_at ?k1 ?k2 ?k3 ?k4 ?k5 ?k6 ?_ ?k7; (case k1 => k_asm); (case k2 => k_mem); (case k3 => with_reducible assumption); (case k4 => omega); (case k5 => ((try simp only [List.length_set, ibf_len, iblk_len, ilay_len, intt_len, mulTo_len, zetaL_len]); omega)); (case k6 => omega); (case k7 => (intro _ _; with_unfolding_all rfl)); k_whole); intro _))
local macro_rules | `(tactic| walk_at "setItem ref int") => `(tactic| (k_here; (with_reducible show wpAny _ _ (setItem (Value.ref _) (Value.int _ _) (Value.int _ _)) _ _ _); k_dflt (refine' ksa_set ?k1 ?k2 ?k3 ?k4 ?k5 ?k6 ?k7 ?_; (case k1 => k_asm); (case k2 => k_asm); (case k3 => k_upd); (case k4 => with_reducible assumption); (case k5 => omega); (case k6 => ((try simp only [List.length_set, ibf_len, iblk_len, ilay_len, intt_len, mulTo_len, zetaL_len]); omega)); (case k7 => omega); k_whole); intro h' F' N' hi' hl' hs'; (try k_sweep)))
local macro_rules | `(tactic| walk_at "exec While Compare cons nil") => `(tactic| (refine stop_here ?_))
local macro_rules | `(tactic| walk_at "call ref") => `(tactic| (k_here; k_dflt (show wpAny _ _ (call (Value.ref _) [Value.ref _] [(_, Value.bool false)]) _ _ _); k_dflt (refine' polyF_C ?k1 ?k2 ?k3 ?k4 ?k5 ?kK ?kd ?ku ?m1 ?m2 ?m3 ?kl ?n1 ?n2 ?n3 ?_; (case k1 => k_asm); (case k2 => k_asm); (case k3 => k_asm); (case k4 => k_asm); (case k5 => k_asm); (case kK => first | exact rfl | assumption); (case kd => k_room); (case ku => k_units); (case m1 => k_mem); (case m2 => k_mem); (case m3 => k_mem); (case kl => assumption); (case n1 => k_ne); (case n2 => k_ne); (case n3 => k_ne)); intro p9 d9 u9 v9 h9 tk9 F9 N9 a9 b9 c9; (try dsimp only); (try k_fold); (try k_sweep)))
local macro_rules | `(tactic| walk_at "pyIter ref") => `(tactic| (refine stop_here ?_))
local macro_rules | `(tactic| walk_at "exec For Name Call cons nil") => `(tactic| (refine stop_here ?_))
section
variable {w : World} {mean : ExcName → Option Value} {mg mb : Str → Option Value} {dp un : Nat} {gd : Option (List Code)} {cn : Str} {cs : Scope} {a : Addr} {ccd : Value} {cl : List (Str × Addr)} {outer : List Env} {A₀ : Around} {base h₀ : Heap} {L : Addr} {m : Str → Option Value} {news : List (Addr × Obj)} {s : Shared} {Q E : Value → Shared → Prop}
local macro_rules | `(tactic| walk_at "idle 1") => `(tactic| fail)
set_option maxHeartbeats 4000000 in
theorem intt_C (B : Below A₀ base outer h₀) (F : Fr h₀ L s.heap m) (X : Frag.In (Mine.hd1.heap_39 w.params) h₀) (N : News h₀ L s.heap news) (T : Top Mine.hd1.view_39 (looseW Mine.hd1.view_39 [Str.ofString "PolynomialRing", Str.ofString "Polynomial"]) mean mg mb h₀) (hk : cs.kind = .function) (hd : dp ≤ 400) (hu : un ≤ 4000) {p qd x dx s1 s2 z l : Addr} {u1 u2 t1 t2 t3 t4 t5 t6 t7 t8 t9 : Tok} {vs zs : List Value} {nn : Nat} {ns : List Int} (hp : (p, instObj 592 qd) ∈ news) (hpd : (qd, polyD w.params x l u1 u2) ∈ news)
    (hx : (x, instObj 392 dx) ∈ news) (hdx : (dx, ringD w.params s1 s2 z t1 t2 t3 t4 t5 t6 t7 t8 t9) ∈ news) (hz : (z, LCg.lst zs) ∈ news)
    (hl : (l, listOf vs.toArray nn) ∈ news) (e1 : @Ne Nat x dx) (hlen : ns.length = 256) (hi : IntsAre vs ns) (hzi : IntsAre zs zetaL)
    (hret : ∀ (p2 qd2 c2 : Addr) (w1 w2 : Tok) (ws : List Value) (h' : Heap) (tk' : Nat), IntsAre ws (mulTo 256 (intt zetaL 8 ns)) → Fr h₀ L h' m →
      News h₀ L h' ((p2, instObj 528 qd2) :: (qd2, polyD w.params x c2 w1 w2) :: (c2, listOf ws.toArray 0) :: news) →
      (Off p2 news) → (Off qd2 news) → (Off c2 news) → @Ne Nat p2 qd2 → @Ne Nat c2 p2 → @Ne Nat c2 qd2 →
      Q (.ref p2) { s with heap := h', toks := tk' }) :
    wpAny (model PySem.Challenge.rw_bn0015_01.row.prog w) (ktrTop dp un gd cn cs L a ccd cl outer) (call (.ref 558) [.ref p]) Q E s := by
  w_top off; revert X; k_fill; intro X
  obtain ⟨rest, N2, dis, cov⟩ := split_need N [(p, instObj 592 qd), (qd, polyD w.params x l u1 u2), (x, instObj 392 dx), (dx, ringD w.params s1 s2 z t1 t2 t3 t4 t5 t6 t7 t8 t9), (z, LCg.lst zs), (l, listOf vs.toArray nn)]
    (fun q hq => by
      rcases List.mem_cons.mp hq with rfl | hq
      · exact hp
      rcases List.mem_cons.mp hq with rfl | hq
      · exact hpd
      rcases List.mem_cons.mp hq with rfl | hq
      · exact hx
      rcases List.mem_cons.mp hq with rfl | hq
      · exact hdx
      rcases List.mem_cons.mp hq with rfl | hq
      · exact hz
      rcases List.mem_cons.mp hq with rfl | hq
      · exact hl
      cases hq)
  refine wpAny_call ?_
  k_dflt cell_enter
  clear N2 dis
  have hMk := kstMark
  have hv : vs.length = 256 := hi.length.trans hlen
  k_steps
  refine stop_go ?_
  rename_i g L1 h1 B1 X1 T1 lA D0 h2 lB h3 h4 h5 D h6 lC h7 h8 F1 N1
  have hDn : ∀ q ∈ [(p, instObj 592 qd), (qd, polyD w.params x l u1 u2), (x, instObj 392 dx), (dx, ringD w.params s1 s2 z t1 t2 t3 t4 t5 t6 t7 t8 t9), (z, LCg.lst zs), (l, listOf vs.toArray nn)], @Ne Nat q.1 D := by k_all
  k_dflt refine' whl (σ := List Value × (Int × Tok) × (Int × Tok))
    (fun c => [(D, listOf c.1.toArray 0), (p, instObj 592 qd), (qd, polyD w.params x l u1 u2), (x, instObj 392 dx), (dx, ringD w.params s1 s2 z t1 t2 t3 t4 t5 t6 t7 t8 t9), (z, LCg.lst zs), (l, listOf vs.toArray nn)])
    (fun c => [(Str.ofString "k", .int c.2.1.1 c.2.1.2), (Str.ofString "l", .int c.2.2.1 c.2.2.2)])
    [Str.ofString "start", Str.ofString "zeta", Str.ofString "j", Str.ofString "t"]
    (fun c => ∃ i, i ≤ 8 ∧ c.2.1.1 = ((256 / 2 ^ i : Nat) : Int) ∧ c.2.2.1 = ((2 ^ i : Nat) : Int) ∧ IntsAre c.1 (intt zetaL i ns))
    (fun c => (256 - c.2.2.1).toNat) (vs, (256, _), (1, _)) F1 ?N ?hk ?hp ?turn ?hE
  case N =>
    intro q hq
    rcases List.mem_cons.mp hq with rfl | hq
    · exact N1 _ (.head _)
    · exact N1 _ (.tail _ (.tail _ hq))
  case hk => kst_all
  case hp => exact ⟨0, by decide, rfl, rfl, hi⟩
  case hE => first | passes_own | with_unfolding_all passes_own
  clear N1 F1
  rintro ⟨vs2, ⟨k, tk1⟩, ⟨lI, tl1⟩⟩ u h9 tk9 ⟨i, hi8, hk2, hl2, hI⟩ F2 N2
  dsimp only at hk2 hl2 hI N2 F2
  have hIb := hI
  subst hk2
  subst hl2
  have hv2 : vs2.length = 256 := hI.length.trans ((intt_len _ _ _).trans hlen)
  rcases Nat.lt_or_ge i 8 with hi9 | hi9
  · have h256 : 2 * 2 ^ i * (128 / 2 ^ i) = 256 := (by decide : ∀ i, i < 8 → 2 * 2 ^ i * (128 / 2 ^ i) = 256) i hi9
    have hk0 : 256 / 2 ^ i = 2 * (128 / 2 ^ i) := (by decide : ∀ i, i < 8 → 256 / 2 ^ i = 2 * (128 / 2 ^ i)) i hi9
    have hl1 : 1 ≤ 2 ^ i := Nat.one_le_two_pow
    have hl128 : 2 ^ i ≤ 128 := (by decide : ∀ i, i < 8 → 2 ^ i ≤ 128) i hi9
    have hn128 : 128 / 2 ^ i ≤ 128 := (by decide : ∀ i, i < 8 → 128 / 2 ^ i ≤ 128) i hi9
    obtain ⟨lN, hlN⟩ : ∃ a, a = 2 ^ i := ⟨_, rfl⟩
    obtain ⟨n2, hn2⟩ : ∃ a, a = 128 / 2 ^ i := ⟨_, rfl⟩
    rw [← hn2] at h256 hk0
    rw [← hlN] at h256
    rw [← hlN] at hl1 hl128
    rw [← hn2] at hn128
    rw [hk0, ← hlN] at F2
    k_steps
    refine stop_go ?_
    rename Fr g L1 _ _ => F3
    rename News g L1 _ _ => N3
    k_dflt refine' whl (σ := List Value × (Int × Tok) × (Int × Tok))
      (fun c => [(D, listOf c.1.toArray 0), (p, instObj 592 qd), (qd, polyD w.params x l u1 u2), (x, instObj 392 dx), (dx, ringD w.params s1 s2 z t1 t2 t3 t4 t5 t6 t7 t8 t9), (z, LCg.lst zs), (l, listOf vs.toArray nn)])
      (fun c => [(Str.ofString "k", .int c.2.1.1 c.2.1.2), (Str.ofString "start", .int c.2.2.1 c.2.2.2)])
      [Str.ofString "zeta", Str.ofString "j", Str.ofString "t"]
      (fun c => ∃ b, b ≤ n2 ∧ c.2.1.1 = ((2 * n2 - b : Nat) : Int) ∧ c.2.2.1 = ((2 * lN * b : Nat) : Int) ∧ IntsAre c.1 (ilay zetaL lN (2 * n2) b (intt zetaL i ns)))
      (fun c => (256 - c.2.2.1).toNat) (vs2, (_, tk1), (0, _)) F3 N3 ?hk2 ?hp2 ?turn2 ?hE2
    case hk2 => kst_all
    case hp2 => exact ⟨0, Nat.zero_le _, rfl, by simp, hI⟩
    case hE2 => first | passes_own | with_unfolding_all passes_own
    clear N3 F3 hI hIb
    rintro ⟨vs3, ⟨k3, tk3⟩, ⟨st, ts⟩⟩ u2' h10 tk10 ⟨b, hb, e1, e2, hI3⟩ F4 N4
    dsimp only at e1 e2 hI3 N4 F4
    have hI3b := hI3
    subst e1
    subst e2
    have hv3 : vs3.length = 256 := hI3.length.trans ((ilay_len _ _ _ _ _).trans ((intt_len _ _ _).trans hlen))
    rcases Nat.lt_or_ge b n2 with hb9 | hb9
    · have hs256 : 2 * lN * b + 2 * lN ≤ 256 := by
        rw [← h256, ← Nat.mul_succ]
        exact Nat.mul_le_mul_left _ hb9
      obtain ⟨sN, hsN⟩ : ∃ a, a = 2 * lN * b := ⟨_, rfl⟩
      rw [← hsN] at hs256 F4
      k_steps
      refine stop_go ?_
      rename Fr g L1 _ _ => F5
      with_unfolding_all refine' For_invVF F5 ?hx5 ?hp5 ?_
      case hx5 => exact rfl
      case hp5 => exact rfl
      k_steps
      refine stop_go ?_
      rename Fr g L1 _ _ => F6
      rename News g L1 _ _ => N6
      rename IsRange _ _ _ _ _ _ _ _ => R6
      have zb := zetaL_bnd (2 * n2 - (b + 1))
      have ze : ((2 * n2 - b : Nat) - 1 : Int).toNat = 2 * n2 - (b + 1) := by omega
      rw [ze] at F6
      generalize hz8 : zetaL.getD (2 * n2 - (b + 1)) 0 = z8 at F6 zb
      generalize hz9 : -z8 = z9 at F6
      k_dflt refine' rng (σ := List Value × (Int × Tok)) (n := lN)
        (fun c => [(D, listOf c.1.toArray 0), (p, instObj 592 qd), (qd, polyD w.params x l u1 u2), (x, instObj 392 dx), (dx, ringD w.params s1 s2 z t1 t2 t3 t4 t5 t6 t7 t8 t9), (z, LCg.lst zs), (l, listOf vs.toArray nn)])
        (fun c => [(Str.ofString "j", .int c.2.1 c.2.2)])
        [Str.ofString "t"]
        (fun d c => (d = 0 ∨ c.2.1 = ((sN + d - 1 : Nat) : Int)) ∧ IntsAre c.1 (iblk z9 lN sN d (ilay zetaL lN (2 * n2) b (intt zetaL i ns))))
        (vs3, (_, ts)) rfl R6 ?sm ?sz F6 N6 ?hk3 ?hp3 ?turn3 ?done3
      case sm => exact small_one (by omega) (by omega) (by omega) (by omega)
      case sz => rw [rangeSize_nat]; omega
      case hk3 => kst_all
      case hp3 => exact ⟨.inl rfl, hI3⟩
      case turn3 =>
        clear N6 F6 R6
        rintro ⟨vs4, ⟨j4, tj4⟩⟩ d t4' u4 h11 tk11 own hd9 off ⟨hj4, hI4⟩ F7 N7
        dsimp only at hj4 hI4 N7 F7
        have hv4 : vs4.length = 256 := hI4.length.trans ((iblk_len _ _ _ _ _).trans ((ilay_len _ _ _ _ _).trans ((intt_len _ _ _).trans hlen)))
        k_steps
        rename Fr g L1 _ _ => F8
        rename News g L1 _ _ => N8
        rename IntsAre _ _ => I8
        have q1 : ((sN : Int) + (d : Int)).toNat = sN + d := by omega
        have q2 : ((sN : Int) + (d : Int) + (lN : Int)).toNat = sN + d + lN := by omega
        k_dflt refine' InvEndN.intro F8 N8 ⟨(_, (_, _)), rfl, ?hk4, ?hr4, ⟨.inr ?hj, ints_to I8 ?hI⟩⟩ rfl ?hn4 ?ho4
        case hk4 => kst_all
        case hr4 => ksw_same
        case hj => show ((sN : Int) + (d : Int)) = ((sN + (d + 1) - 1 : Nat) : Int); omega
        case hI => simp only [iblk, ibf, q1, q2]
        case hn4 => k_allIn
        case ho4 => intro q hq; k_ownIn
      case done3 =>
        rintro ⟨vs4, ⟨j4, tj4⟩⟩ u4 h11 tk11 ⟨hj4, hI4⟩ F7 N7
        dsimp only at hj4 hI4 N7 F7
        rcases hj4 with hj4 | hj4
        · omega
        subst hj4
        k_steps
        rename Fr g L1 _ _ => F8
        rename News g L1 _ _ => N8
        subst hz9
        subst hz8
        k_dflt refine' ksw_end (_, ((_, _), (_, _))) F8 N8 ?hn5 trivial ?hk5 ?hr5 ⟨b + 1, hb9, ?hka, ?hkb, ints_to hI4 (by rw [hsN, ilay])⟩ ?hm5
        case hn5 => k_allIn
        case hk5 => kst_all
        case hr5 => ksw_same
        case hka => show (((2 * n2 - b : Nat) : Int) - 1) = ((2 * n2 - (b + 1) : Nat) : Int); omega
        case hkb => show ((((sN + lN - 1 : Nat) : Int) + (lN : Int)) + 1) = ((2 * lN * (b + 1) : Nat) : Int); rw [Nat.mul_succ, ← hsN]; omega
        case hm5 => show (256 - ((((sN + lN - 1 : Nat) : Int) + (lN : Int)) + 1)).toNat < (256 - ((2 * lN * b : Nat) : Int)).toNat; rw [← hsN]; omega
    · have hbn : b = n2 := Nat.le_antisymm hb hb9
      subst hbn
      rw [h256] at F4
      k_steps
      rename Fr g L1 _ _ => F8
      rename News g L1 _ _ => N8
      have hl9 : (lN : Int) * 2 ^ Int.toNat 1 = ((2 ^ (i + 1) : Nat) : Int) := by
        rw [Nat.pow_succ, ← hlN]
        show (lN : Int) * 2 ^ 1 = _
        omega
      have hk9 : 256 / 2 ^ (i + 1) = 128 / 2 ^ i := (by decide : ∀ i, i < 8 → 256 / 2 ^ (i + 1) = 128 / 2 ^ i) i hi9
      k_dflt refine' ksw_end (_, ((_, _), (_, _))) F8 N8 ?hn6 trivial ?hk6 ?hr6 ⟨i + 1, hi9, ?hkc, hl9, ints_to hI3 (by rw [intt, hk0, ← hn2, ← hlN])⟩ ?hm6
      case hn6 => k_allIn
      case hk6 => kst_all
      case hr6 => ksw_same
      case hkc => show ((2 * b - b : Nat) : Int) = ((256 / 2 ^ (i + 1) : Nat) : Int); rw [hk9, ← hn2]; omega
      case hm6 => show (256 - (lN : Int) * 2 ^ Int.toNat 1).toNat < (256 - ((2 ^ i : Nat) : Int)).toNat; rw [hl9, Nat.pow_succ, ← hlN]; omega
  · have e8 : i = 8 := by omega
    subst e8
    k_steps
    refine stop_go ?_
    rename Fr g L1 _ _ => F5
    with_unfolding_all refine' For_invVF F5 ?hx7 ?hp7 ?_
    case hx7 => exact rfl
    case hp7 => exact rfl
    k_steps
    refine stop_go ?_
    rename Fr g L1 _ _ => F6
    rename News g L1 _ _ => N6
    rename IsRange _ _ _ _ _ _ _ _ => R6
    k_dflt refine' rng (σ := List Value) (n := 256)
      (fun c => [(D, listOf c.toArray 0), (p, instObj 592 qd), (qd, polyD w.params x l u1 u2), (x, instObj 392 dx), (dx, ringD w.params s1 s2 z t1 t2 t3 t4 t5 t6 t7 t8 t9), (z, LCg.lst zs), (l, listOf vs.toArray nn)])
      (fun _ => [])
      [Str.ofString "j"]
      (fun d c => IntsAre c (mulTo d (intt zetaL 8 ns)))
      vs2 rfl R6 ?sm7 ?sz7 F6 N6 ?hk7 ?hq7 ?turn7 ?done7
    case sm7 => exact small_one (by omega) (by omega) (by omega) (by omega)
    case sz7 => rfl
    case hk7 => kst_all
    case hq7 => exact ints_to hI (mulTo_zero _).symm
    case turn7 =>
      clear N6 F6 R6
      rintro vs4 d t4' u4 h11 tk11 own hd9 off hI4 F7 N7
      (try dsimp only at hI4 N7 F7)
      have hv4 : vs4.length = 256 := hI4.length.trans ((mulTo_len _ _).trans ((intt_len _ _ _).trans hlen))
      k_steps
      rename Fr g L1 _ _ => F8
      rename News g L1 _ _ => N8
      rename IntsAre _ _ => I8
      have q1 : ((0 : Int) + (d : Int)).toNat = d := by omega
      have hd2 : d < (intt zetaL 8 ns).length := by rw [intt_len]; omega
      k_dflt refine' InvEndN.intro F8 N8 ⟨_, rfl, ?hk8, ?hr8, ints_to I8 ?hI8⟩ rfl ?hn8 ?ho8
      case hk8 => kst_all
      case hr8 => ksw_same
      case hI8 => rw [q1, mulTo_get hd2, Int.fmod_eq_emod_of_nonneg _ (by decide), mulTo_succ hd2]
      case hn8 => k_allIn
      case ho8 => intro q hq; k_ownIn
    case done7 =>
      rintro vs4 u4 h11 tk11 hI4 F7 N7
      (try dsimp only at hI4 N7 F7)
      have hv4 : vs4.length = 256 := hI4.length.trans ((mulTo_len _ _).trans ((intt_len _ _ _).trans hlen))
      k_steps
      dsimp only [Back]
      rename News h₀ L _ _ => kN1
      rename Fr h₀ L _ _ => kF1
      revert kN1
      rename News g L1 _ _ => kC1
      intro kN1 kG kR
      rename Off _ _ => hB
      revert hB
      rename Off _ _ => hA
      intro hB
      refine' hret _ _ D _ _ vs4 _ _ hI4 kF1 (news_cov (out := [(_, instObj 528 _), (_, polyD w.params x D _ _), (D, listOf vs4.toArray 0)]) kN1 kR cov) ?yd ?ye ?yf ?yg ?yh ?yi
      case yd => exact apart_cov kG kC1 cov (q := (_, instObj 528 _)) (.head _) hA.tail
      case ye => exact apart_cov kG kC1 cov (q := (_, polyD w.params x D _ _)) (.tail _ (.head _)) hB.tail
      case yf => exact apart_cov kG kC1 cov (q := (D, listOf vs4.toArray 0)) (.tail _ (.tail _ (.head _))) hDn
      case yg => assumption
      case yh => exact hA.head
      case yi => exact hB.head
end
end Mine
end
section
open PySem PySem.W PyProof.Rows PySem.Calls PySem.Spec PySem.NumText
set_option maxRecDepth 100000
namespace Mine
def less (n : Int) : Int := if n > 0 then n % 16777216 else -((-n) % 16777216)
theorem noPy256 (b : Int) : Builtin.divisionGoesByPylong 256 b = false := by
  unfold Builtin.divisionGoesByPylong
  simp only [Bool.and_eq_false_iff, decide_eq_false_iff_not]
  right
  have e : (if ((256 : Int) == 0) = true then 0 else (256 : Int).natAbs.log2 / 30 + 1) = 1 := by decide
  rw [e]
  omega
theorem fd256 {prog : Program} {w : World} {A : Around} {E : Value → Shared → Prop} {s : Shared} {t u : Tok} {Q : Value → Shared → Prop} {n : Nat} (hn : 0 < n)
    (h : ∀ k : Nat, k ≤ 256 → 256 < n * (k + 1) → n * (k + 1) ≤ 256 + n → Q (.int (k : Int) s.toks) { s with toks := s.toks + 1 }) :
    wpAny (model prog w) A (binaryOp .FloorDiv (.int 256 t) (.int (n : Int) u)) Q E s := by
  refine floordiv_int (by omega) ?_ (.inl (noPy256 _))
  have e : (256 : Int).fdiv (n : Int) = ((256 / n : Nat) : Int) := by
    rw [Int.fdiv_eq_ediv_of_nonneg _ (by omega)]
    rfl
  rw [e]
  refine h (256 / n) (Nat.div_le_self _ _) (by rw [Nat.mul_comm]; exact Nat.lt_mul_of_div_lt (Nat.lt_succ_self _) hn) ?_
  rw [Nat.mul_succ]
  have := Nat.mul_div_le 256 n
  omega
theorem row_mul {prog : Program} {w : World} {A : Around} {E : Value → Shared → Prop} {s : Shared} {h₀ : Heap} {L l : Addr} {m : Str → Option Value} {news : List (Addr × Obj)} {Q : Value → Shared → Prop} {vs : List Value} {ns : List Int} {nn k : Nat} {u : Tok}
    (F : Fr h₀ L s.heap m) (N : News h₀ L s.heap news) (hl : (l, listOf vs.toArray nn) ∈ news) (hi : IntsAre vs ns) (hn : ns.length ≤ 63) (h1 : 256 < ns.length * (k + 1)) (h2 : ns.length * (k + 1) ≤ 256 + ns.length) (hk : k ≤ 256)
    (h : ∀ D vs2 ns2 h', Fr h₀ L h' m → News h₀ L h' ((D, listOf vs2.toArray 0) :: news) → (∀ p ∈ news, p.1 < D) → IntsAre vs2 ns2 → 256 < ns2.length → vs2.length ≤ 400 → (∀ y ∈ ns2, y ∈ ns) → Q (.ref D) { s with heap := h' }) :
    wpAny (model prog w) A (binaryOp .Mult (.ref l) (.int ((k : Int) + 1) u)) Q E s := by
  have e : ((k : Int) + 1).toNat = k + 1 := by omega
  have hv : vs.length = ns.length := hi.length
  refine KM.mul F N (News.isList N hl) hi (by omega) (by omega) (by rw [e, hv]; omega) fun D h' F' N' l1 hi2 N9 e1 e2 _ _ => ?_
  rw [e] at N' hi2 e2
  have e3 : (List.replicate (k + 1) ns).flatten.length = ns.length * (k + 1) := by
    rw [List.length_flatten, List.map_replicate, List.sum_replicate_nat, Nat.mul_comm]
  refine h D _ _ h' F' N' l1 hi2 (by omega) (by rw [hi2.length]; omega) fun y hy => ?_
  obtain ⟨q, hq, hy⟩ := List.mem_flatten.mp hy
  rw [(List.mem_replicate.mp hq).2] at hy
  exact hy
theorem slice_few {prog : Program} {w : World} {A : Around} {E : Value → Shared → Prop} {s : Shared} {h₀ : Heap} {L l : Addr} {m : Str → Option Value} {news : List (Addr × Obj)} {Q : Value → Shared → Prop} {value slice : Expr} {vs : List Value} {nn : Nat} {tc : Tok} (F : Fr h₀ L s.heap m) (N : News h₀ L s.heap news) (hl : (l, listOf vs.toArray nn) ∈ news) (hz : vs.length ≤ 256)
    (h : ∀ D h', Fr h₀ L h' m → News h₀ L h' ((D, listOf vs.toArray 0) :: news) → (∀ p ∈ news, p.1 < D) → Q (.ref D) { s with heap := h' })
    (hs : subscripted slice false (.ref l) (.ref s.heap.objs.size) = operate [.ref s.heap.objs.size, .ref l] (getItem (.ref l) (.ref s.heap.objs.size))) (ht : ∀ r, letTemporaryGo value (.ref l) r = pure ()) :
    wpAny (model prog w) A (subscriptTail value slice (.ref l) (.ref s.heap.objs.size)) Q E { s with heap := s.heap.push { cls := .type "slice", data := .fields #[.none, .int ((256 : Nat) : Int) tc, .none] } } := by
  refine slice_to F N hl (by omega) (fun D h' F' N' l1 => h D h' F' ?_ l1) hs ht
  rw [List.take_of_length_le hz] at N'
  exact N'
theorem ints_take {vs : List Value} {ns : List Int} (h : IntsAre vs ns) : ∀ c, IntsAre (vs.take c) (ns.take c) := by
  induction h with
  | nil => intro c; rw [List.take_nil, List.take_nil]; exact .nil
  | cons i t _ ih =>
    intro c
    cases c with
    | zero => exact .nil
    | succ c => exact .cons i t (ih c)
theorem slice_256 {prog : Program} {w : World} {A : Around} {E : Value → Shared → Prop} {s : Shared} {h₀ : Heap} {L l : Addr} {m : Str → Option Value} {news : List (Addr × Obj)} {Q : Value → Shared → Prop} {value slice : Expr} {vs : List Value} {ns : List Int} {nn : Nat} {tc : Tok} (F : Fr h₀ L s.heap m) (N : News h₀ L s.heap news) (hl : (l, listOf vs.toArray nn) ∈ news) (hi : IntsAre vs ns) (h1 : 256 < ns.length) (h2 : vs.length ≤ 400)
    (h : ∀ D vs2 ns2 h', Fr h₀ L h' m → News h₀ L h' ((D, listOf vs2.toArray 0) :: news) → (∀ p ∈ news, p.1 < D) → IntsAre vs2 ns2 → ns2.length = 256 → (∀ y ∈ ns2, y ∈ ns) → Q (.ref D) { s with heap := h' })
    (hs : subscripted slice false (.ref l) (.ref s.heap.objs.size) = operate [.ref s.heap.objs.size, .ref l] (getItem (.ref l) (.ref s.heap.objs.size))) (ht : ∀ r, letTemporaryGo value (.ref l) r = pure ()) :
    wpAny (model prog w) A (subscriptTail value slice (.ref l) (.ref s.heap.objs.size)) Q E { s with heap := s.heap.push { cls := .type "slice", data := .fields #[.none, .int ((256 : Nat) : Int) tc, .none] } } :=
  slice_to F N hl (by omega) (fun D h' F' N' l1 => h D _ _ h' F' N' l1 (ints_take hi 256) (by rw [List.length_take]; omega) fun y hy => List.mem_of_mem_take hy) hs ht
def Bnd (rs : List Int) : Prop := ∀ y ∈ rs, -16777216 ≤ y ∧ y ≤ 16777216
theorem bnd_set {xs : List Int} (hb : ∀ y ∈ xs, -16777215 ≤ y ∧ y ≤ 16777215) (k : Nat) : Bnd (xs.set k (xs.getD k 0 + 1)) := by
  intro y hy
  rcases List.mem_or_eq_of_mem_set hy with h | h
  · have := hb y h; omega
  · have hg : xs.getD k 0 ∈ xs ∨ xs.getD k 0 = 0 := by
      by_cases hk : k < xs.length
      · left
        rw [List.getD_eq_getElem?_getD, List.getElem?_eq_getElem hk]
        exact List.getElem_mem hk
      · right
        rw [List.getD_eq_getElem?_getD, List.getElem?_eq_none (by omega)]
        rfl
    rcases hg with hg | hg
    · have := hb _ hg; omega
    · omega
theorem less_bnd (k : Int) : -16777215 ≤ (if 0 < k then k.fmod 16777216 else -(-k).fmod 16777216) ∧ (if 0 < k then k.fmod 16777216 else -(-k).fmod 16777216) ≤ 16777215 := by
  split
  · rw [Int.fmod_eq_emod_of_nonneg _ (by decide)]; omega
  · rw [Int.fmod_eq_emod_of_nonneg _ (by decide)]; omega
theorem map_bnd (l : List Int) : ∀ y ∈ List.map (fun k' => if 0 < k' then k'.fmod 16777216 else -(-k').fmod 16777216) l, -16777215 ≤ y ∧ y ≤ 16777215 := by
  intro y hy
  obtain ⟨k, _, rfl⟩ := List.mem_map.mp hy
  exact less_bnd k
local macro_rules | `(tactic| k_room) => `(tactic| first | (refine lt_rl ?_; (try simp only [depth_under_make, depth_under_kw, depth_in1, depth_deeper, depth_caller]); (try dsimp only [ktrTop]); omega) | ((try simp only [depth_under_make, depth_under_kw, depth_in1, depth_deeper, depth_caller]); (try dsimp only [ktrTop]); omega))
local macro_rules | `(tactic| k_units) => `(tactic| first | (refine lt_cl ?_; (try simp only [units_in1, units_deeper, units_under_make, Around.mark_units, units_caller]); (try dsimp only [ktrTop]); omega) | ((try simp only [units_in1, units_deeper, units_under_make, Around.mark_units, units_caller]); (try dsimp only [ktrTop]); omega))
local macro_rules | `(tactic| ktr_room) => `(tactic| k_room)
local macro_rules | `(tactic| ktr_units) => `(tactic| k_units)
local macro_rules | `(tactic| k_enter) => `(tactic| (refine' code_defC ?k1 ?k2 ?k3 ?k4 ?k5 ?kA ?kF ?kK ?k6 ?k7 ?k8 ?k9 ?kB ?kD ?_ ?c2 ?c3 ?c4; (case kA => exact rfl); (case kF => exact rfl); (case kK => first | exact rfl | assumption); (case k1 => k_asm); (case k2 => k_asm); (case k3 => k_asm); (case k4 => k_asm); (case k5 => k_asm); (case k6 => k_is); (case k7 => k_is); (case k8 => k_room); (case k9 => first | exact BindsTo.of_eq rfl | exact binds_K (by k_in) rfl (by k_is) rfl rfl rfl | fail "k_enter: no rule for these arguments"); (case kB => exact rfl); (case kD => decide +kernel); (case c2 => exact rfl); (case c3 => exact rfl); (case c4 => exact rfl); k_whole; intro g' L' h' tk' cells' FG' F' N' Y' B' X' T' l1; (try k_lt l1); k_cells Y'; (try simp only [List.cons_append, List.nil_append] at N'); (try dsimp only); (try k_lift B'); (try k_fold)))
local macro_rules | `(tactic| k_enter) => `(tactic| (refine' code_def ?k1 ?k2 ?k3 ?k4 ?k5 ?kA ?kF ?kK ?k6 ?k7 ?k8 ?k9 ?kB ?_ ?c2 ?c3 ?c4 ?c5; (case kA => exact rfl); (case kF => exact rfl); (case kK => first | exact rfl | assumption); (case k1 => k_asm); (case k2 => k_asm); (case k3 => k_asm); (case k4 => k_asm); (case k5 => k_asm); (case k6 => k_is); (case k7 => k_is); (case k8 => k_room); (case k9 => first | exact BindsTo.of_eq rfl | exact binds_K (by k_in) rfl (by k_is) rfl rfl rfl | fail "k_enter: no rule for these arguments"); (case c5 => decide); (case kB => exact locs rfl); (case c2 => exact rfl); (case c3 => exact rfl); (case c4 => exact rfl); k_whole; intro g' L' h' FG' F' N' B' X' T'; (try dsimp only); (try k_lift B'); (try k_fold)))
local macro_rules | `(tactic| cell_enter) => `(tactic| (refine' enterF ?k1 ?k2 ?k3 ?k4 ?kdis ?k5 ?kA ?kF ?kK ?k6 ?k7 ?k8 ?k9 ?kB ?_ ?c2 ?c3 ?c4 ?c5; (case kA => exact rfl); (case kF => exact rfl); (case kK => first | exact rfl | assumption); (case k1 => k_asm); (case k2 => k_asm); (case k3 => k_asm); (case k4 => assumption); (case kdis => assumption); (case k5 => k_asm); (case k6 => k_is); (case k7 => k_is); (case k8 => k_room); (case k9 => first | exact BindsTo.of_eq rfl | exact binds_K (by k_in) rfl (by k_is) rfl rfl rfl | fail "k_enter: no rule for these arguments"); (case c5 => decide); (case kB => exact locs rfl); (case c2 => exact rfl); (case c3 => exact rfl); (case c4 => exact rfl); k_whole; intro g' L' h' F' N' B' X' T' l1; (try k_lt l1); (try dsimp only); (try k_fold)))
local macro_rules | `(tactic| ktr_enter) => `(tactic| (refine' enterFC ?k1 ?k2 ?k3 ?k4 ?kdis ?k5 ?kA ?kF ?kK ?k6 ?k7 ?k8 ?k9 ?kB ?kD ?_ ?c2 ?c3 ?c4; (case kA => exact rfl); (case kF => exact rfl); (case kK => first | exact rfl | assumption); (case k1 => k_asm); (case k2 => k_asm); (case k3 => k_asm); (case k4 => assumption); (case kdis => assumption); (case k5 => k_asm); (case k6 => k_is); (case k7 => k_is); (case k8 => k_room); (case k9 => first | exact BindsTo.of_eq rfl | exact binds_K (by k_in) rfl (by k_is) rfl rfl rfl | fail "k_enter: no rule for these arguments"); (case kB => exact rfl); (case kD => decide +kernel); (case c2 => exact rfl); (case c3 => exact rfl); (case c4 => exact rfl); k_whole; intro g' L' h' tk' cells' F' N' Y' B' X' T' l1; (try k_lt l1); k_cells Y'; (try simp only [List.cons_append, List.nil_append] at N'); (try dsimp only); (try k_fold)))
local macro_rules | `(tactic| walk_at "subscriptTail Name Slice ref ref") => `(tactic| (k_here; (with_reducible show wpAny _ _ (subscriptTail _ (PySem.Expr.Slice none none none _) (Value.ref _) (Value.ref _)) _ _ _); k_dflt (refine' slice_all ?F ?N ?l ?z ?_ ?s ?t; (case F => k_asm); (case N => k_asm); (case l => k_mem); (case z => first | omega | assumption); (case s => with_unfolding_all rfl); (case t => kmk_pure)); intro D' h' F' N' l1; (try k_lt l1); (try k_sweep)))
local macro_rules | `(tactic| ksw_same) => `(tactic| (intro z h2 h3; (try simp only [List.forall_mem_cons, List.not_mem_nil, false_implies, implies_true, and_true, ne_eq] at h2); (try simp only [List.contains_cons, List.contains_nil, Bool.or_false, Bool.or_eq_false_iff, beq_eq_false_iff_ne, ne_eq] at h3); simp [frS, kstB, h2, h3]))
local macro_rules | `(tactic| walk_at "getMethod ref") => `(tactic| (k_here; k_dflt (first
  | (refine' method_inst ?k1 ?k2 ?k3 ?k4 ?k5 ?k6 ?k7 ?_; (case k1 => k_asm); (case k2 => k_asm); (case k3 => k_inst); (case k4 => k_is); (case k5 => k_is); (case k6 => k_is); (case k7 => k_get); k_whole)
  | (refine' kmu_own ?k1 ?k2 ?k3 ?k4 ?k5 ?_; (case k1 => k_asm); (case k2 => k_asm); (case k3 => k_inst); (case k4 => k_is); (case k5 => k_is); k_whole))))
local macro_rules | `(tactic| walk_at "callWith") => `(tactic| (k_here; (with_reducible show wpAny _ _ (callWith _ _ _ _ (backToKw _ _)) _ _ _); k_dflt (show wpAny _ _ (callWith _ (Value.ref _) _ (backTo _ (starEach (_ :: _) _)) (backToKw _ (keywordEach (_ :: _) _))) _ _ _); k_dflt (refine' kco_callWithKW ?k1 ?k2 ?k3 ?_; (case k1 => k_inst); (case k2 => rfl); (case k3 => rfl); k_whole)))
section
variable {w : World} {mean : ExcName → Option Value} {mg mb : Str → Option Value} {dp un : Nat} {gd : Option (List Code)} {cn : Str} {cs : Scope} {a : Addr} {ccd : Value} {cl : List (Str × Addr)} {outer : List Env} {A₀ : Around} {base h₀ : Heap} {L : Addr} {m : Str → Option Value} {news : List (Addr × Obj)} {s : Shared} {Q E : Value → Shared → Prop}
set_option maxHeartbeats 4000000 in
theorem less_C (B : Below A₀ base outer h₀) (F : Fr h₀ L s.heap m) (X : Frag.In (Mine.hd1.heap_39 w.params) h₀) (N : News h₀ L s.heap news) (T : Top Mine.hd1.view_39 (looseW Mine.hd1.view_39 [Str.ofString "PolynomialRing", Str.ofString "Polynomial"]) mean mg mb h₀) (hk : cs.kind = .function) (hd : dp ≤ 700) (hu : un ≤ 7000) {n : Int} {t : Tok}
    (hret : ∀ (t : Tok) (h' : Heap) (tk' : Nat), Fr h₀ L h' m → News h₀ L h' news → Q (.int (less n) t) { s with heap := h', toks := tk' }) :
    wpAny (model PySem.Challenge.rw_bn0015_01.row.prog w) (ktrTop dp un gd cn cs L a ccd cl outer) (call (.ref 608) [.int n t]) Q E s := by
  w_top off; revert X; k_fill; intro X
  refine wpAny_call ?_
  k_dflt k_enter
  k_steps
  · have e : n.fmod 16777216 = less n := by
      unfold less
      rw [if_pos (by assumption), Int.fmod_eq_emod_of_nonneg _ (by decide)]
    rw [e]
    exact hret _ _ _ (by assumption) (by assumption)
  · have e : -(-n).fmod 16777216 = less n := by
      unfold less
      rw [if_neg (by assumption), Int.fmod_eq_emod_of_nonneg _ (by decide)]
    rw [e]
    exact hret _ _ _ (by assumption) (by assumption)
local macro_rules | `(tactic| walk_at "binaryOp Mult ref int") => `(tactic| (k_here; k_dflt (refine' row_mul ?F ?N ?l ?i ?n ?a ?b ?c ?_; (case F => k_asm); (case N => k_asm); (case l => k_mem); (case i => with_reducible assumption); (case a => assumption); (case b => assumption); (case c => assumption); (case n => (simp only [List.length_map, List.length_take]; omega)); k_whole); intro D' vs' ns' h' F' N' l1 hI' ha' hb' hc'; (try k_lt l1); (try k_sweep)))
local macro_rules | `(tactic| walk_at "subscriptTail Name Slice ref ref") => `(tactic| (k_here; k_dflt (first | (refine' slice_few ?F ?N ?l ?z ?_ ?s ?t; (case F => k_asm); (case N => k_asm); (case l => k_mem); (case z => omega); (case s => with_unfolding_all rfl); (case t => kmk_pure); intro D' h' F' N' l1) | (refine' slice_256 ?F ?N ?l ?i ?z ?y ?_ ?s ?t; (case F => k_asm); (case N => k_asm); (case l => k_mem); (case i => with_reducible assumption); (case z => omega); (case y => omega); (case s => with_unfolding_all rfl); (case t => kmk_pure); intro D' vs' ns' h' F' N' l1 hI' hm' hc')); (try k_lt l1); (try k_sweep)))
local macro_rules | `(tactic| walk_at "binaryOp FloorDiv int int") => `(tactic| (refine fd256 (by assumption) ?_; intro k9 k9a k9b k9c))
set_option maxHeartbeats 4000000 in
theorem row_C (B : Below A₀ base outer h₀) (F : Fr h₀ L s.heap m) (X : Frag.In (Mine.hd1.heap_39 w.params) h₀) (N : News h₀ L s.heap news) (T : Top Mine.hd1.view_39 (looseW Mine.hd1.view_39 [Str.ofString "PolynomialRing", Str.ofString "Polynomial"]) mean mg mb h₀) (hk : cs.kind = .function) (hd : dp ≤ 500) (hu : un ≤ 5000) {l : Addr} {vs : List Value} {nn : Nat} {ns : List Int}
    (hl : (l, listOf vs.toArray nn) ∈ news) (hlen : ns.length ≤ 63) (hi : IntsAre vs ns)
    (hret : ∀ (r : Addr) (ws : List Value) (rs : List Int) (h' : Heap) (tk' : Nat), IntsAre ws rs → rs.length = 256 → Bnd rs → Fr h₀ L h' m →
      News h₀ L h' ((r, listOf ws.toArray 0) :: news) → Off r news → Q (.ref r) { s with heap := h', toks := tk' }) :
    wpAny (model PySem.Challenge.rw_bn0015_01.row.prog w) (ktrTop dp un gd cn cs L a ccd cl outer) (call (.ref 613) [.ref l]) Q E s := by
  w_top off; revert X; k_fill; intro X
  obtain ⟨rest, N2, dis, cov⟩ := split_need N [(l, listOf vs.toArray nn)]
    (fun q hq => by
      rcases List.mem_cons.mp hq with rfl | hq
      · exact hl
      cases hq)
  have hv : vs.length ≤ 63 := by rw [hi.length]; exact hlen
  refine wpAny_call ?_
  k_dflt cell_enter
  clear N2 dis
  have hMk := kstMark
  k_steps
  · rename_i qI1 qa1 qb1 qc1 ql1 D vs3 ns3 qh1 qI2 qm2 qc2 ql2 qh2 qt qh3 qF qN qI qL qS kF1 kN1 qT qX
    dsimp only [Back]
    intro kG kR
    have hDn : Off D [(l, listOf vs.toArray nn)] := by unfold Off; k_all
    refine' hret D _ _ _ _ qI ?ya ?yb kF1 (news_cov (out := [(D, listOf _ 0)]) (need := [(l, listOf vs.toArray nn)]) ?yd kR cov) (apart_cov kG qN cov (q := (D, _)) (.head _) hDn)
    case ya => rw [qL]; exact qm2
    case yb => exact bnd_set (fun y hy => map_bnd _ y (qc1 _ (qc2 _ hy))) _
    case yd =>
      intro q hq
      rcases List.mem_cons.mp hq with rfl | hq
      · exact kN1 _ (.head _)
      · exact kN1 _ (by rw [List.mem_singleton.mp hq]; k_memK)
  · rename_i qa l2 qh1 ql1 D qh2 qi1 qn1 qs1 qe1 qe2 qe3 ql2 qh3 qt qh4 qF qN qI qL qS kF1 kN1 qT qX
    dsimp only [Back]
    intro kG kR
    have hDn : Off D [(l, listOf vs.toArray nn)] := by unfold Off; k_all
    refine' hret D _ _ _ _ qI ?ya ?yb kF1 (news_cov (out := [(D, listOf _ 0)]) (need := [(l, listOf vs.toArray nn)]) ?yd kR cov) (apart_cov kG qN cov (q := (D, _)) (.head _) hDn)
    case ya => rw [qL, qe1]; omega
    case yb =>
      refine bnd_set (fun y hy => ?_) _
      obtain ⟨q, hq, hy⟩ := List.mem_flatten.mp hy
      rw [(List.mem_replicate.mp hq).2] at hy
      rw [List.mem_singleton.mp hy]
      omega
    case yd =>
      intro q hq
      rcases List.mem_cons.mp hq with rfl | hq
      · exact kN1 _ (.head _)
      · exact kN1 _ (by rw [List.mem_singleton.mp hq]; k_memK)
end
end Mine
end
section
namespace Mine
def Cg (a b : Int) : Prop := (8380417 : Int) ∣ a - b
theorem Cg.refl (a : Int) : Cg a a := ⟨0, by omega⟩
theorem Cg.symm {a b : Int} (h : Cg a b) : Cg b a := by obtain ⟨k, h⟩ := h; exact ⟨-k, by omega⟩
theorem Cg.trans {a b c : Int} (h : Cg a b) (h' : Cg b c) : Cg a c := by obtain ⟨k, h⟩ := h; obtain ⟨k', h'⟩ := h'; exact ⟨k + k', by omega⟩
theorem Cg.add {a b c d : Int} (h : Cg a b) (h' : Cg c d) : Cg (a + c) (b + d) := by obtain ⟨k, h⟩ := h; obtain ⟨k', h'⟩ := h'; exact ⟨k + k', by omega⟩
theorem Cg.sub {a b c d : Int} (h : Cg a b) (h' : Cg c d) : Cg (a - c) (b - d) := by obtain ⟨k, h⟩ := h; obtain ⟨k', h'⟩ := h'; exact ⟨k - k', by omega⟩
theorem Cg.mul {a b c d : Int} (h : Cg a b) (h' : Cg c d) : Cg (a * c) (b * d) := by
  obtain ⟨k, h⟩ := h; obtain ⟨k', h'⟩ := h'
  refine ⟨k * c + b * k', ?_⟩
  grind
theorem cg_mod (a : Int) : Cg (a % 8380417) a := ⟨-(a / 8380417), by have := Int.emod_add_mul_ediv a 8380417; omega⟩
theorem Cg.emod {a b : Int} (h : Cg a b) : a % 8380417 = b % 8380417 := by
  obtain ⟨k, h⟩ := h
  omega
def ev (r : Int) (f : Nat → Int) : Nat → Int
  | 0 => 0
  | n + 1 => ev r f n + f n * r ^ n
theorem ev_congr (r : Int) {f g : Nat → Int} : ∀ {n : Nat}, (∀ t, t < n → f t = g t) → ev r f n = ev r g n
  | 0, _ => rfl
  | n + 1, h => by rw [ev, ev, ev_congr r fun t ht => h t (by omega), h n (by omega)]
theorem ev_add (r : Int) (f : Nat → Int) (a : Nat) : ∀ b, ev r f (a + b) = ev r f a + r ^ a * ev r (fun t => f (a + t)) b
  | 0 => by simp [ev]
  | b + 1 => by
    rw [← Nat.add_assoc, ev, ev_add r f a b, ev, Int.pow_add]
    grind
theorem ev_lin (r z : Int) (f g : Nat → Int) : ∀ n, ev r (fun t => f t + z * g t) n = ev r f n + z * ev r g n
  | 0 => by simp [ev]
  | n + 1 => by
    rw [ev, ev, ev, ev_lin r z f g n]
    grind
theorem getD_set (cs : List Int) (j i : Nat) (x : Int) : (cs.set j x).getD i 0 = if i = j ∧ j < cs.length then x else cs.getD i 0 := by
  rw [List.getD_eq_getElem?_getD, List.getD_eq_getElem?_getD, List.getElem?_set]
  by_cases h : j = i
  · subst h
    by_cases h2 : j < cs.length
    · simp [h2]
    · simp [h2]
  · have : ¬ i = j := fun e => h e.symm
    simp [h, this]
theorem bf_get {z : Int} {l j : Nat} {cs : List Int} (hl : 1 ≤ l) (h : j + l < cs.length) (i : Nat) : (bf z l j cs).getD i 0 =
    if i = j then cs.getD j 0 + z * cs.getD (j + l) 0 else if i = j + l then cs.getD j 0 - z * cs.getD (j + l) 0 else cs.getD i 0 := by
  unfold bf
  rw [getD_set, getD_set, getD_set, List.length_set]
  have a1 : j < cs.length := by omega
  have a2 : j ≠ j + l := by omega
  by_cases h1 : i = j
  · rw [if_pos ⟨h1, a1⟩, if_neg (fun e => a2 e.1), if_pos h1]
  · rw [if_neg (fun e => h1 e.1), if_neg h1]
    by_cases h2 : i = j + l
    · rw [if_pos ⟨h2, h⟩, if_pos h2]
    · rw [if_neg (fun e => h2 e.1), if_neg h2]
theorem blk_get {z : Int} {l st : Nat} {cs : List Int} (hl : 1 ≤ l) (h : st + 2 * l ≤ cs.length) : ∀ (n : Nat), n ≤ l → ∀ i, (blk z l st n cs).getD i 0 =
    if st ≤ i ∧ i < st + n then cs.getD i 0 + z * cs.getD (i + l) 0 else if st + l ≤ i ∧ i < st + l + n then cs.getD (i - l) 0 - z * cs.getD i 0 else cs.getD i 0
  | 0, _, i => by
    rw [blk, if_neg (by omega), if_neg (by omega)]
  | n + 1, hn, i => by
    have ih := blk_get (z := z) hl h n (by omega)
    rw [blk, bf_get hl (by rw [blk_len]; omega), ih i, ih (st + n), ih (st + n + l)]
    grind
theorem div_blk {l n i : Nat} (hl : 1 ≤ l) (h1 : 2 * l * n ≤ i) (h2 : i < 2 * l * n + 2 * l) : i / (2 * l) = n ∧ i % (2 * l) = i - 2 * l * n := by
  have e : i / (2 * l) = n := by
    rw [Nat.div_eq_iff (by omega)]
    rw [Nat.mul_comm n (2 * l)]
    omega
  refine ⟨e, ?_⟩
  have := Nat.div_add_mod i (2 * l)
  rw [e] at this
  omega
theorem lay_get {zs : List Int} {l k0 : Nat} {cs : List Int} (hl : 1 ≤ l) : ∀ (n : Nat), 2 * l * n ≤ cs.length → ∀ i, (lay zs l k0 n cs).getD i 0 =
    if i < 2 * l * n then (if i % (2 * l) < l then cs.getD i 0 + zs.getD (k0 + i / (2 * l) + 1) 0 * cs.getD (i + l) 0 else cs.getD (i - l) 0 - zs.getD (k0 + i / (2 * l) + 1) 0 * cs.getD i 0) else cs.getD i 0
  | 0, _, i => by
    rw [lay, if_neg (by omega)]
  | n + 1, hn, i => by
    rw [Nat.mul_succ] at hn
    have ih := lay_get (zs := zs) (k0 := k0) hl n (by omega : 2 * l * n ≤ cs.length)
    rw [lay, blk_get hl (by rw [lay_len]; omega) l (Nat.le_refl _), ih i, ih (i + l), ih (i - l), Nat.mul_succ]
    by_cases h0 : i < 2 * l * n
    · rw [if_neg (by omega), if_neg (by omega), if_pos h0, if_pos (show i < 2 * l * n + 2 * l by omega)]
    · by_cases h1 : i < 2 * l * n + 2 * l
      · obtain ⟨e1, e2⟩ := div_blk hl (by omega) h1
        rw [if_pos h1, e1, e2]
        by_cases h2 : i < 2 * l * n + l
        · rw [if_pos (by omega), if_neg h0, if_neg (by omega), if_pos (by omega)]
        · rw [if_neg (by omega), if_pos (by omega), if_neg h0, if_neg (by omega), if_neg (by omega)]
      · rw [if_neg (by omega), if_neg (by omega), if_neg h0, if_neg h1]
theorem ibf_get {z : Int} {l j : Nat} {cs : List Int} (hl : 1 ≤ l) (h : j + l < cs.length) (i : Nat) : (ibf z l j cs).getD i 0 =
    if i = j then cs.getD j 0 + cs.getD (j + l) 0 else if i = j + l then z * (cs.getD j 0 - cs.getD (j + l) 0) else cs.getD i 0 := by
  unfold ibf
  have a1 : j < cs.length := by omega
  have a2 : ¬ (j + l = j) := by omega
  have e1 : (cs.set j (cs.getD j 0 + cs.getD (j + l) 0)).getD (j + l) 0 = cs.getD (j + l) 0 := by rw [getD_set, if_neg (fun e => a2 e.1)]
  rw [e1]
  have e2 : ((cs.set j (cs.getD j 0 + cs.getD (j + l) 0)).set (j + l) (cs.getD j 0 - cs.getD (j + l) 0)).getD (j + l) 0 = cs.getD j 0 - cs.getD (j + l) 0 := by
    rw [getD_set, List.length_set, if_pos ⟨rfl, h⟩]
  rw [e2, getD_set, getD_set, getD_set, List.length_set, List.length_set]
  by_cases h1 : i = j
  · subst h1
    rw [if_neg (fun e => a2 e.1.symm), if_neg (fun e => a2 e.1.symm), if_pos ⟨rfl, a1⟩, if_pos rfl]
  · by_cases h2 : i = j + l
    · rw [if_pos ⟨h2, h⟩, if_neg h1, if_pos h2]
    · rw [if_neg (fun e => h2 e.1), if_neg (fun e => h2 e.1), if_neg (fun e => h1 e.1), if_neg h1, if_neg h2]
theorem iblk_get {z : Int} {l st : Nat} {cs : List Int} (hl : 1 ≤ l) (h : st + 2 * l ≤ cs.length) : ∀ (n : Nat), n ≤ l → ∀ i, (iblk z l st n cs).getD i 0 =
    if st ≤ i ∧ i < st + n then cs.getD i 0 + cs.getD (i + l) 0 else if st + l ≤ i ∧ i < st + l + n then z * (cs.getD (i - l) 0 - cs.getD i 0) else cs.getD i 0
  | 0, _, i => by
    rw [iblk, if_neg (by omega), if_neg (by omega)]
  | n + 1, hn, i => by
    have ih := iblk_get (z := z) hl h n (by omega)
    rw [iblk, ibf_get hl (by rw [iblk_len]; omega), ih i, ih (st + n), ih (st + n + l)]
    grind
theorem ilay_get {zs : List Int} {l k0 : Nat} {cs : List Int} (hl : 1 ≤ l) : ∀ (n : Nat), 2 * l * n ≤ cs.length → ∀ i, (ilay zs l k0 n cs).getD i 0 =
    if i < 2 * l * n then (if i % (2 * l) < l then cs.getD i 0 + cs.getD (i + l) 0 else -(zs.getD (k0 - (i / (2 * l) + 1)) 0) * (cs.getD (i - l) 0 - cs.getD i 0)) else cs.getD i 0
  | 0, _, i => by
    rw [ilay, if_neg (by omega)]
  | n + 1, hn, i => by
    rw [Nat.mul_succ] at hn
    have ih := ilay_get (zs := zs) (k0 := k0) hl n (by omega : 2 * l * n ≤ cs.length)
    rw [ilay, iblk_get hl (by rw [ilay_len]; omega) l (Nat.le_refl _), ih i, ih (i + l), ih (i - l), Nat.mul_succ]
    by_cases h0 : i < 2 * l * n
    · rw [if_neg (by omega), if_neg (by omega), if_pos h0, if_pos (show i < 2 * l * n + 2 * l by omega)]
    · by_cases h1 : i < 2 * l * n + 2 * l
      · obtain ⟨e1, e2⟩ := div_blk hl (by omega) h1
        rw [if_pos h1, e1, e2]
        by_cases h2 : i < 2 * l * n + l
        · rw [if_pos (by omega), if_neg h0, if_neg (by omega), if_pos (by omega)]
        · rw [if_neg (by omega), if_pos (by omega), if_neg h0, if_neg (by omega), if_neg (by omega)]
      · rw [if_neg (by omega), if_neg (by omega), if_neg h0, if_neg h1]
def E (r : Int) (cs : List Int) (s n : Nat) : Int := ev r (fun t => cs.getD (s + t) 0) n
theorem E_two (r : Int) (cs : List Int) (s l : Nat) : E r cs s (2 * l) = E r cs s l + r ^ l * E r cs (s + l) l := by
  unfold E
  rw [Nat.two_mul, ev_add]
  simp only [Nat.add_assoc]
theorem blk_of {l i : Nat} (hl : 1 ≤ l) : ∃ b u, i = 2 * l * b + u ∧ u < 2 * l ∧ i / (2 * l) = b ∧ i % (2 * l) = u ∧ i / (2 * l) * (2 * l) = 2 * l * b ∧ i / l * l = if u < l then 2 * l * b else 2 * l * b + l := by
  refine ⟨i / (2 * l), i % (2 * l), (Nat.div_add_mod i (2 * l)).symm, Nat.mod_lt _ (by omega), rfl, rfl, Nat.mul_comm _ _, ?_⟩
  have h1 := Nat.div_add_mod i (2 * l)
  have h2 := Nat.div_add_mod i l
  have h3 : i % (2 * l) % l = i % l := Nat.mod_mod_of_dvd i ⟨2, Nat.mul_comm _ _⟩
  have h4 := Nat.mod_lt i (show 0 < 2 * l by omega)
  rw [Nat.mul_comm (i / l) l]
  split
  · rename_i h
    rw [Nat.mod_eq_of_lt h] at h3
    omega
  · rename_i h
    have : i % (2 * l) % l = i % (2 * l) - l := by
      rw [Nat.mod_eq_sub_mod (by omega), Nat.mod_eq_of_lt (by omega)]
    omega
theorem lay_ev {zs cs : List Int} {l k0 n i : Nat} {r : Int} (hl : 1 ≤ l) (hn : 2 * l * n ≤ cs.length) (hi : i < 2 * l * n)
    (hr : Cg (r ^ l) (if i % (2 * l) < l then zs.getD (k0 + i / (2 * l) + 1) 0 else -(zs.getD (k0 + i / (2 * l) + 1) 0))) :
    Cg (E r (lay zs l k0 n cs) (i / l * l) l) (E r cs (i / (2 * l) * (2 * l)) (2 * l)) := by
  obtain ⟨b, u, e, hu, e1, e2, e3, e4⟩ := blk_of (i := i) hl
  rw [e3, e4, E_two]
  rw [e1, e2] at hr
  have hb : 2 * l * b + 2 * l ≤ 2 * l * n := by
    have : b < n := Nat.lt_of_mul_lt_mul_left (a := 2 * l) (by omega)
    rw [← Nat.mul_succ]
    exact Nat.mul_le_mul_left _ this
  have A : ∀ t, t < l → (lay zs l k0 n cs).getD (2 * l * b + t) 0 = cs.getD (2 * l * b + t) 0 + zs.getD (k0 + b + 1) 0 * cs.getD (2 * l * b + l + t) 0 := by
    intro t ht
    obtain ⟨q1, q2⟩ := div_blk (l := l) (n := b) (i := 2 * l * b + t) hl (by omega) (by omega)
    rw [lay_get hl n hn, if_pos (by omega), q1, q2, if_pos (by omega), show 2 * l * b + t + l = 2 * l * b + l + t by omega]
  have B : ∀ t, t < l → (lay zs l k0 n cs).getD (2 * l * b + l + t) 0 = cs.getD (2 * l * b + t) 0 + (-(zs.getD (k0 + b + 1) 0)) * cs.getD (2 * l * b + l + t) 0 := by
    intro t ht
    obtain ⟨q1, q2⟩ := div_blk (l := l) (n := b) (i := 2 * l * b + l + t) hl (by omega) (by omega)
    rw [lay_get hl n hn, if_pos (by omega), q1, q2, if_neg (by omega), show 2 * l * b + l + t - l = 2 * l * b + t by omega]
    rw [Int.sub_eq_add_neg, Int.neg_mul]
  by_cases h : u < l
  · rw [if_pos h] at hr ⊢
    have : E r (lay zs l k0 n cs) (2 * l * b) l = E r cs (2 * l * b) l + zs.getD (k0 + b + 1) 0 * E r cs (2 * l * b + l) l := by
      unfold E
      rw [ev_congr r A, ev_lin]
    rw [this]
    exact (Cg.refl _).add (hr.symm.mul (Cg.refl _))
  · rw [if_neg h] at hr ⊢
    have : E r (lay zs l k0 n cs) (2 * l * b + l) l = E r cs (2 * l * b) l + (-(zs.getD (k0 + b + 1) 0)) * E r cs (2 * l * b + l) l := by
      unfold E
      rw [ev_congr r B, ev_lin]
    rw [this]
    exact (Cg.refl _).add (hr.symm.mul (Cg.refl _))
theorem ilay_ev {zs cs : List Int} {l k0 n i : Nat} {r : Int} (hl : 1 ≤ l) (hn : 2 * l * n ≤ cs.length) (hi : i < 2 * l * n)
    (hr : Cg (-(zs.getD (k0 - (i / (2 * l) + 1)) 0) * r ^ l) (if i % (2 * l) < l then 1 else -1)) :
    Cg (E r (ilay zs l k0 n cs) (i / (2 * l) * (2 * l)) (2 * l)) (2 * E r cs (i / l * l) l) := by
  obtain ⟨b, u, e, hu, e1, e2, e3, e4⟩ := blk_of (i := i) hl
  rw [e3, e4, E_two]
  rw [e1, e2] at hr
  have hb : 2 * l * b + 2 * l ≤ 2 * l * n := by
    have : b < n := Nat.lt_of_mul_lt_mul_left (a := 2 * l) (by omega)
    rw [← Nat.mul_succ]
    exact Nat.mul_le_mul_left _ this
  have A : ∀ t, t < l → (ilay zs l k0 n cs).getD (2 * l * b + t) 0 = cs.getD (2 * l * b + t) 0 + 1 * cs.getD (2 * l * b + l + t) 0 := by
    intro t ht
    obtain ⟨q1, q2⟩ := div_blk (l := l) (n := b) (i := 2 * l * b + t) hl (by omega) (by omega)
    rw [ilay_get hl n hn, if_pos (by omega), q2, if_pos (by omega), show 2 * l * b + t + l = 2 * l * b + l + t by omega, Int.one_mul]
  have B : ∀ t, t < l → (ilay zs l k0 n cs).getD (2 * l * b + l + t) 0 = 0 + (-(zs.getD (k0 - (b + 1)) 0)) * (cs.getD (2 * l * b + t) 0 + (-1) * cs.getD (2 * l * b + l + t) 0) := by
    intro t ht
    obtain ⟨q1, q2⟩ := div_blk (l := l) (n := b) (i := 2 * l * b + l + t) hl (by omega) (by omega)
    rw [ilay_get hl n hn, if_pos (by omega), q1, q2, if_neg (by omega), show 2 * l * b + l + t - l = 2 * l * b + t by omega]
    grind
  have e5 : E r (ilay zs l k0 n cs) (2 * l * b) l = E r cs (2 * l * b) l + 1 * E r cs (2 * l * b + l) l := by
    unfold E
    rw [ev_congr r A, ev_lin]
  have e6 : E r (ilay zs l k0 n cs) (2 * l * b + l) l = (-(zs.getD (k0 - (b + 1)) 0)) * (E r cs (2 * l * b) l + (-1) * E r cs (2 * l * b + l) l) := by
    unfold E
    rw [ev_congr r B, ev_lin r _ (fun _ => 0), ev_lin r (-1) (fun t => cs.getD (2 * l * b + t) 0)]
    have z : ∀ n, ev r (fun _ => 0) n = 0 := by
      intro n
      induction n with
      | zero => rfl
      | succ n ih => rw [ev, ih]; simp
    rw [z]
    simp
  rw [e5, e6]
  have hm := hr.mul (Cg.refl (E r cs (2 * l * b) l + (-1) * E r cs (2 * l * b + l) l))
  by_cases h : u < l
  · rw [if_pos h] at hm ⊢
    obtain ⟨k, hk⟩ := hm
    exact ⟨k, by grind⟩
  · rw [if_neg h] at hm ⊢
    obtain ⟨k, hk⟩ := hm
    exact ⟨k, by grind⟩
def RootsOk (r : Nat → Int) (zs : List Int) : Prop :=
  (∀ k, k < 8 → ∀ j, j < 256 → Cg (r j ^ (128 / 2 ^ k)) (if j % (2 * (128 / 2 ^ k)) < 128 / 2 ^ k then zs.getD (2 ^ k - 1 + j / (2 * (128 / 2 ^ k)) + 1) 0 else -(zs.getD (2 ^ k - 1 + j / (2 * (128 / 2 ^ k)) + 1) 0))) ∧
  (∀ k, k < 8 → ∀ j, j < 256 → Cg (-(zs.getD (256 / 2 ^ k - (j / (2 * 2 ^ k) + 1)) 0) * r j ^ (2 ^ k)) (if j % (2 * 2 ^ k) < 2 ^ k then 1 else -1))
theorem pow_facts : ∀ k, k < 8 → 1 ≤ 128 / 2 ^ k ∧ 2 * (128 / 2 ^ k) * 2 ^ k = 256 ∧ 2 * 2 ^ k * (128 / 2 ^ k) = 256 ∧ 256 / 2 ^ (k + 1) = 128 / 2 ^ k ∧ 2 * (128 / 2 ^ k) = 256 / 2 ^ k := by decide
theorem ntt_ev {r : Nat → Int} {zs cs : List Int} (R : RootsOk r zs) (hc : cs.length = 256) {j : Nat} (hj : j < 256) : ∀ k, k ≤ 8 → Cg (E (r j) (ntt zs k cs) (j / (256 / 2 ^ k) * (256 / 2 ^ k)) (256 / 2 ^ k)) (E (r j) cs 0 256)
  | 0, _ => by
    have : j / (256 / 2 ^ 0) * (256 / 2 ^ 0) = 0 := by
      rw [show 256 / 2 ^ 0 = 256 from rfl, Nat.div_eq_of_lt hj, Nat.zero_mul]
    rw [this]
    exact Cg.refl _
  | k + 1, hk => by
    obtain ⟨f1, f2, _, f4, f5⟩ := pow_facts k hk
    have ih := ntt_ev R hc hj k (by omega)
    rw [f4, ntt]
    rw [← f5] at ih
    exact (lay_ev f1 (by rw [ntt_len, hc, f2]; exact Nat.le_refl _) (by rw [f2]; exact hj) (R.1 k hk j hj)).trans ih
theorem E_one (r : Int) (cs : List Int) (j : Nat) : E r cs j 1 = cs.getD j 0 := by
  show (0 : Int) + cs.getD (j + 0) 0 * r ^ 0 = _
  rw [Int.pow_zero, Int.mul_one, Int.zero_add, Nat.add_zero]
theorem ntt_at {r : Nat → Int} {zs cs : List Int} (R : RootsOk r zs) (hc : cs.length = 256) {j : Nat} (hj : j < 256) : Cg ((ntt zs 8 cs).getD j 0) (E (r j) cs 0 256) := by
  have h := ntt_ev R hc hj 8 (Nat.le_refl _)
  rw [show 256 / 2 ^ 8 = 1 from rfl, Nat.div_one, Nat.mul_one] at h
  rw [E_one] at h
  exact h
theorem intt_ev {r : Nat → Int} {zs cs : List Int} (R : RootsOk r zs) (hc : cs.length = 256) {j : Nat} (hj : j < 256) : ∀ k, k ≤ 8 → Cg (E (r j) (intt zs k cs) (j / 2 ^ k * 2 ^ k) (2 ^ k)) (2 ^ k * cs.getD j 0)
  | 0, _ => by
    simp [E, ev, intt, Cg.refl]
  | k + 1, hk => by
    obtain ⟨_, _, f3, _, _⟩ := pow_facts k hk
    have ih := intt_ev R hc hj k (by omega)
    rw [Nat.pow_succ, Nat.mul_comm (2 ^ k) 2, intt]
    refine (ilay_ev Nat.one_le_two_pow (by rw [intt_len, hc, f3]; exact Nat.le_refl _) (by rw [f3]; exact hj) (R.2 k hk j hj)).trans ?_
    have := (Cg.refl 2).mul ih
    rw [Int.pow_succ, Int.mul_comm (2 ^ k) 2, Int.mul_assoc]
    exact this
theorem intt_at {r : Nat → Int} {zs cs : List Int} (R : RootsOk r zs) (hc : cs.length = 256) {j : Nat} (hj : j < 256) : Cg (E (r j) (intt zs 8 cs) 0 256) (256 * cs.getD j 0) := by
  have h := intt_ev R hc hj 8 (Nat.le_refl _)
  rw [show 2 ^ 8 = 256 from rfl, Nat.div_eq_of_lt hj, Nat.zero_mul] at h
  exact h
theorem getD_map (f : Int → Int) (h0 : f 0 = 0) (cs : List Int) (i : Nat) : (cs.map f).getD i 0 = f (cs.getD i 0) := by
  rw [List.getD_eq_getElem?_getD, List.getD_eq_getElem?_getD, List.getElem?_map]
  cases cs[i]? with
  | none => exact h0.symm
  | some a => rfl
theorem modTo_all {cs : List Int} (hc : cs.length = 256) : modTo 256 cs = cs.map fun c => c % 8380417 := by
  unfold modTo
  rw [List.take_of_length_le (by omega), List.drop_of_length_le (by omega), List.append_nil]
theorem mulTo_all {cs : List Int} (hc : cs.length = 256) : mulTo 256 cs = cs.map fun c => c * 8347681 % 8380417 := by
  unfold mulTo
  rw [List.take_of_length_le (by omega), List.drop_of_length_le (by omega), List.append_nil]
theorem toNtt_at {r : Nat → Int} {zs cs : List Int} (R : RootsOk r zs) (hc : cs.length = 256) {j : Nat} (hj : j < 256) : (modTo 256 (ntt zs 8 cs)).getD j 0 = E (r j) cs 0 256 % 8380417 := by
  rw [modTo_all (by rw [ntt_len, hc]), getD_map _ (by decide)]
  exact (ntt_at R hc hj).emod
theorem ev_scale {r m : Int} {f g : Nat → Int} (h : ∀ t, Cg (f t) (m * g t)) : ∀ n, Cg (ev r f n) (m * ev r g n)
  | 0 => by simp [ev, Cg.refl]
  | n + 1 => by
    rw [ev, ev, Int.mul_add, ← Int.mul_assoc]
    exact (ev_scale h n).add ((h n).mul (Cg.refl _))
theorem fromNtt_at {r : Nat → Int} {zs cs : List Int} (R : RootsOk r zs) (hc : cs.length = 256) {j : Nat} (hj : j < 256) : E (r j) (mulTo 256 (intt zs 8 cs)) 0 256 % 8380417 = cs.getD j 0 % 8380417 := by
  rw [mulTo_all (by rw [intt_len, hc])]
  have h : ∀ t, Cg (((intt zs 8 cs).map fun c => c * 8347681 % 8380417).getD (0 + t) 0) (8347681 * (intt zs 8 cs).getD (0 + t) 0) := by
    intro t
    rw [getD_map _ (by decide), Int.mul_comm 8347681]
    exact cg_mod _
  refine Cg.emod ((ev_scale h 256).trans (((Cg.refl 8347681).mul (intt_at R hc hj)).trans ?_))
  exact ⟨255 * cs.getD j 0, by omega⟩
end Mine
end
section
open PySem PySem.W PyProof.Rows PySem.Calls PySem.Spec
set_option maxRecDepth 100000
namespace Mine
def zN (i : Nat) : Nat := Builtin.powMod 1753 (brv i) 8380417
def rN (j : Nat) : Nat := Builtin.powMod 1753 (2 * brv j + 1) 8380417
def rt (j : Nat) : Int := (rN j : Int)
theorem zetaL_at {i : Nat} (h : i < 256) : zetaL.getD i 0 = (zN i : Int) := by
  unfold zetaL zN
  rw [List.getD_eq_getElem?_getD, List.getElem?_map, List.getElem?_range h]
  rfl
def chkA (k j : Nat) : Bool :=
  if j % (2 * (128 / 2 ^ k)) < 128 / 2 ^ k then (rN j ^ (128 / 2 ^ k)) % 8380417 == zN (2 ^ k - 1 + j / (2 * (128 / 2 ^ k)) + 1) else ((rN j ^ (128 / 2 ^ k)) % 8380417 + zN (2 ^ k - 1 + j / (2 * (128 / 2 ^ k)) + 1)) == 8380417
def chkB (k j : Nat) : Bool :=
  if j % (2 * 2 ^ k) < 2 ^ k then (zN (256 / 2 ^ k - (j / (2 * 2 ^ k) + 1)) * (rN j ^ (2 ^ k) % 8380417)) % 8380417 == 8380416 else (zN (256 / 2 ^ k - (j / (2 * 2 ^ k) + 1)) * (rN j ^ (2 ^ k) % 8380417)) % 8380417 == 1
theorem chkA_ok : ((List.range 8).all fun k => (List.range 256).all fun j => chkA k j) = true := by decide +kernel
theorem chkB_ok : ((List.range 8).all fun k => (List.range 256).all fun j => chkB k j) = true := by decide +kernel
theorem idx_ok : ∀ k, k < 8 → ∀ j, j < 256 → 2 ^ k - 1 + j / (2 * (128 / 2 ^ k)) + 1 < 256 ∧ 256 / 2 ^ k - (j / (2 * 2 ^ k) + 1) < 256 := by
  intro k hk j hj
  have h := (by decide +kernel : ((List.range 8).all fun k => (List.range 256).all fun j => decide (2 ^ k - 1 + j / (2 * (128 / 2 ^ k)) + 1 < 256 ∧ 256 / 2 ^ k - (j / (2 * 2 ^ k) + 1) < 256)) = true)
  exact of_decide_eq_true (List.all_eq_true.mp (List.all_eq_true.mp h k (List.mem_range.mpr hk)) j (List.mem_range.mpr hj))
theorem roots_ok : RootsOk rt zetaL := by
  refine ⟨fun k hk j hj => ?_, fun k hk j hj => ?_⟩
  · have h := List.all_eq_true.mp (List.all_eq_true.mp chkA_ok k (List.mem_range.mpr hk)) j (List.mem_range.mpr hj)
    have hx := idx_ok k hk j hj
    rw [zetaL_at hx.1]
    unfold chkA at h
    have e : rt j ^ (128 / 2 ^ k) = ((rN j ^ (128 / 2 ^ k) : Nat) : Int) := by unfold rt; rw [Int.natCast_pow]
    rw [e]
    generalize rN j ^ (128 / 2 ^ k) = a at h
    generalize zN (2 ^ k - 1 + j / (2 * (128 / 2 ^ k)) + 1) = b at h
    split at h
    · rename_i hc
      rw [if_pos hc]
      have := beq_iff_eq.mp h
      exact ⟨(a / 8380417 : Nat), by omega⟩
    · rename_i hc
      rw [if_neg hc]
      have := beq_iff_eq.mp h
      exact ⟨(a / 8380417 : Nat) + 1, by omega⟩
  · have h := List.all_eq_true.mp (List.all_eq_true.mp chkB_ok k (List.mem_range.mpr hk)) j (List.mem_range.mpr hj)
    have hx := idx_ok k hk j hj
    rw [zetaL_at hx.2]
    unfold chkB at h
    have e : rt j ^ 2 ^ k = ((rN j ^ 2 ^ k : Nat) : Int) := by unfold rt; rw [Int.natCast_pow]
    rw [e]
    generalize rN j ^ 2 ^ k = a at h
    generalize zN (256 / 2 ^ k - (j / (2 * 2 ^ k) + 1)) = b at h
    have e2 : Cg ((b : Int) * (a : Int)) (((b * (a % 8380417) % 8380417 : Nat)) : Int) := by
      have h1 : Cg (a : Int) ((a % 8380417 : Nat) : Int) := ⟨(a / 8380417 : Nat), by omega⟩
      refine ((Cg.refl (b : Int)).mul h1).trans ?_
      have h2 : ((b : Int) * ((a % 8380417 : Nat) : Int)) = ((b * (a % 8380417) : Nat) : Int) := by rw [Int.natCast_mul]
      rw [h2]
      generalize b * (a % 8380417) = c
      exact ⟨(c / 8380417 : Nat), by omega⟩
    split at h
    · rename_i hc
      rw [if_pos hc]
      rw [beq_iff_eq.mp h] at e2
      obtain ⟨m, hm⟩ := e2
      refine ⟨-m - 1, ?_⟩
      rw [Int.neg_mul]
      omega
    · rename_i hc
      rw [if_neg hc]
      rw [beq_iff_eq.mp h] at e2
      obtain ⟨m, hm⟩ := e2
      refine ⟨-m, ?_⟩
      rw [Int.neg_mul]
      omega
end Mine
end
section
namespace Mine
def hv (r c2 c3 c4 : Int) (cs : List Int) : Nat → Int
  | 0 => 0
  | d + 1 => (hv r c2 c3 c4 cs d * c4 + cs.getD (252 - 4 * d) 0 + r * cs.getD (252 - 4 * d + 1) 0 + c2 * cs.getD (252 - 4 * d + 2) 0 + c3 * cs.getD (252 - 4 * d + 3) 0).fmod 8380417
@[irreducible] def hvw (r c2 c3 c4 : Int) (cs : List Int) (d : Nat) : Int := hv r c2 c3 c4 cs d
theorem hvw_zero (r c2 c3 c4 : Int) (cs : List Int) : hvw r c2 c3 c4 cs 0 = 0 := by unfold hvw; rfl
theorem hvw_succ (r c2 c3 c4 : Int) (cs : List Int) (d : Nat) : hvw r c2 c3 c4 cs (d + 1) = (hvw r c2 c3 c4 cs d * c4 + cs.getD (252 - 4 * d) 0 + r * cs.getD (252 - 4 * d + 1) 0 + c2 * cs.getD (252 - 4 * d + 2) 0 + c3 * cs.getD (252 - 4 * d + 3) 0).fmod 8380417 := by unfold hvw; rfl
theorem cg_fmod (a : Int) : Cg (a.fmod 8380417) a := by
  rw [Int.fmod_eq_emod_of_nonneg _ (by decide)]
  exact cg_mod a
theorem E_four (r : Int) (cs : List Int) (s n : Nat) : E r cs s (4 + n) = cs.getD s 0 + r * cs.getD (s + 1) 0 + r ^ 2 * cs.getD (s + 2) 0 + r ^ 3 * cs.getD (s + 3) 0 + r ^ 4 * E r cs (s + 4) n := by
  unfold E
  rw [ev_add]
  simp only [ev, Nat.add_assoc, Nat.add_zero]
  grind
theorem hvw_cg {r c2 c3 c4 : Int} {cs : List Int} (h2 : Cg c2 (r ^ 2)) (h3 : Cg c3 (r ^ 3)) (h4 : Cg c4 (r ^ 4)) : ∀ d, d ≤ 64 → Cg (hvw r c2 c3 c4 cs d) (E r cs (256 - 4 * d) (4 * d))
  | 0, _ => by rw [hvw_zero]; exact Cg.refl _
  | d + 1, hd => by
    have ih := hvw_cg (cs := cs) h2 h3 h4 d (by omega)
    rw [hvw_succ]
    refine (cg_fmod _).trans ?_
    have e : 256 - 4 * d = 256 - 4 * (d + 1) + 4 := by omega
    rw [Nat.mul_succ, Nat.add_comm (4 * d) 4, E_four]
    have e0 : 256 - (4 + 4 * d) = 252 - 4 * d := by omega
    have e1 : 252 - 4 * d + 4 = 256 - 4 * d := by omega
    rw [e0, e1]
    have a := ih.mul h4
    have b := h2.mul (Cg.refl (cs.getD (252 - 4 * d + 2) 0))
    have c := h3.mul (Cg.refl (cs.getD (252 - 4 * d + 3) 0))
    have := (((a.add (Cg.refl (cs.getD (252 - 4 * d) 0))).add (Cg.refl (r * cs.getD (252 - 4 * d + 1) 0))).add b).add c
    refine this.trans ?_
    exact ⟨0, by grind⟩
theorem hvw_all (r : Int) (cs : List Int) : hvw r ((r ^ Int.toNat 2).fmod 8380417) ((r ^ Int.toNat 3).fmod 8380417) ((r ^ Int.toNat 4).fmod 8380417) cs 64 = E r cs 0 256 % 8380417 := by
  have h := hvw_cg (r := r) (cs := cs) (cg_fmod (r ^ 2)) (cg_fmod (r ^ 3)) (cg_fmod (r ^ 4)) 64 (Nat.le_refl _)
  have e := h.emod
  have f : hvw r ((r ^ 2).fmod 8380417) ((r ^ 3).fmod 8380417) ((r ^ 4).fmod 8380417) cs 64 % 8380417 = hvw r ((r ^ 2).fmod 8380417) ((r ^ 3).fmod 8380417) ((r ^ 4).fmod 8380417) cs 64 := by
    rw [hvw_succ _ _ _ _ _ 63, Int.fmod_eq_emod_of_nonneg _ (by decide : (0 : Int) ≤ 8380417), Int.emod_emod_of_dvd _ (Int.dvd_refl _)]
  rw [f] at e
  exact e
end Mine
end
section
open PySem PySem.W PyProof.Rows PySem.Calls PySem.Spec
set_option maxRecDepth 100000
namespace Mine
section
variable {prog : Program} {w : World} {A₀ A : Around} {s : Shared} {base h₀ : Heap} {L : Addr} {m : Str → Option Value} {env : Env} {news : List (Addr × Obj)} {K : Frag}
  {R : Result → Shared → Prop} {name qual : Str} {params : Arguments} {body : List Stmt} {scope : Scope} {dV kV doc pm cdv ct oc : Value} {an od : Option Addr} {osl : Array (Option Value)} {f : Addr} {args : Args} {binds : List (Str × Value)}
  {p : Program} {loose : List Str} {mean : ExcName → Option Value} {mg mb : Str → Option Value}
theorem enterS (B : Below A₀ base [] h₀) (F : Fr h₀ L s.heap m) (X₀ : K.In h₀) (N : News h₀ L s.heap news) (T : Top p loose mean mg mb h₀) (hA : A.frames = some [env]) (hf : env.frame = some L) (hke : env.scope.kind = .function)
    (ho : K.lookup f = some ⟨oc, od, .func (fnOf name qual params body scope dV kV doc pm an cdv ct), osl⟩) (hcd : codeIn K cdv qual = true) (hroom : A.depth < recursionLimit)
    (hbind : BindsTo s (fnOf name qual params body scope dV kV doc pm an cdv ct) args binds) (hloc : ∀ y ∈ binds, scope.names.lookup y.1 = some .local)
    (h : ∀ g L' h₁, Fr h₀ L g m → Fr g L' h₁ (fun y => binds.reverse.lookup y) → News g L' h₁ news → Below A base [env] g → K.In g → Top p loose mean mg mb g → KtsDicts ([env].filterMap (·.frame)) g →
      wpAny (model prog w) (A.deeper (envOf qual scope L' f cdv)) (execs body (envOf qual scope L' f cdv))
        (fun fl s' => LeaveS0 ([env].filterMap (·.frame)) h₀ L m g R (match fl with | .ret v => v | _ => .none) s')
        (fun e s' => wpAny (model prog w) (A.deeper (envOf qual scope L' f cdv)) (leaving (envOf qual scope L' f cdv) e) (fun _ s'' => R (.error e) s'') (fun e' s'' => R (.error e') s'') s')
        { s with heap := h₁, toks := s.toks + binds.length })
    (hco : scope.isCoroutine = false) (hgen : scope.isGenerator = false) (hk : scope.kind = .function)
    (hcell : ∀ x ∈ scope.names, x.2 ≠ .cell) : codeAny (model prog w) A (.call (.ref f) args) R s := by
  have X := X₀.keeps F.keep
  obtain ⟨_, BG, st₀, _⟩ := groundX (R := R) B F N hA hf hke
  have st : ∀ b o, h₀.get? b = some o → (hideAll s.heap (news.map (·.1))).get? b = some o := st₀
  have hmem : ∀ b, b ∈ [env].filterMap (·.frame) → b = L := fun b hb => by
    obtain ⟨e, he, hb⟩ := List.mem_filterMap.mp hb
    rw [List.mem_singleton.mp he, hf] at hb
    exact (Option.some.inj hb).symm
  refine codeAny_call_def (fd := fnOf name qual params body scope dV kV doc pm an cdv ct) (body := body) (binds := binds) hroom (X _ _ ho) rfl (T.nolimit.keeps F.keep) (codeRec_of X hcd) rfl hbind hcell hloc (fun h₁ hns hk₁ => ?_) hco hgen hk
  obtain ⟨oL, es, ep, hL, hLd, hLk, hLf⟩ := F.ns
  have nL : L ∉ news.map (·.1) := fun q => by
    obtain ⟨p, hp, e⟩ := List.mem_map.mp q
    exact (N p hp).2.1 e
  have hLg := hideAll_get (news.map (·.1)) hL nL
  have hNs : ∀ (sl : Array (Option Value)) h', h'.get? L = some { oL with slots := sl } → Heap.Ns h' L m := fun sl h' e => ⟨_, es, ep, e, hLd, hLk, hLf⟩
  refine wpAny_mono (h _ s.heap.objs.size h₁ ⟨⟨oL, es, ep, hLg, hLd, hLk, hLf⟩, st, F.above⟩ ⟨hns, fun b o e => hk₁ b o (of_hideAll _ e), Nat.le_of_eq (hideAll_size _ _)⟩
    (fun p hp => ⟨hk₁ _ _ (N p hp).1, Nat.ne_of_lt (Heap.lt_size (N p hp).1), hideAll_none _ (List.mem_map_of_mem hp)⟩) BG (X₀.keeps st) (T.keeps st) (fun b hb => by
      rw [hmem b hb]
      exact ⟨oL, es, ep, hLg, hLd⟩)) (fun fl s' hl => ?_) fun _ _ y => y
  obtain ⟨g', L', m', news', T', F', N', k⟩ := hl
  have nL₀ : h₀.get? L = none := kts_self F
  obtain ⟨sl, hs⟩ := T'.up hLg
  refine k ⟨hNs sl _ (F'.keep _ _ hs), fun b o e => F'.keep b o (T'.other b o (st b o e) (fun q => by
    rw [hmem b q, nL₀] at e
    cases e)), F.above⟩ fun p hp => ⟨(N' p hp).1, fun q => ?_, ?_⟩
  · have := (N' p hp).2.2; rw [q, hs] at this; cases this
  · cases q : h₀.get? p.1 with
    | none => rfl
    | some o =>
      obtain ⟨sl', hs'⟩ := T'.up (st _ _ q)
      have := (N' p hp).2.2
      rw [hs'] at this
      cases this
end
section
variable {M : Model} {A : Around} {E : Value → Shared → Prop} {s' : Shared} {base g h : Heap} {outer : List Env} {L e : Addr} {m : Str → Option Value} {env : Env} {Q : Unit → Shared → Prop} {news : List (Addr × Obj)}
theorem kts_memX {b : Addr} (hf : env.frame = some L) (hm : b ∈ (env :: outer).filterMap (·.frame)) : b = L ∨ b ∈ outer.filterMap (·.frame) := by
  obtain ⟨e, he, hb⟩ := List.mem_filterMap.mp hm
  rcases List.mem_cons.mp he with rfl | he
  · rw [hf] at hb
    exact .inl (Option.some.inj hb).symm
  · exact .inr (List.mem_filterMap.mpr ⟨e, he, hb⟩)
theorem leave_newSX {cls : String} (K : Below A base outer g) (hx : Heap.NewExc h s'.heap e cls) (F : Fr g L h m) (N : News g L h news) (hf : env.frame = some L) (hk : env.scope.kind = .function)
    (hQ : ∀ h', RaisedSN base g outer e (.type cls) news h' → RaisedN base outer e (.type cls) news h' → g.UpToSlots h' → Q () { s' with heap := h' }) :
    wpAny M (A.deeper env) (leaving env (.ref e)) Q E s' := by
  have K' := pushX K F hf hk
  have hin : ∀ e ∈ (env :: outer), ∀ b, e.frame = some b → b ∈ (env :: outer).filterMap (·.frame) := fun env he b hb => List.mem_filterMap.mpr ⟨env, he, hb⟩
  have st : base.StaysIn (hideAll h ((env :: outer).filterMap (·.frame))) := fun b o q => hideAll_get _ (K'.stays b o q) fun hm => by
    rw [(K'.frames.mem hm).1] at q; cases q
  have sg : ∀ b o, g.get? b = some o → b ∉ outer.filterMap (·.frame) → (hideAll h ((env :: outer).filterMap (·.frame))).get? b = some o := fun b o q nm => hideAll_get _ (F.keep b o q) fun hm => by
    rcases kts_memX hf hm with z | z
    · rw [z, kts_self F] at q
      cases q
    · exact nm z
  have hl : ∀ q ∈ news, (hideAll h ((env :: outer).filterMap (·.frame))).get? q.1 = some q.2 ∧ g.get? q.1 = none ∧ base.get? q.1 = none := fun q hq => by
    refine ⟨hideAll_get _ (N q hq).1 fun hm => ?_, (N q hq).2.2, fresh_of_stays K.stays (N q hq).2.2⟩
    obtain ⟨e', he, hf'⟩ := List.mem_filterMap.mp hm
    rcases List.mem_cons.mp he with rfl | he
    · rw [hf] at hf'
      exact (N q hq).2.1 (Option.some.inj hf').symm
    · obtain ⟨o, ho, _⟩ := (K.frames.mem (List.mem_filterMap.mpr ⟨e', he, hf'⟩)).2
      rw [(N q hq).2.2] at ho; cases ho
  obtain ⟨ob, tp, he, hcls, hd⟩ := hx.there
  have hen : (hideAll h ((env :: outer).filterMap (·.frame))).get? e = none := by
    cases q : (hideAll h ((env :: outer).filterMap (·.frame))).get? e with
    | none => rfl
    | some o => have := of_hideAll _ q; rw [hx.new] at this; cases this
  refine wpAny_leaving_firstW (a0 := tp) K'.stack ((funFrames_hide K'.frames hin).of_keeps fun b o hb _ => ⟨o, hx.keeps b o hb, rfl⟩) hf he (fun b o hb => hx.keeps b o (of_hideAll _ hb)) hen hd rfl rfl fun h' hL => ?_
  obtain ⟨k1, ⟨_, _, k2⟩, k3, k4⟩ := hL
  have R : RaisedSN base g outer e (.type cls) news h' := ⟨_, tp, st, sg, hl, k1, hen, k2, by rw [← hcls]; exact k3⟩
  exact hQ h' R R.toN (((Heap.UpToSlots.of_keeps F.keep).trans (Heap.UpToSlots.of_keeps hx.keeps)).trans k4)
end
end Mine
end
section
open PySem PySem.W PyProof.Rows PySem.Calls PySem.Spec
set_option maxRecDepth 100000
namespace Mine
section
variable {prog : Program} {w : World} {A : Around} {E : Value → Shared → Prop} {s : Shared} {K : Frag} {x C L f : Addr} {h₀ : Heap} {m : Str → Option Value} {ox : Obj} {od : Option Obj}
theorem int_mul_ref {k : Int} {t : Tok} {Q : Value → Shared → Prop} (ho : s.heap.get? x = some ox) (hd : ox.data = .plain) (hQ : Q .notImplemented s) :
    wpAny (model prog w) A (call (.builtin "int.__mul__") [.int k t, .ref x]) Q E s := by
  refine wpAny_call_entry F.slot_int_mul (typeIs_int s k t) F.entry_int_mul ?_ (F.args_int_mul_2 _ _)
  unfold Builtin.«int.__mul__» Builtin.Int.intBinary
  refine wpAny_bind (wpAny_pure ?_)
  refine wpAny_bind (wpAny_pure ?_)
  refine wpAny_bind ?_
  show wpAny _ _ (asInt? (.ref x)) _ _ _
  unfold asInt?
  refine wpAny_bind (wpAny_load ho ?_)
  rw [hd]
  refine wpAny_pure ?_
  refine wpAny_bind (wpAny_rule ?_)
  exact wpAny_pure ⟨_, rfl, hQ⟩
theorem c1 {k : Int} {t : Tok} (ho : s.heap.get? x = some ox) (hd : ox.data = .plain) : wpAny (model prog w) A (call (.builtin "int.__mul__") (.int k t :: [.ref x]) []) (fun v s' => v = Value.notImplemented ∧ s' = s) E s := int_mul_ref ho hd ⟨rfl, rfl⟩
theorem c2 {k : Int} {t : Tok} {nm : Str} (hs : Slot "int" nm "int.__mul__") (ho : s.heap.get? x = some ox) (hd : ox.data = .plain) : wpAny (model prog w) A (callSpecial? (.int k t) nm [.ref x] []) (fun r s' => r = some .notImplemented ∧ s' = s) E s :=
  wpAny_callSpecial?_slot (typeIs_int s k t) hs (wpAny_mono (c1 ho hd) (fun v s' h => ⟨congrArg some h.1, h.2⟩) fun _ _ e => e)
theorem try_none {k : Int} {t : Tok} {nm : Str} {Q : Option Value → Shared → Prop} (hs : Slot "int" nm "int.__mul__") (ho : s.heap.get? x = some ox) (hd : ox.data = .plain) (hQ : Q none s) :
    wpAny (model prog w) A (tryMethod (.int k t) nm (.ref x)) Q E s := by
  unfold tryMethod
  refine wpAny_bind (wpAny_mono (c2 hs ho hd) (fun r s' hr => ?_) fun _ _ e => e)
  rw [hr.1, hr.2]
  exact wpAny_pure hQ
theorem rbin_G {op : Operator} {sym nm : String} {k : Int} {t : Tok} {Q : Value → Shared → Prop} (hi : op.info = (sym, nm)) (slot : Slot "int" (PySem.dunder nm) "int.__mul__") (fills : fillsNumberSlot (.type "int") nm = pure true)
    (F : Fr h₀ L s.heap m) (X₀ : K.In h₀) (I : InstAt s.heap x ox C od) (hd : ox.data = .plain) (hc : selfFirst K C = true)
    {g : Addr} (hs : findIn K (.ref C) (PySem.dunder nm) = some (some (.ref g))) (hr : findIn K (.ref C) (dunderR nm) = some (some (.ref f))) (hf : isFn K (.ref f) = true) (hsub : subIn K (.ref C) (.type "int") = some false)
    (h : wpAny (model prog w) A (call (.ref f) [.ref x, .int k t]) (PySem.W.CmpBack Q) E s) : wpAny (model prog w) A (binaryOp op (.int k t) (.ref x)) Q E s := by
  have X := X₀.keeps F.keep
  obtain ⟨cd, rest, hcd, hm⟩ := ksp_first hc
  have one := ksp_try X I hr hf h
  have none : ∀ {Q : Option Value → Shared → Prop}, Q none s → wpAny (model prog w) A (tryMethod (.int k t) (PySem.dunder nm) (.ref x)) Q E s := fun hQ => try_none slot I.1 hd hQ
  obtain ⟨hh, g, d, tt, os⟩ := s
  have L1 : Looks (model prog w) hh (typeOf (.ref x)) (.ref C) := I.type
  have L2 : Looks (model prog w) hh (typeOf (.int k t)) (.type "int") := Looks.of_pure rfl
  have L3 : Looks (model prog w) hh (fillsNumberSlot (.ref C) nm) true := fills_K X hcd hm hs
  have L4 : Looks (model prog w) hh (fillsNumberSlot (.type "int") nm) true := Looks.of_pure fills
  have L5 : Looks (model prog w) hh (isSubtype (.ref C) (.type "int")) false := looks_subIn X hsub
  have L7 : Looks (model prog w) hh (numberSlotInPython (.type "int") nm) false := Looks.of_pure rfl
  have hne : (Value.type "int" == Value.ref C) = false := Bool.eq_false_iff.mpr fun q => by cases beq_iff_eq.mp q
  simp only [binaryOp, hi]
  refine wpAny_holding (wpAny_bind ?_)
  unfold binaryOp1
  refine wpAny_bind (L2.at (wpAny_bind (L1.at (wpAny_bind (L4.at ?_)))))
  simp only [hne, Bool.false_eq_true, if_false]
  ksp_lk
  refine none ?_
  ksp_lk
  refine wpAny_mono one (fun r s' hr' => ?_) fun _ _ e => e
  obtain ⟨v, rfl, hq⟩ := hr'
  refine wpAny_bind (wpAny_rule ?_)
  refine wpAny_pure ?_
  exact wpAny_pure hq
theorem bin_C2 {op : Operator} {sym nm : String} {y C2 f2 : Addr} {oy : Obj} {ody : Option Obj} {rc rc2 : Option Value} {Q : Value → Shared → Prop} (hi : op.info = (sym, nm)) (F : Fr h₀ L s.heap m) (X₀ : K.In h₀) (I : InstAt s.heap x ox C od) (I2 : InstAt s.heap y oy C2 ody)
    (hc : selfFirst K C = true) (hc2 : selfFirst K C2 = true) (hne : (Value.ref C == Value.ref C2) = false) (hs : findIn K (.ref C) (PySem.dunder nm) = some (some (.ref f))) (hf : isFn K (.ref f) = true) (hr : findIn K (.ref C) (dunderR nm) = some rc) (hp : rc = none ∨ ∃ g : Addr, rc = some (.ref g))
    (hs2 : findIn K (.ref C2) (PySem.dunder nm) = some (some (.ref f2))) (hr2 : findIn K (.ref C2) (dunderR nm) = some rc2) (hp2 : rc2 = none ∨ ∃ g : Addr, rc2 = some (.ref g)) (hsub : subIn K (.ref C2) (.ref C) = some false)
    (h : wpAny (model prog w) A (call (.ref f) [.ref x, .ref y]) (PySem.W.CmpBack Q) E s) : wpAny (model prog w) A (binaryOp op (.ref x) (.ref y)) Q E s := by
  have X := X₀.keeps F.keep
  obtain ⟨cd, rest, hcd, hm⟩ := ksp_first hc
  obtain ⟨cd2, rest2, hcd2, hm2⟩ := ksp_first hc2
  have one := ksp_try X I hs hf h
  obtain ⟨hh, g, d, tt, os⟩ := s
  have L1 : Looks (model prog w) hh (typeOf (.ref x)) (.ref C) := I.type
  have L2 : Looks (model prog w) hh (typeOf (.ref y)) (.ref C2) := I2.type
  have L3 : Looks (model prog w) hh (fillsNumberSlot (.ref C) nm) true := fills_K X hcd hm hs
  have L4 : Looks (model prog w) hh (fillsNumberSlot (.ref C2) nm) true := fills_K X hcd2 hm2 hs2
  have L5 : Looks (model prog w) hh (isSubtype (.ref C2) (.ref C)) false := looks_subIn X hsub
  have L6 : Looks (model prog w) hh (numberSlotInPython (.ref C) nm) true := ksp_inPy X hs hr hp
  have L7 : Looks (model prog w) hh (numberSlotInPython (.ref C2) nm) true := ksp_inPy X hs2 hr2 hp2
  simp only [binaryOp, hi]
  refine wpAny_holding (wpAny_bind ?_)
  unfold binaryOp1
  refine wpAny_bind (L1.at (wpAny_bind (L2.at (wpAny_bind (L3.at ?_)))))
  simp only [hne, Bool.false_eq_true, if_false]
  ksp_lk
  refine wpAny_mono one (fun r s' hr' => ?_) fun _ _ e => e
  obtain ⟨v, rfl, hq⟩ := hr'
  ksp_lk
  exact hq
theorem rmul_K {k : Int} {t : Tok} {Q : Value → Shared → Prop} (F : Fr h₀ L s.heap m) (X₀ : K.In h₀) (I : InstAt s.heap x ox C od) (hd : ox.data = .plain) (hc : selfFirst K C = true)
    {g : Addr} (hs : findIn K (.ref C) (PySem.dunder "mul") = some (some (.ref g))) (hr : findIn K (.ref C) (dunderR "mul") = some (some (.ref f))) (hf : isFn K (.ref f) = true) (hsub : subIn K (.ref C) (.type "int") = some false)
    (h : wpAny (model prog w) A (call (.ref f) [.ref x, .int k t]) (PySem.W.CmpBack Q) E s) : wpAny (model prog w) A (binaryOp .Mult (.int k t) (.ref x)) Q E s :=
  rbin_G rfl PySem.F.slot_int_mul PySem.F.fills_int_mul F X₀ I hd hc hs hr hf hsub h
end
end Mine
end
section
open PySem PySem.W PyProof.Rows PySem.Calls PySem.Spec PySem.NumText
set_option maxRecDepth 100000
namespace Mine
local macro_rules | `(tactic| k_room) => `(tactic| first | (refine lt_rl ?_; (try simp only [depth_under_make, depth_under_kw, depth_in1, depth_deeper, depth_caller]); (try dsimp only [ktrTop]); omega) | ((try simp only [depth_under_make, depth_under_kw, depth_in1, depth_deeper, depth_caller]); (try dsimp only [ktrTop]); omega))
local macro_rules | `(tactic| k_units) => `(tactic| first | (refine lt_cl ?_; (try simp only [units_in1, units_deeper, units_under_make, Around.mark_units, units_caller]); (try dsimp only [ktrTop]); omega) | ((try simp only [units_in1, units_deeper, units_under_make, Around.mark_units, units_caller]); (try dsimp only [ktrTop]); omega))
local macro_rules | `(tactic| ktr_room) => `(tactic| k_room)
local macro_rules | `(tactic| ktr_units) => `(tactic| k_units)
local macro_rules | `(tactic| k_enter) => `(tactic| (refine' code_defC ?k1 ?k2 ?k3 ?k4 ?k5 ?kA ?kF ?kK ?k6 ?k7 ?k8 ?k9 ?kB ?kD ?_ ?c2 ?c3 ?c4; (case kA => exact rfl); (case kF => exact rfl); (case kK => first | exact rfl | assumption); (case k1 => k_asm); (case k2 => k_asm); (case k3 => k_asm); (case k4 => k_asm); (case k5 => k_asm); (case k6 => k_is); (case k7 => k_is); (case k8 => k_room); (case k9 => first | exact BindsTo.of_eq rfl | exact binds_K (by k_in) rfl (by k_is) rfl rfl rfl | fail "k_enter: no rule for these arguments"); (case kB => exact rfl); (case kD => decide +kernel); (case c2 => exact rfl); (case c3 => exact rfl); (case c4 => exact rfl); k_whole; intro g' L' h' tk' cells' FG' F' N' Y' B' X' T' l1; (try k_lt l1); k_cells Y'; (try simp only [List.cons_append, List.nil_append] at N'); (try dsimp only); (try k_lift B'); (try k_fold)))
local macro_rules | `(tactic| k_enter) => `(tactic| (refine' code_def ?k1 ?k2 ?k3 ?k4 ?k5 ?kA ?kF ?kK ?k6 ?k7 ?k8 ?k9 ?kB ?_ ?c2 ?c3 ?c4 ?c5; (case kA => exact rfl); (case kF => exact rfl); (case kK => first | exact rfl | assumption); (case k1 => k_asm); (case k2 => k_asm); (case k3 => k_asm); (case k4 => k_asm); (case k5 => k_asm); (case k6 => k_is); (case k7 => k_is); (case k8 => k_room); (case k9 => first | exact BindsTo.of_eq rfl | exact binds_K (by k_in) rfl (by k_is) rfl rfl rfl | fail "k_enter: no rule for these arguments"); (case c5 => decide); (case kB => exact locs rfl); (case c2 => exact rfl); (case c3 => exact rfl); (case c4 => exact rfl); k_whole; intro g' L' h' FG' F' N' B' X' T'; (try dsimp only); (try k_lift B'); (try k_fold)))
local macro_rules | `(tactic| cell_enter) => `(tactic| (refine' enterF ?k1 ?k2 ?k3 ?k4 ?kdis ?k5 ?kA ?kF ?kK ?k6 ?k7 ?k8 ?k9 ?kB ?_ ?c2 ?c3 ?c4 ?c5; (case kA => exact rfl); (case kF => exact rfl); (case kK => first | exact rfl | assumption); (case k1 => k_asm); (case k2 => k_asm); (case k3 => k_asm); (case k4 => assumption); (case kdis => assumption); (case k5 => k_asm); (case k6 => k_is); (case k7 => k_is); (case k8 => k_room); (case k9 => first | exact BindsTo.of_eq rfl | exact binds_K (by k_in) rfl (by k_is) rfl rfl rfl | fail "k_enter: no rule for these arguments"); (case c5 => decide); (case kB => exact locs rfl); (case c2 => exact rfl); (case c3 => exact rfl); (case c4 => exact rfl); k_whole; intro g' L' h' F' N' B' X' T' l1; (try k_lt l1); (try dsimp only); (try k_fold)))
local macro_rules | `(tactic| ktr_enter) => `(tactic| (refine' enterFC ?k1 ?k2 ?k3 ?k4 ?kdis ?k5 ?kA ?kF ?kK ?k6 ?k7 ?k8 ?k9 ?kB ?kD ?_ ?c2 ?c3 ?c4; (case kA => exact rfl); (case kF => exact rfl); (case kK => first | exact rfl | assumption); (case k1 => k_asm); (case k2 => k_asm); (case k3 => k_asm); (case k4 => assumption); (case kdis => assumption); (case k5 => k_asm); (case k6 => k_is); (case k7 => k_is); (case k8 => k_room); (case k9 => first | exact BindsTo.of_eq rfl | exact binds_K (by k_in) rfl (by k_is) rfl rfl rfl | fail "k_enter: no rule for these arguments"); (case kB => exact rfl); (case kD => decide +kernel); (case c2 => exact rfl); (case c3 => exact rfl); (case c4 => exact rfl); k_whole; intro g' L' h' tk' cells' F' N' Y' B' X' T' l1; (try k_lt l1); k_cells Y'; (try simp only [List.cons_append, List.nil_append] at N'); (try dsimp only); (try k_fold)))
local macro_rules | `(tactic| walk_at "subscriptTail Name Slice ref ref") => `(tactic| (k_here; (with_reducible show wpAny _ _ (subscriptTail _ (PySem.Expr.Slice none none none _) (Value.ref _) (Value.ref _)) _ _ _); k_dflt (refine' slice_all ?F ?N ?l ?z ?_ ?s ?t; (case F => k_asm); (case N => k_asm); (case l => k_mem); (case z => first | omega | assumption); (case s => with_unfolding_all rfl); (case t => kmk_pure)); intro D' h' F' N' l1; (try k_lt l1); (try k_sweep)))
local macro_rules | `(tactic| ksw_same) => `(tactic| (intro z h2 h3; (try simp only [List.forall_mem_cons, List.not_mem_nil, false_implies, implies_true, and_true, ne_eq] at h2); (try simp only [List.contains_cons, List.contains_nil, Bool.or_false, Bool.or_eq_false_iff, beq_eq_false_iff_ne, ne_eq] at h3); simp [frS, kstB, h2, h3]))
local macro_rules | `(tactic| walk_at "getMethod ref") => `(tactic| (k_here; k_dflt (first
  | (refine' method_inst ?k1 ?k2 ?k3 ?k4 ?k5 ?k6 ?k7 ?_; (case k1 => k_asm); (case k2 => k_asm); (case k3 => k_inst); (case k4 => k_is); (case k5 => k_is); (case k6 => k_is); (case k7 => k_get); k_whole)
  | (refine' kmu_own ?k1 ?k2 ?k3 ?k4 ?k5 ?_; (case k1 => k_asm); (case k2 => k_asm); (case k3 => k_inst); (case k4 => k_is); (case k5 => k_is); k_whole))))
local macro_rules | `(tactic| walk_at "callWith") => `(tactic| (k_here; (with_reducible show wpAny _ _ (callWith _ _ _ _ (backToKw _ _)) _ _ _); k_dflt (show wpAny _ _ (callWith _ (Value.ref _) _ (backTo _ (starEach (_ :: _) _)) (backToKw _ (keywordEach (_ :: _) _))) _ _ _); k_dflt (refine' kco_callWithKW ?k1 ?k2 ?k3 ?_; (case k1 => k_inst); (case k2 => rfl); (case k3 => rfl); k_whole)))
section
variable {w : World} {mean : ExcName → Option Value} {mg mb : Str → Option Value} {dp un : Nat} {gd : Option (List Code)} {cn : Str} {cs : Scope} {a : Addr} {ccd : Value} {cl : List (Str × Addr)} {A₀ : Around} {h₀ : Heap} {L : Addr} {m : Str → Option Value} {news : List (Addr × Obj)} {s : Shared} {Q E : Value → Shared → Prop}
local macro_rules | `(tactic| walk_at "binaryOp Mult") => `(tactic| (k_here; k_dflt (refine' bin_C2 (op := .Mult) rfl ?F ?X ?I ?J ?hC ?hD ?hne ?hS ?hF ?hR ?hP ?hS2 ?hR2 ?hP2 ?hU ?_; (case F => k_asm); (case X => k_asm); (case I => k_inst); (case J => k_inst); (case hS => k_is); (case hF => k_is); (case hC => k_is); (case hD => k_is); (case hne => decide); (case hR => k_is); (case hP => first | exact .inl rfl | exact .inr ⟨_, rfl⟩); (case hS2 => k_is); (case hR2 => k_is); (case hP2 => first | exact .inl rfl | exact .inr ⟨_, rfl⟩); (case hU => k_is); k_whole)))
local macro_rules | `(tactic| walk_at "exec Raise some none") => `(tactic| refine Raise_new rfl ?_)
local macro_rules | `(tactic| walk_at "leaving ref") => `(tactic| (k_here; k_dflt (refine' leave_newSX ?k1 ?k0 ?k2 ?k3 ?kf ?kk ?_; (case k0 => assumption); (case k2 => assumption); (case k1 => assumption); (case k3 => k_asm); (case kf => exact rfl); (case kk => exact rfl)); intro h' S' R' U'; (try dsimp only at S' R' U' ⊢)))
local macro_rules | `(tactic| walk_at "idle 2") => `(tactic| fail)
set_option maxHeartbeats 4000000 in
theorem ref1_C (B : Below A₀ h₀ [] h₀) (F : Fr h₀ L s.heap m) (X : Frag.In (Mine.hd1.heap_39 w.params) h₀) (N : News h₀ L s.heap news) (T : Top Mine.hd1.view_39 (looseW Mine.hd1.view_39 [Str.ofString "PolynomialRing", Str.ofString "Polynomial"]) mean mg mb h₀) (hk : cs.kind = .function)
    (hd : dp ≤ 400) (hu : un ≤ 4000) {p qd p2 q2 x l l2 : Addr} {u1 u2 u3 u4 : Tok} (hp : (p, instObj 592 qd) ∈ news) (hpd : (qd, polyD w.params x l u1 u2) ∈ news) (hp2 : (p2, instObj 528 q2) ∈ news) (hpd2 : (q2, polyD w.params x l2 u3 u4) ∈ news)
    (hret : ∀ (h' : Heap) (tk' : Nat), Fr h₀ L h' m → News h₀ L h' news → Q (.bool true) { s with heap := h', toks := tk' }) :
    wpAny (model PySem.Challenge.rw_bn0015_01.row.prog w) (ktrTop dp un gd cn cs L a ccd cl []) (call (.ref 630) [.ref p, .ref p2]) Q E s := by
  w_top off; revert X; k_fill; intro X
  have N2 : News h₀ L s.heap ((p, instObj 592 qd) :: (qd, polyD w.params x l u1 u2) :: (p2, instObj 528 q2) :: (q2, polyD w.params x l2 u3 u4) :: news) := fun q hq => by
    rcases List.mem_cons.mp hq with rfl | hq
    · exact N _ hp
    rcases List.mem_cons.mp hq with rfl | hq
    · exact N _ hpd
    rcases List.mem_cons.mp hq with rfl | hq
    · exact N _ hp2
    rcases List.mem_cons.mp hq with rfl | hq
    · exact N _ hpd2
    exact N _ hq
  clear N
  refine wpAny_call ?_
  k_dflt (refine' enterS ?k1 ?k2 ?k3 ?k4 ?k5 ?kA ?kF ?kK ?k6 ?k7 ?k8 ?k9 ?kB ?_ ?c2 ?c3 ?c4 ?c5; (case kA => exact rfl); (case kF => exact rfl); (case kK => first | exact rfl | assumption); (case k2 => k_asm); (case k1 => k_asm); (case k3 => k_asm); (case k4 => k_asm); (case k5 => k_asm); (case k6 => k_is); (case k7 => k_is); (case k8 => k_room); (case k9 => first | exact binds_K (by k_in) rfl (by k_is) rfl rfl rfl | exact BindsTo.of_eq rfl | fail "kts_go: no rule for these arguments"); (case kB => exact locs rfl); (case c2 => exact rfl); (case c3 => exact rfl); (case c4 => exact rfl); (case c5 => decide); k_whole; intro g' L' h' FG' F' N' B' X' T' D'; (try dsimp only); (try k_fold))
  have hMk := kstMark
  k_steps
  rename News h₀ L _ _ => kN1
  rename Fr h₀ L _ _ => kF1
  exact hret _ _ kF1 fun q hq => kN1 q (List.mem_append_right [_, _, _, _, _] hq)
end
end Mine
end
section
open PySem PySem.W PyProof.Rows
namespace Mine
inductive ToNtt (rs os : List Int) : Prop
  | mk (h : os = modTo 256 (ntt zetaL 8 rs))
inductive FromNtt (rs os : List Int) : Prop
  | mk (h : os = mulTo 256 (intt zetaL 8 rs))
inductive Rng (os : List Int) : Prop
  | mk (h : ∀ y ∈ os, 0 ≤ y ∧ y < 8380417)
theorem rng_at {os : List Int} (h : Rng os) {y : Int} (hy : y ∈ os) : 0 ≤ y ∧ y < 8380417 := h.1 y hy
theorem gen_to {ws : List Value} {rs : List Int} (h : IntsAre ws (modTo 256 (ntt zetaL 8 rs))) (hl : rs.length = 256) : ∃ os, IntsAre ws os ∧ os.length = 256 ∧ ws.length = 256 ∧ ToNtt rs os ∧ Rng os := by
  have e : (modTo 256 (ntt zetaL 8 rs)).length = 256 := by rw [modTo_len, ntt_len, hl]
  refine ⟨_, h, e, h.length.trans e, .mk rfl, .mk fun y hy => ?_⟩
  rw [modTo_all (by rw [ntt_len, hl])] at hy
  obtain ⟨c, _, rfl⟩ := List.mem_map.mp hy
  omega
theorem gen_from {ws : List Value} {rs : List Int} (h : IntsAre ws (mulTo 256 (intt zetaL 8 rs))) (hl : rs.length = 256) : ∃ os, IntsAre ws os ∧ os.length = 256 ∧ ws.length = 256 ∧ FromNtt rs os ∧ Rng os := by
  have e' : (intt zetaL 8 rs).length = 256 := by rw [intt_len, hl]
  have e : (mulTo 256 (intt zetaL 8 rs)).length = 256 := by rw [mulTo_all e', List.length_map, e']
  refine ⟨_, h, e, h.length.trans e, .mk rfl, .mk fun y hy => ?_⟩
  rw [mulTo_all e'] at hy
  obtain ⟨c, _, rfl⟩ := List.mem_map.mp hy
  omega
theorem to_value {rs os : List Int} (h : ToNtt rs os) (hl : rs.length = 256) {p : Nat} (hp : p < 256) :
    hvw (rt p) ((rt p ^ Int.toNat 2).fmod 8380417) ((rt p ^ Int.toNat 3).fmod 8380417) ((rt p ^ Int.toNat 4).fmod 8380417) rs 64 = os.getD p 0 := by
  obtain ⟨h⟩ := h
  have e := (hvw_all (rt p) rs).trans (toNtt_at roots_ok hl hp).symm
  rw [← h] at e
  exact e
theorem from_value {rs os : List Int} (h : FromNtt rs os) (hl : rs.length = 256) {p : Nat} (hp : p < 256) :
    hvw (rt p) ((rt p ^ Int.toNat 2).fmod 8380417) ((rt p ^ Int.toNat 3).fmod 8380417) ((rt p ^ Int.toNat 4).fmod 8380417) os 64 = (rs.getD p 0).fmod 8380417 := by
  obtain ⟨h⟩ := h
  have e := hvw_all (rt p) os
  have f := fromNtt_at roots_ok hl hp
  rw [← h] at f
  rw [Int.fmod_eq_emod_of_nonneg (rs.getD p 0) (by decide)]
  exact e.trans f
end Mine
end
section
open PySem PySem.W PyProof.Rows PySem.Calls PySem.Spec
set_option maxRecDepth 100000
namespace Mine
open LCg
def ZEnd (h₀ : Heap) (L : Addr) (m : Str → Option Value) (s₁ : Shared) (keep : List (Addr × Obj)) (g : Int) (y : Value) (s₂ : Shared) : Prop :=
  ∃ h' tk t, s₂ = { s₁ with heap := h', toks := tk } ∧ Fr h₀ L h' m ∧ News h₀ L h' keep ∧ y = .int g t
theorem zend {h₀ : Heap} {L : Addr} {m : Str → Option Value} {s₁ : Shared} {keep : List (Addr × Obj)} {g g' : Int} {h' : Heap} {tk : Nat} {t : Tok} (F : Fr h₀ L h' m) (N : News h₀ L h' keep) (e : g' = g) :
    ZEnd h₀ L m s₁ keep g (.int g' t) { s₁ with heap := h', toks := tk } := ⟨h', tk, t, rfl, F, N, by rw [e]⟩
section
variable {prog : Program} {w : World} {A : Around} {E : Value → Shared → Prop} {s : Shared} {h₀ : Heap} {L : Addr} {m : Str → Option Value} {env : Env}
theorem block_Z {elt iter : Expr} {x x₂ : Str} {px px₂ tp : Pos} {tk} {scope : Scope} {cl : List (Str × Addr)} {pos : Pos} {s₂ : Shared} {I : Addr} {aux fp wr : List Addr} {n : Nat} {Pt : Nat → Array Value → Prop} {St : Nat → Heap → Prop} {Mid : Nat → Addr → Heap → Prop} {news : List (Addr × Obj)}
    {ns1 ns2 : List Int} {g : Int → Int → Int} {RR : Value → Addr → Result → Shared → Prop}
    (W : WalksU prog w A I fp wr n Pt St Mid) (hPt : ∀ i vals, i < n → Pt i vals → ∃ a ta b tb, ns1[i]? = some a ∧ ns2[i]? = some b ∧ vals = #[.int a ta, .int b tb]) (hl1 : ns1.length = n) (hl2 : ns2.length = n) (hsz : n ≤ sizeLine)
    (hIo : ∀ i h, St i h → ∀ b ∈ I :: aux, ∃ o, h.get? b = some o) (hfp : ∀ b ∈ fp, b ∈ I :: aux ∨ ∃ o, (b, o) ∈ news) (hwr : ∀ b ∈ wr, b ∈ I :: aux)
    (hfr : ∀ b ∈ I :: aux, h₀.get? b = none ∧ @Ne Nat b L ∧ b < s₂.heap.objs.size ∧ ∀ p ∈ news, @Ne Nat p.1 b)
    (hcell : ∀ y ∈ scope.names, y.2 ≠ .cell) (hkind : scope.kind = .function) (hx : scope.names.lookup x = some .local) (hx₂ : scope.names.lookup x₂ = some .local) (hxx : x ≠ x₂) (hh : A.handled = none) (hst : St 0 s₂.heap)
    (F : Fr h₀ L s₂.heap m) (N : News h₀ L s₂.heap news)
    (R : ∀ a b ta tb oI C oC D ys ow m₂ h tk (E' : Value → Shared → Prop), a ∈ ns1 → b ∈ ns2 → ow.map (fun p : Addr × Obj => p.1) = aux → NsObj oC m₂ → m₂ x = some (.int a ta) → m₂ x₂ = some (.int b tb) → Fr h₀ L h m → News h₀ L h ((I, oI) :: (C, oC) :: (D, lst ys) :: (ow ++ news)) →
      wpAny (model prog w) A (eval elt (compEnvC scope cl C env)) (ZEnd h₀ L m { s₂ with heap := h, toks := tk } ((I, oI) :: (C, oC) :: (D, lst ys) :: (ow ++ news)) (g a b)) E' { s₂ with heap := h, toks := tk })
    (hRR : ∀ D C h tk m' ys, IntsAre ys (List.zipWith g ns1 ns2) → Fr h₀ L h m → News h₀ L h ((D, lst ys) :: news) → (∀ p ∈ news, p.1 < D) → h.Ns C m' → h₀.get? C = none → h₀.get? D = none → C ≠ L → D ≠ L → C ≠ D → (∀ p ∈ news, p.1 ≠ C) → RR (.ref D) C (.ok .next) { s₂ with heap := h, toks := tk }) :
    wpAny (model prog w) A (newList []) (fun acc s₃ => wpAny (model prog w) A (newFunctionEnv scope env.globals cl [] env.qual none .none (some env)) (fun cenv s₄ =>
      codeAny (model prog w) A (.compStart (.ListComp elt [⟨.Tuple [.Name x px, .Name x₂ px₂] tk tp, iter, [], 0⟩] scope pos) 0 (.ref I) acc { cenv with scope := relabel scope env }) (RR acc cenv.locals) s₄) E s₃) E s₂ := by
  refine wpAny_newObj_type (wpAny_newFunctionEnv hcell (by intro y hy; simp at hy) (fun h₁ hns₁ hsb₁ => ?_) hkind)
  dsimp only at hns₁ hsb₁ ⊢
  generalize hH2 : s₂.heap.push { cls := .type "list", dict := none, data := .seq ([] : List Value).toArray } = H2 at hns₁ hsb₁ ⊢
  have hC : H2.objs.size = s₂.heap.objs.size + 1 := by rw [← hH2, Heap.size_push]
  have hDC : s₂.heap.objs.size ≠ H2.objs.size := by rw [hC]; exact Nat.ne_of_lt (Nat.lt_succ_self _)
  have below : ∀ b, b < s₂.heap.objs.size → b ≠ H2.objs.size ∧ b ≠ s₂.heap.objs.size := fun b hb => ⟨by rw [hC]; exact Nat.ne_of_lt (Nat.lt_succ_of_lt hb), Nat.ne_of_lt hb⟩
  have hIlt : ∀ b ∈ I :: aux, b < s₂.heap.objs.size := fun b hb => (hfr b hb).2.2.1
  have hfplt : ∀ b ∈ fp, b < s₂.heap.objs.size := fun b hb => (hfp b hb).elim (hIlt b) fun ⟨o, ho⟩ => Heap.lt_size (N _ ho).1
  have old : ∀ b o, s₂.heap.get? b = some o → h₁.get? b = some o := fun b o e => hsb₁.extBut b o (below b (Heap.lt_size e)).1 (Heap.get?_push_of_some _ (hH2 ▸ Heap.get?_push_of_some _ e))
  have hacc : h₁.get? s₂.heap.objs.size = some (lst []) := hsb₁.extBut _ _ hDC (Heap.get?_push_of_some _ (hH2 ▸ Heap.get?_push_size _ rfl))
  have hst₁ : St 0 h₁ := W.frame _ _ _ hst fun b _ o e => old b o e
  have fresh : ∀ a, s₂.heap.objs.size ≤ a → s₂.heap.get? a = none := fun a ha => by
    cases e : s₂.heap.get? a with
    | none => rfl
    | some o' => exact absurd (Heap.lt_size e) (Nat.not_lt.mpr ha)
  have fresh₀ : ∀ a, s₂.heap.objs.size ≤ a → h₀.get? a = none := fun a ha => by
    cases e : h₀.get? a with
    | none => rfl
    | some o' => have := F.keep a o' e; rw [fresh a ha] at this; cases this
  have hD₀ : h₀.get? s₂.heap.objs.size = none := fresh₀ _ (Nat.le_refl _)
  have hC₀ : h₀.get? H2.objs.size = none := fresh₀ _ (by rw [hC]; exact Nat.le_succ _)
  have hLlt : L < s₂.heap.objs.size := F.ns.lt
  have hDL : s₂.heap.objs.size ≠ L := Ne.symm (below L hLlt).2
  have hCL : H2.objs.size ≠ L := Ne.symm (below L hLlt).1
  have hnw : ∀ p ∈ news, p.1 ∉ wr := fun p hp hm => (hfr _ (hwr _ hm)).2.2.2 p hp rfl
  have hLw : L ∉ wr := fun hm => (hfr _ (hwr _ hm)).2.1 rfl
  have h0w : ∀ b o, h₀.get? b = some o → b ∉ wr := fun b o e hm => by rw [(hfr _ (hwr _ hm)).1] at e; cases e
  have hCw : H2.objs.size ∉ wr := fun hm => (below _ (hIlt _ (hwr _ hm))).1 rfl
  have hDw : s₂.heap.objs.size ∉ wr := fun hm => (below _ (hIlt _ (hwr _ hm))).2 rfl
  have fr_w : ∀ {h h' : Heap}, Fr h₀ L h m → (∀ b o, b ∉ wr → h.get? b = some o → h'.get? b = some o) → Fr h₀ L h' m := fun F hk =>
    ⟨F.ns.at' fun o e => hk L o hLw e, fun b o e => hk b o (h0w b o e) (F.keep b o e), F.above⟩
  have nw_w : ∀ {h h' : Heap} {ys : List Value}, News h₀ L h ((s₂.heap.objs.size, lst ys) :: news) → (∀ b o, b ∉ wr → h.get? b = some o → h'.get? b = some o) → News h₀ L h' ((s₂.heap.objs.size, lst ys) :: news) := fun N hk p hp => by
    refine ⟨hk _ _ ?_ (N p hp).1, (N p hp).2⟩
    rcases List.mem_cons.mp hp with rfl | hp
    · exact hDw
    · exact hnw p hp
  have loop : ∀ s₃ : Shared, s₃ = { s₂ with heap := h₁, toks := s₂.toks + ([] : List (Str × Value)).length } →
      codeAny (model prog w) A (.compLoop (.ListComp elt [⟨.Tuple [.Name x px, .Name x₂ px₂] tk tp, iter, [], 0⟩] scope pos) 0 (.ref I) (.ref s₂.heap.objs.size) (compEnvC scope cl H2.objs.size env))
        (RR (.ref s₂.heap.objs.size) H2.objs.size) s₃ := by
    rintro s₃ rfl
    refine LCp.codeAny_compLoop_pair
      (fun k s' => ∃ h' tk i ys m', s' = { s₂ with heap := h', toks := tk } ∧ i ≤ n ∧ k = n + 1 - i ∧ IntsAre ys ((List.zipWith g ns1 ns2).take i) ∧ St i h' ∧ Fr h₀ L h' m ∧ h'.Ns H2.objs.size m' ∧ News h₀ L h' ((s₂.heap.objs.size, lst ys) :: news)) ?_ (n + 1)
      ⟨h₁, _, 0, [], _, rfl, Nat.zero_le _, rfl, (by rw [List.take_zero]; exact .nil), hst₁, F.keeps old, hns₁, fun p hp => ?_⟩
    · rintro k s' ⟨h', tk, i, ys, m', rfl, hi, rfl, hyl, hst', F', hn', N'⟩
      by_cases hlt : i < n
      · refine W.item i _ _ _ hlt hst' fun T vals h₂ tk₂ hPv hT hMid hk₂ => ?_
        obtain ⟨a, ta, b, tb, ha, hb, rfl⟩ := hPt i vals hlt hPv
        have F₂ := fr_w F' hk₂
        have N₂ := nw_w N' hk₂
        have hn₂ : h₂.Ns H2.objs.size m' := hn'.at' fun o e => hk₂ _ o hCw e
        refine W.go _ _ _ i T _ _ _ hMid fun h₄ hst₄ hk₄ => ?_
        have F₄ := fr_w F₂ hk₄
        have N₄ := nw_w N₂ hk₄
        have hn₄ : h₄.Ns H2.objs.size m' := hn₂.at' fun o e => hk₄ _ o hCw e
        have hT₄ : IsTup h₄ T #[.int a ta, .int b tb] := by
          obtain ⟨o, ho, r⟩ := hT
          exact ⟨o, hk₄ _ _ (W.apart _ _ _ hMid) ho, r⟩
        refine assign_Tuple_tuple hh hT₄ rfl rfl fun h₅ he => ?_
        have he' : ∀ b o, h₄.get? b = some o → h₅.get? b = some o := fun b o e => he b o (Nat.ne_of_lt (Heap.lt_size e)) e
        refine assignInOrder_cons (wpAny_assign_Name (wpAny_storeName_local (lookup_relabel_local hx) (hn₄.at' fun o e => he' _ o e) (fun h₆ hn₆ hs₆ => ?_) (by simp [compEnvC, relabel, hkind])))
        refine assignInOrder_cons (wpAny_assign_Name (wpAny_storeName_local (lookup_relabel_local hx₂) hn₆ (fun h₃ hn₃ hs₃ => ?_) (by simp [compEnvC, relabel, hkind])))
        refine assignInOrder_nil ?_
        have old3 : ∀ b o, b ≠ H2.objs.size → h₄.get? b = some o → h₃.get? b = some o := fun b o hb e => hs₃.extBut b o hb (hs₆.extBut b o hb (he' b o e))
        have hst₃ : St (i + 1) h₃ := W.frame _ _ _ hst₄ fun b hb o e => old3 b o (below b (hfplt b hb)).1 e
        have hio := hIo _ _ hst₃
        obtain ⟨oI, heI⟩ := hio I (.head _)
        obtain ⟨oC, heC, hoC⟩ := ns_obj hn₃
        have haux : ∀ (l : List Addr), (∀ b ∈ l, ∃ o, h₃.get? b = some o) → ∃ ow : List (Addr × Obj), ow.map (fun p => p.1) = l ∧ ∀ p ∈ ow, h₃.get? p.1 = some p.2 ∧ p.1 ∈ l := by
          intro l
          induction l with
          | nil => exact fun _ => ⟨[], rfl, fun p hp => nomatch hp⟩
          | cons b l ih =>
            intro hl
            obtain ⟨o, ho⟩ := hl b (.head _)
            obtain ⟨ow, e1, e2⟩ := ih fun c hc => hl c (.tail _ hc)
            refine ⟨(b, o) :: ow, by rw [List.map_cons, e1], fun p hp => ?_⟩
            rcases List.mem_cons.mp hp with rfl | hp
            · exact ⟨ho, .head _⟩
            · exact ⟨(e2 p hp).1, .tail _ (e2 p hp).2⟩
        obtain ⟨ow, how, howm⟩ := haux aux fun b hb => hio b (.tail _ hb)
        have F₃ : Fr h₀ L h₃ m := ((F₄.keeps he').change hs₆ hCL hC₀).change hs₃ hCL hC₀
        have N₃ : News h₀ L h₃ ((I, oI) :: (H2.objs.size, oC) :: (s₂.heap.objs.size, lst ys) :: (ow ++ news)) := fun p hp => by
          rcases List.mem_cons.mp hp with rfl | hp
          · exact ⟨heI, (hfr I (.head _)).2.1, (hfr I (.head _)).1⟩
          rcases List.mem_cons.mp hp with rfl | hp
          · exact ⟨heC, hCL, hC₀⟩
          rcases List.mem_cons.mp hp with rfl | hp
          · exact ⟨old3 _ _ hDC (N₄ _ (.head _)).1, (N₄ _ (.head _)).2⟩
          rcases List.mem_append.mp hp with hp | hp
          · have := hfr p.1 (.tail _ (howm p hp).2)
            exact ⟨(howm p hp).1, this.2.1, this.1⟩
          · have z := N₄ p (.tail _ hp)
            exact ⟨old3 _ _ (below _ (Heap.lt_size (N p hp).1)).1 z.1, z.2⟩
        refine wpAny_mono (R a b ta tb oI H2.objs.size oC s₂.heap.objs.size ys ow _ h₃ _ _ (List.mem_of_getElem? ha) (List.mem_of_getElem? hb) how hoC (by simp [hxx]) (by simp) F₃ N₃) (fun y s₄ h₄ => ?_) fun _ _ e => e
        obtain ⟨h₇, tk₇, ty, rfl, F₇, N₇, rfl⟩ := h₄
        have zD := (N₇ _ (.tail _ (.tail _ (.head _)))).1
        have zC := (N₇ _ (.tail _ (.head _))).1
        have hst₇ : St (i + 1) h₇ := W.frame _ _ _ hst₃ fun b hb o e => by
          have hin : ∀ q : Addr × Obj, q ∈ ((I, oI) :: (H2.objs.size, oC) :: (s₂.heap.objs.size, lst ys) :: (ow ++ news)) → q.1 = b → h₇.get? b = some o := fun q hq hqb => by
            have u1 := (N₃ q hq).1
            have u2 := (N₇ q hq).1
            rw [hqb] at u1 u2
            rw [e] at u1
            rw [u2, u1]
          rcases hfp b hb with hb | ⟨o', ho'⟩
          · rcases List.mem_cons.mp hb with rfl | hb
            · exact hin (b, oI) (.head _) rfl
            · rw [← how] at hb
              obtain ⟨q, hq, e'⟩ := List.mem_map.mp hb
              exact hin q (.tail _ (.tail _ (.tail _ (List.mem_append_left _ hq)))) e'
          · exact hin (b, o') (.tail _ (.tail _ (.tail _ (List.mem_append_right _ ho')))) rfl
        have hylen : ys.length = i := by
          rw [hyl.length, List.length_take, List.length_zipWith, hl1, hl2]
          omega
        refine append_at (hsz := by show ys.toArray.size ≤ sizeLine; rw [List.size_toArray, hylen]; exact Nat.le_trans hi hsz) zD fun h₅ hs₅ hD₅ => ?_
        refine ⟨n + 1 - (i + 1), by omega, h₅, tk₇, i + 1, ys ++ [.int (g a b) ty], _, rfl, hlt, rfl, ?_, W.frame _ _ _ hst₇ fun b hb o e => hs₅.extBut b o (fun q => Nat.lt_irrefl _ (q ▸ hfplt b hb)) e, F₇.change hs₅ hDL hD₀,
          (hoC.ns zC).sameBut hs₅ (Ne.symm hDC), fun p hp => ?_⟩
        · have e : (List.zipWith g ns1 ns2)[i]? = some (g a b) := by rw [List.getElem?_zipWith, ha, hb]
          rw [List.take_add_one, e]
          simpa using IntsAre.append hyl (.cons (g a b) ty .nil)
        · rcases List.mem_cons.mp hp with rfl | hp
          · exact ⟨hD₅.trans (congrArg some (lst_snoc ys _)), hDL, hD₀⟩
          · have z := N₇ p (.tail _ (.tail _ (.tail _ (List.mem_append_right _ hp))))
            exact ⟨hs₅.extBut _ _ (below _ (Heap.lt_size (N p hp).1)).2 z.1, z.2⟩
      · obtain rfl : i = n := Nat.le_antisymm hi (Nat.not_lt.mp hlt)
        refine W.done _ _ _ hst' fun h₂ tk₂ hk₂ => ?_
        rw [List.take_of_length_le (by rw [List.length_zipWith]; omega)] at hyl
        exact hRR _ _ h₂ tk₂ _ ys hyl (fr_w F' hk₂) (nw_w N' hk₂) (fun p hp => Heap.lt_size (N p hp).1) (hn'.at' fun o e => hk₂ _ o hCw e) hC₀ hD₀ hCL hDL (Ne.symm hDC) (fun p hp => (below _ (Heap.lt_size (N p hp).1)).1)
    · rcases List.mem_cons.mp hp with rfl | hp
      · exact ⟨hacc, hDL, hD₀⟩
      · exact ⟨old _ _ (N p hp).1, (N p hp).2⟩
  exact codeAny_compStart_list (loop _ rfl) (W.self 0 _ _ _ hst₁ (loop _ rfl))
def SrcZ (prog : Program) (w : World) (A : Around) (h₀ : Heap) (L : Addr) (m : Str → Option Value) (env : Env) (elt : Expr) (x x₂ : Str) (scope : Scope) (cl : List (Str × Addr)) (Fin : Shared → List Value → List (Addr × Obj) → Prop) (xv : Value) (s₂ : Shared) : Prop :=
  ∃ (I : Addr) (aux fp wr : List Addr) (n : Nat) (Pt : Nat → Array Value → Prop) (St : Nat → Heap → Prop) (Mid : Nat → Addr → Heap → Prop) (news : List (Addr × Obj)) (ns1 ns2 : List Int) (g : Int → Int → Int), xv = .ref I ∧
    WalksU prog w A I fp wr n Pt St Mid ∧ (∀ i vals, i < n → Pt i vals → ∃ a ta b tb, ns1[i]? = some a ∧ ns2[i]? = some b ∧ vals = #[.int a ta, .int b tb]) ∧ ns1.length = n ∧ ns2.length = n ∧ n ≤ sizeLine ∧
    (∀ i h, St i h → ∀ b ∈ I :: aux, ∃ o, h.get? b = some o) ∧ (∀ b ∈ fp, b ∈ I :: aux ∨ ∃ o, (b, o) ∈ news) ∧ (∀ b ∈ wr, b ∈ I :: aux) ∧
    (∀ b ∈ I :: aux, h₀.get? b = none ∧ @Ne Nat b L ∧ b < s₂.heap.objs.size ∧ ∀ p ∈ news, @Ne Nat p.1 b) ∧ A.handled = none ∧ St 0 s₂.heap ∧ Fr h₀ L s₂.heap m ∧ News h₀ L s₂.heap news ∧
    (∀ a b ta tb oI C oC D ys ow m₂ h tk (E' : Value → Shared → Prop), a ∈ ns1 → b ∈ ns2 → ow.map (fun p : Addr × Obj => p.1) = aux → NsObj oC m₂ → m₂ x = some (.int a ta) → m₂ x₂ = some (.int b tb) → Fr h₀ L h m → News h₀ L h ((I, oI) :: (C, oC) :: (D, lst ys) :: (ow ++ news)) →
      wpAny (model prog w) A (eval elt (compEnvC scope cl C env)) (ZEnd h₀ L m { s₂ with heap := h, toks := tk } ((I, oI) :: (C, oC) :: (D, lst ys) :: (ow ++ news)) (g a b)) E' { s₂ with heap := h, toks := tk }) ∧
    (∀ ys, IntsAre ys (List.zipWith g ns1 ns2) → Fin s₂ ys news)
def ZFinE (h₀ : Heap) (L : Addr) (m : Str → Option Value) (Q : Value → Shared → Prop) (s : Shared) (ys : List Value) (news : List (Addr × Obj)) : Prop :=
  ∀ D h tk, Fr h₀ L h m → News h₀ L h ((D, listOf ys.toArray ys.length) :: news) → (∀ p ∈ news, p.1 < D) → Q (.ref D) { s with heap := h, toks := tk }
def ZFinA (h₀ : Heap) (L : Addr) (m : Str → Option Value) (y : Str) (Q : Flow → Shared → Prop) (s : Shared) (ys : List Value) (news : List (Addr × Obj)) : Prop :=
  ∀ D h tk, Fr h₀ L h (fun z => if z = y then some (.ref D) else m z) → News h₀ L h ((D, listOf ys.toArray ys.length) :: news) → (∀ p ∈ news, p.1 < D) → Q .next { s with heap := h, toks := tk }
inductive GMark (g : Int → Int → Int) : Prop
  | mk
theorem zip_srcB {elt : Expr} {x x₂ : Str} {scope : Scope} {cl : List (Str × Addr)} {Fin : Shared → List Value → List (Addr × Obj) → Prop} {news : List (Addr × Obj)} {l1 l2 : Addr} {vs1 vs2 : List Value} {n1 n2 n : Nat} {ns1 ns2 : List Int} {g : Int → Int → Int} (_gm : GMark g)
    (hh : A.handled = none) (F : Fr h₀ L s.heap m) (N : News h₀ L s.heap news) (hl1 : (l1, listOf vs1.toArray n1) ∈ news) (hl2 : (l2, listOf vs2.toArray n2) ∈ news) (hi1 : IntsAre vs1 ns1) (hi2 : IntsAre vs2 ns2) (hn1 : ns1.length = n) (hn2 : ns2.length = n) (hsz : n ≤ sizeLine)
    (R : ∀ a b ta tb z oz C oC D ys b1 o1 b2 o2 b3 o3 b4 o4 m₂ h tk (E' : Value → Shared → Prop), a ∈ ns1 → b ∈ ns2 → NsObj oC m₂ → m₂ x = some (.int a ta) → m₂ x₂ = some (.int b tb) → Fr h₀ L h m →
      News h₀ L h ((z, oz) :: (C, oC) :: (D, lst ys) :: (b1, o1) :: (b2, o2) :: (b3, o3) :: (b4, o4) :: news) →
      wpAny (model prog w) A (eval elt (compEnvC scope cl C env)) (ZEnd h₀ L m { s with heap := h, toks := tk } ((z, oz) :: (C, oC) :: (D, lst ys) :: (b1, o1) :: (b2, o2) :: (b3, o3) :: (b4, o4) :: news) (g a b)) E' { s with heap := h, toks := tk })
    (fin : ∀ g' ys, IntsAre ys (List.zipWith g ns1 ns2) → Fin { s with heap := g' } ys news) :
    wpAny (model prog w) A (call (.type "zip") [.ref l1, .ref l2]) (SrcZ prog w A h₀ L m env elt x x₂ scope cl Fin) E s := by
  have a1 : s.heap.IsList l1 vs1.toArray := News.isList N hl1
  have a2 : s.heap.IsList l2 vs2.toArray := News.isList N hl2
  have lt1 : l1 < s.heap.objs.size := Heap.lt_size (N _ hl1).1
  have lt2 : l2 < s.heap.objs.size := Heap.lt_size (N _ hl2).1
  have hv1 : vs1.length = n := hi1.length.trans hn1
  have hv2 : vs2.length = n := hi2.length.trans hn2
  have D : ZipApart (s.heap.objs.size + 4) (s.heap.objs.size + 2) (s.heap.objs.size + 3) s.heap.objs.size (s.heap.objs.size + 1) l1 l2 := ktu_apart _ _ _ lt1 lt2
  refine call_zip_2 a1 a2 fun h' hz hTI hTO hj1 hj2 hsz' hk => ?_
  have W := (WalksT.zip2 (prog := prog) (w := w) hh _ _ _ _ _ _ _ D vs1.toArray vs2.toArray).toU
  have emin : min vs1.toArray.size vs2.toArray.size = n := by rw [List.size_toArray, List.size_toArray, hv1, hv2, Nat.min_self]
  rw [emin] at W
  refine ⟨s.heap.objs.size + 4, [s.heap.objs.size + 2, s.heap.objs.size + 3, s.heap.objs.size, s.heap.objs.size + 1], _, _, n, _, _, _, news, ns1, ns2, g, rfl, W, ?_, hn1, hn2, hsz, ?_, ?_, ?_, ?_, hh, ?_, F.keeps hk, N.grown hk, ?_, fun ys hy => fin h' ys hy⟩
  · rintro i vals hi ⟨v1, v2, hv, hv', rfl⟩
    obtain ⟨a, ta, rfl, ha⟩ := IntsAre.at hi1 i v1 (by simpa using hv)
    obtain ⟨b, tb, rfl, hb⟩ := IntsAre.at hi2 i v2 (by simpa using hv')
    exact ⟨a, _, b, _, ha, hb, rfl⟩
  · rintro i h ⟨hz, hTI, ⟨a, b, hTO⟩, h1, h2, _⟩ b hb
    obtain ⟨o1, h1, _⟩ := h1
    obtain ⟨o2, h2, _⟩ := h2
    simp only [List.mem_cons, List.not_mem_nil, or_false] at hb
    rcases hb with rfl | rfl | rfl | rfl | rfl
    · exact ⟨_, hz⟩
    · exact ⟨_, hTI⟩
    · exact ⟨_, hTO⟩
    · exact ⟨_, h1⟩
    · exact ⟨_, h2⟩
  · intro b hb
    simp only [List.mem_cons, List.not_mem_nil, or_false] at hb ⊢
    rcases hb with rfl | rfl | rfl | rfl | rfl | rfl | rfl
    · exact .inl (.inl rfl)
    · exact .inl (.inr (.inl rfl))
    · exact .inl (.inr (.inr (.inl rfl)))
    · exact .inl (.inr (.inr (.inr (.inl rfl))))
    · exact .inl (.inr (.inr (.inr (.inr rfl))))
    · exact .inr ⟨_, hl1⟩
    · exact .inr ⟨_, hl2⟩
  · intro b hb
    simp only [List.mem_cons, List.not_mem_nil, or_false] at hb ⊢
    rcases hb with rfl | rfl | rfl | rfl
    · exact .inl rfl
    · exact .inr (.inr (.inl rfl))
    · exact .inr (.inr (.inr (.inl rfl)))
    · exact .inr (.inr (.inr (.inr rfl)))
  · intro b hb
    have hb' : s.heap.objs.size ≤ b ∧ b < s.heap.objs.size + 5 := by
      simp only [List.mem_cons, List.not_mem_nil, or_false] at hb
      rcases hb with rfl | rfl | rfl | rfl | rfl <;> constructor <;> first | exact Nat.le_add_right _ _ | exact Nat.le_refl _ | (apply Nat.add_lt_add_left; decide) | exact Nat.lt_add_of_pos_right (by decide)
    refine ⟨ktu_new F hb'.1, fun e => ?_, by rw [hsz']; exact hb'.2, fun p hp e => ?_⟩
    · exact absurd F.ns.lt (Nat.not_lt.mpr (e ▸ hb'.1))
    · exact absurd (Heap.lt_size (N p hp).1) (Nat.not_lt.mpr (by rw [e]; exact hb'.1))
  · exact ⟨hz, hTI, ⟨_, _, hTO⟩, hj1, hj2, (a1.at fun o e => hk _ o e), (a2.at fun o e => hk _ o e)⟩
  · intro a b ta tb oI C oC D ys ow m₂ h tk E' ha hb how hoC h1 h2 F' N'
    obtain ⟨⟨b1, o1⟩, ow, rfl⟩ : ∃ q r, ow = q :: r := by cases ow with
      | nil => cases how
      | cons q r => exact ⟨_, _, rfl⟩
    obtain ⟨⟨b2, o2⟩, ow, rfl⟩ : ∃ q r, ow = q :: r := by cases ow with
      | nil => cases how
      | cons q r => exact ⟨_, _, rfl⟩
    obtain ⟨⟨b3, o3⟩, ow, rfl⟩ : ∃ q r, ow = q :: r := by cases ow with
      | nil => cases how
      | cons q r => exact ⟨_, _, rfl⟩
    obtain ⟨⟨b4, o4⟩, ow, rfl⟩ : ∃ q r, ow = q :: r := by cases ow with
      | nil => cases how
      | cons q r => exact ⟨_, _, rfl⟩
    obtain rfl : ow = [] := by cases ow with
      | nil => rfl
      | cons q r => cases how
    exact R a b ta tb _ oI C oC D ys b1 o1 b2 o2 b3 o3 b4 o4 m₂ h tk E' ha hb hoC h1 h2 F' N'
theorem zip_src {elt : Expr} {x x₂ : Str} {scope : Scope} {cl : List (Str × Addr)} {Fin : Shared → List Value → List (Addr × Obj) → Prop} {news : List (Addr × Obj)} {l1 l2 : Addr} {vs1 vs2 : List Value} {n1 n2 n : Nat} {ns1 ns2 : List Int} {g : Int → Int → Int} (_gm : GMark g)
    (hh : A.handled = none) (F : Fr h₀ L s.heap m) (N : News h₀ L s.heap news) (hl1 : (l1, listOf vs1.toArray n1) ∈ news) (hl2 : (l2, listOf vs2.toArray n2) ∈ news) (hi1 : IntsAre vs1 ns1) (hi2 : IntsAre vs2 ns2) (hn1 : ns1.length = n) (hn2 : ns2.length = n) (hsz : n ≤ sizeLine)
    (R : ∀ a b ta tb z oz C oC D ys b1 o1 b2 o2 b3 o3 b4 o4 m₂ h tk (E' : Value → Shared → Prop), NsObj oC m₂ → m₂ x = some (.int a ta) → m₂ x₂ = some (.int b tb) → Fr h₀ L h m →
      News h₀ L h ((z, oz) :: (C, oC) :: (D, lst ys) :: (b1, o1) :: (b2, o2) :: (b3, o3) :: (b4, o4) :: news) →
      wpAny (model prog w) A (eval elt (compEnvC scope cl C env)) (ZEnd h₀ L m { s with heap := h, toks := tk } ((z, oz) :: (C, oC) :: (D, lst ys) :: (b1, o1) :: (b2, o2) :: (b3, o3) :: (b4, o4) :: news) (g a b)) E' { s with heap := h, toks := tk })
    (fin : ∀ g' ys, IntsAre ys (List.zipWith g ns1 ns2) → Fin { s with heap := g' } ys news) :
    wpAny (model prog w) A (call (.type "zip") [.ref l1, .ref l2]) (SrcZ prog w A h₀ L m env elt x x₂ scope cl Fin) E s :=
  zip_srcB _gm hh F N hl1 hl2 hi1 hi2 hn1 hn2 hsz (fun a b ta tb z oz C oC D ys b1 o1 b2 o2 b3 o3 b4 o4 m₂ h tk E' _ _ => R a b ta tb z oz C oC D ys b1 o1 b2 o2 b3 o3 b4 o4 m₂ h tk E') fin
theorem ListComp_Z {elt iter : Expr} {x x₂ : Str} {px px₂ tp : Pos} {tk} {scope : Scope} {cl : List (Str × Addr)} {pos : Pos} {Q : Value → Shared → Prop} (F₀ : Fr h₀ L s.heap m)
    (hclos : closureFor scope env = pure cl) (hcell : ∀ y ∈ scope.names, y.2 ≠ .cell) (hkind : scope.kind = .function)
    (hnames : ∀ y ∈ scope.names, y.2 = .local → scope.names.lookup y.1 = some .local) (hx : scope.names.lookup x = some .local) (hx₂ : scope.names.lookup x₂ = some .local) (hxx : x ≠ x₂)
    (h : wpAny (model prog w) A (eval iter env) (SrcZ prog w A h₀ L m env elt x x₂ scope cl (ZFinE h₀ L m Q)) E s)
    (hs : ∀ x, foldedSetIterable iter env x = pure x := by intro _; rfl) :
    wpAny (model prog w) A (eval (.ListComp elt [⟨.Tuple [.Name x px, .Name x₂ px₂] tk tp, iter, [], 0⟩] scope pos) env) Q E s := by
  rw [eval_ListComp]
  refine wpAny_comprehension_free (use := none) rfl hs hclos hkind hnames (wpAny_mono h (fun xv s₁ h₁ => ?_) fun _ _ e => e)
  obtain ⟨I, aux, fp, wr, n, Pt, St, Mid, news, ns1, ns2, g, rfl, W, hPt, hl1, hl2, hsz, hIo, hfp, hwr, hfr, hh, hst, F, N, R, fin⟩ := h₁
  refine W.self 0 _ _ _ hst (block_Z W hPt hl1 hl2 hsz hIo hfp hwr hfr hcell hkind hx hx₂ hxx hh hst F N R ?_)
  intro D C h tk m' ys hy F' N' o1 hn hC₀ hD₀ hCL hDL hCD offC
  refine ⟨m', hn, fun h'' hs'' => fin ys hy D h'' tk (F'.change hs'' hCL hC₀) (fun p hp => ?_) o1⟩
  refine ⟨hs''.extBut _ _ ?_ (N' p hp).1, (N' p hp).2⟩
  rcases List.mem_cons.mp hp with rfl | hp
  · exact Ne.symm hCD
  · exact offC p hp
theorem Assign_ListComp_Z {elt iter : Expr} {x x₂ y : Str} {px px₂ tp py : Pos} {tk} {scope : Scope} {cl : List (Str × Addr)} {pos spos : Pos} {Q : Flow → Shared → Prop} (F₀ : Fr h₀ L s.heap m) (hLe : env.locals = L)
    (hsw : swapsWith (.ListComp elt [⟨.Tuple [.Name x px, .Name x₂ px₂] tk tp, iter, [], 0⟩] scope pos) (some (.Name y py)) spos.line env = pure true)
    (hclos : closureFor scope env = pure cl) (hcell : ∀ z ∈ scope.names, z.2 ≠ .cell) (hkind : scope.kind = .function)
    (hnames : ∀ z ∈ scope.names, z.2 = .local → scope.names.lookup z.1 = some .local) (hx : scope.names.lookup x = some .local) (hx₂ : scope.names.lookup x₂ = some .local) (hxx : x ≠ x₂)
    (hy : env.kindOf y = some .local) (hp : (env.scope.kind == .class || (env.scope.kind == .module && env.locals != env.globals)) = false)
    (h : wpAny (model prog w) A (eval iter env) (SrcZ prog w A h₀ L m env elt x x₂ scope cl (ZFinA h₀ L m y Q)) E s)
    (hs : ∀ x, foldedSetIterable iter env x = pure x := by intro _; rfl) :
    wpAny (model prog w) A (exec (.Assign [.Name y py] (.ListComp elt [⟨.Tuple [.Name x px, .Name x₂ px₂] tk tp, iter, [], 0⟩] scope pos) spos) env) Q E s := by
  subst hLe
  rw [exec_Assign_Name_used _ _ _ _ hsw]
  refine wpAny_bind (wpAny_standAt (wpAny_bind ?_))
  show wpAny _ A (do let _ ← comprehension (.ListComp elt [⟨.Tuple [.Name x px, .Name x₂ px₂] tk tp, iter, [], 0⟩] scope pos) scope env _ (newList []) false (eval iter env) (some (assign (.Name y py) env))) _ _ s
  refine wpAny_bind (wpAny_mono (wpAny_comprehension_free (use := some (assign (.Name y py) env)) (Q := fun _ s' => Q .next s') rfl hs hclos hkind hnames
    (wpAny_mono h (fun xv s₁ h₁ => ?_) fun _ _ e => e)) (fun _ s' hq => wpAny_pure (wpAny_pure hq)) fun _ _ e => e)
  obtain ⟨I, aux, fp, wr, n, Pt, St, Mid, news, ns1, ns2, g, rfl, W, hPt, hl1, hl2, hsz, hIo, hfp, hwr, hfr, hh, hst, F, N, R, fin⟩ := h₁
  refine W.self 0 _ _ _ hst (block_Z W hPt hl1 hl2 hsz hIo hfp hwr hfr hcell hkind hx hx₂ hxx hh hst F N R ?_)
  intro D C h' tk m' ys hys F' N' o1 hn hC₀ hD₀ hCL hDL hCD offC
  show wpAny _ A (assign (.Name y py) env (.ref D)) _ _ _
  refine wpAny_assign_Name (wpAny_storeName_local hy F'.ns (fun h₂ hn₂ hs₂ => ?_) hp)
  have hL₀ : h₀.get? env.locals = none := Heap.get?_none_of_le F'.above
  have F₂ : Fr h₀ env.locals h₂ (fun z => if z = y then some (.ref D) else m z) := ⟨hn₂, fun b o e => hs₂.extBut b o (fun q => by rw [q, hL₀] at e; cases e) (F'.keep b o e), F'.above⟩
  refine ⟨m', hn.sameBut hs₂ hCL, fun h'' hs'' => fin ys hys D h'' _ (F₂.change hs'' hCL hC₀) (fun p hp => ?_) o1⟩
  have z : h₂.get? p.1 = some p.2 := hs₂.extBut _ _ (N' p hp).2.1 (N' p hp).1
  refine ⟨hs''.extBut _ _ ?_ z, (N' p hp).2⟩
  rcases List.mem_cons.mp hp with rfl | hp
  · exact Ne.symm hCD
  · exact offC p hp
end
end Mine
end
section
open PySem PySem.W PyProof.Rows PySem.Calls PySem.Spec
set_option maxRecDepth 100000
namespace Mine
open LCg
inductive GMark1 (g : Int → Int) : Prop
  | mk
theorem small_two {a b : Int} (ha : 0 ≤ a ∧ a ≤ 4) (hb : 0 ≤ b ∧ b ≤ 63) : Builtin.Range.small a b 2 = true := by
  unfold Builtin.Range.small Builtin.Range.rangeSize
  simp only [Builtin.Range.rangeFitsLong, Bool.and_eq_true, Bool.or_eq_true, decide_eq_true_eq, beq_iff_eq, show (2 : Int) > 0 by decide, if_true]
  split <;> omega
theorem size_two {a b : Int} (ha : 0 ≤ a) (hb : b ≤ 63) : (Builtin.Range.rangeSize a b 2).toNat ≤ 63 ∧ ∀ i : Nat, i < (Builtin.Range.rangeSize a b 2).toNat → a + (i : Int) * 2 < b := by
  unfold Builtin.Range.rangeSize
  rw [if_pos (by decide)]
  split
  · exact ⟨by omega, fun i hi => by omega⟩
  · exact ⟨by omega, fun i hi => by omega⟩
section
variable {prog : Program} {w : World} {A : Around} {E : Value → Shared → Prop} {s : Shared} {h₀ : Heap} {L : Addr} {m : Str → Option Value} {env : Env}
def SrcS (prog : Program) (w : World) (A : Around) (h₀ : Heap) (L : Addr) (m : Str → Option Value) (env : Env) (elt : Expr) (x : Str) (scope : Scope) (cl : List (Str × Addr)) (Fin : Shared → List Value → List (Addr × Obj) → Prop) (xv : Value) (s₁ : Shared) : Prop :=
  ∃ r a b c t u v n news, xv = .ref r ∧ A.handled = none ∧ Fr h₀ L s₁.heap m ∧ News h₀ L s₁.heap news ∧ IsRange s₁.heap r a b c t u v ∧ Builtin.Range.small a b c = true ∧ Builtin.Range.rangeSize a b c = ((n : Nat) : Int) ∧ n ≤ sizeLine ∧
    ∀ s₂ : Shared, (∃ h, s₂ = { s₁ with heap := h }) → CompRest prog w A h₀ L m env elt x scope cl s₂ (fun _ => True) (fun i v => i < n ∧ ∃ t, v = .int (a + (i : Int) * c) t) (Fin s₂) n 0 [] news
theorem srcS2 {elt : Expr} {x : Str} {scope : Scope} {cl : List (Str × Addr)} {Fin : Shared → List Value → List (Addr × Obj) → Prop} {s₁ : Shared} {r : Addr} {a b : Int} {t u v : Tok} {news : List (Addr × Obj)} {ns : List Int} {g : Int → Int} (_gm : GMark1 g)
    (hh : A.handled = none) (F : Fr h₀ L s₁.heap m) (N : News h₀ L s₁.heap news) (hr : IsRange s₁.heap r a b 2 t u v) (ha : 0 ≤ a ∧ a ≤ 4) (hb : 0 ≤ b ∧ b ≤ (ns.length : Int)) (hn : ns.length ≤ 63)
    (turn : ∀ g' k t I oI C oC D m₂ ys h tk (E' : Value → Shared → Prop), 0 ≤ k → k < (ns.length : Int) → NsObj oC m₂ → m₂ x = some (.int k t) → Fr h₀ L h m → News h₀ L h ((I, oI) :: (C, oC) :: (D, lst ys) :: news) → Off3 I C D news → ((@Ne Nat I C) ∧ (@Ne Nat I D) ∧ (@Ne Nat C D)) →
      wpAny (model prog w) A (eval elt (compEnvC scope cl C env)) (CompEnd h₀ L m { { s₁ with heap := g' } with heap := h, toks := tk } I oI C oC D (lst ys) (fun _ => True) (fun y news' => KCfEl news (g k) y news')) E' { { s₁ with heap := g' } with heap := h, toks := tk })
    (fin : ∀ g' ys (xs : List Int), IntsAre ys xs → xs.length ≤ 63 → ys.length ≤ 63 → Fin { s₁ with heap := g' } ys news) : SrcS prog w A h₀ L m env elt x scope cl Fin (.ref r) s₁ := by
  obtain ⟨z1, z2⟩ := size_two (b := b) ha.1 (by omega)
  refine ⟨r, a, b, 2, t, u, v, (Builtin.Range.rangeSize a b 2).toNat, news, rfl, hh, F, N, hr, small_two ha ⟨hb.1, by omega⟩, rangeSize_toNat _ _ _, by rw [PySem.sizeLine_eq]; omega, fun s₂ ⟨g', e⟩ => ?_⟩
  subst e
  generalize (Builtin.Range.rangeSize a b 2).toNat = n at z1 z2
  refine kcf_rest (ks := (List.range n).map fun i : Nat => a + (i : Int) * 2) g (by simp) (fun i v hi hv => ?_) (fun k t I oI C oC D m₂ ys h tk E' hk hC hx F' N' off ne _ => ?_) ?_
  · obtain ⟨_, t, e⟩ := hv
    exact ⟨_, t, by simp [hi], e⟩
  · obtain ⟨i, hi, rfl⟩ := List.mem_map.mp hk
    have := z2 i (List.mem_range.mp hi)
    exact turn g' _ t I oI C oC D m₂ ys h tk E' (by omega) (by omega) hC hx F' N' off ne
  · intro ys hy
    have hl : (((List.range n).map fun i : Nat => a + (i : Int) * 2).map g).length = n := by simp
    exact fin g' ys _ hy (by omega) (by rw [hy.length]; omega)
theorem ListComp_S {elt iter : Expr} {x : Str} {px : Pos} {scope : Scope} {cl : List (Str × Addr)} {pos : Pos} {Q : Value → Shared → Prop} (_F₀ : Fr h₀ L s.heap m)
    (hclos : closureFor scope env = pure cl) (hcell : ∀ y ∈ scope.names, y.2 ≠ .cell) (hkind : scope.kind = .function)
    (hnames : ∀ y ∈ scope.names, y.2 = .local → scope.names.lookup y.1 = some .local) (hx : scope.names.lookup x = some .local)
    (h : wpAny (model prog w) A (eval iter env) (SrcS prog w A h₀ L m env elt x scope cl (fun s₂ => FinE h₀ L m s₂ Q)) E s)
    (hs : ∀ x, foldedSetIterable iter env x = pure x := by intro _; rfl) :
    wpAny (model prog w) A (eval (.ListComp elt [⟨.Name x px, iter, [], 0⟩] scope pos) env) Q E s := by
  rw [eval_ListComp]
  refine wpAny_comprehension_free (use := none) rfl hs hclos hkind hnames (wpAny_mono h (fun xv s₁ h₁ => ?_) fun _ _ e => e)
  obtain ⟨r, a, b, c, t, u, v, n, news, rfl, hh, F, N, hr, hsm, hn, hsz, R⟩ := h₁
  refine wpAny_pyIter_range hr hsm ?_
  refine block_U (Walks.range hh s₁.heap.objs.size a c n).bound hsz (fun i h st => ⟨_, st⟩) (fun i h h' o nw st e e' _ _ _ => ?_) hcell hkind hx (by show IsRangeIter _ _ _ _ _; rw [hn]; simpa using Heap.get?_push_size _ rfl) (fun b hb => ?_)
    (F.keeps fun _ _ e => Heap.get?_push_of_some _ e) (N.grown fun _ _ e => Heap.get?_push_of_some _ e) (Nat.ne_of_lt F.ns.lt) (next_is_new F) (fun p hp => Nat.ne_of_lt (Heap.lt_size (N p hp).1)) trivial (R _ ⟨_, rfl⟩) ?_
  · have st' : h.get? _ = some _ := st
    show h'.get? _ = some _
    rw [e', ← e]; exact st'
  · rw [List.mem_singleton.mp hb]
    show s₁.heap.objs.size < (s₁.heap.push _).objs.size
    rw [Heap.size_push]; exact Nat.lt_succ_self _
  · intro D C h tk m' ys news' F' N' o1 hn hC₀ hD₀ hCL hDL hCD offC fin
    refine ⟨m', hn, fun h'' hs'' => fin D h'' tk (F'.change hs'' hCL hC₀) (fun p hp => ?_) o1⟩
    refine ⟨hs''.extBut _ _ ?_ (N' p hp).1, (N' p hp).2⟩
    rcases List.mem_cons.mp hp with rfl | hp
    · exact Ne.symm hCD
    · exact offC p hp
end
end Mine
end
section
open PySem PySem.W PyProof.Rows PySem.Calls PySem.Spec PySem.NumText
set_option maxRecDepth 100000
namespace Mine
local macro_rules | `(tactic| k_room) => `(tactic| first | (refine lt_rl ?_; (try simp only [depth_under_make, depth_under_kw, depth_in1, depth_deeper, depth_caller]); (try dsimp only [ktrTop]); omega) | ((try simp only [depth_under_make, depth_under_kw, depth_in1, depth_deeper, depth_caller]); (try dsimp only [ktrTop]); omega))
local macro_rules | `(tactic| k_units) => `(tactic| first | (refine lt_cl ?_; (try simp only [units_in1, units_deeper, units_under_make, Around.mark_units, units_caller]); (try dsimp only [ktrTop]); omega) | ((try simp only [units_in1, units_deeper, units_under_make, Around.mark_units, units_caller]); (try dsimp only [ktrTop]); omega))
local macro_rules | `(tactic| ktr_room) => `(tactic| k_room)
local macro_rules | `(tactic| ktr_units) => `(tactic| k_units)
local macro_rules | `(tactic| k_enter) => `(tactic| (refine' code_defC ?k1 ?k2 ?k3 ?k4 ?k5 ?kA ?kF ?kK ?k6 ?k7 ?k8 ?k9 ?kB ?kD ?_ ?c2 ?c3 ?c4; (case kA => exact rfl); (case kF => exact rfl); (case kK => first | exact rfl | assumption); (case k1 => k_asm); (case k2 => k_asm); (case k3 => k_asm); (case k4 => k_asm); (case k5 => k_asm); (case k6 => k_is); (case k7 => k_is); (case k8 => k_room); (case k9 => first | exact BindsTo.of_eq rfl | exact binds_K (by k_in) rfl (by k_is) rfl rfl rfl | fail "k_enter: no rule for these arguments"); (case kB => exact rfl); (case kD => decide +kernel); (case c2 => exact rfl); (case c3 => exact rfl); (case c4 => exact rfl); k_whole; intro g' L' h' tk' cells' FG' F' N' Y' B' X' T' l1; (try k_lt l1); k_cells Y'; (try simp only [List.cons_append, List.nil_append] at N'); (try dsimp only); (try k_lift B'); (try k_fold)))
local macro_rules | `(tactic| k_enter) => `(tactic| (refine' code_def ?k1 ?k2 ?k3 ?k4 ?k5 ?kA ?kF ?kK ?k6 ?k7 ?k8 ?k9 ?kB ?_ ?c2 ?c3 ?c4 ?c5; (case kA => exact rfl); (case kF => exact rfl); (case kK => first | exact rfl | assumption); (case k1 => k_asm); (case k2 => k_asm); (case k3 => k_asm); (case k4 => k_asm); (case k5 => k_asm); (case k6 => k_is); (case k7 => k_is); (case k8 => k_room); (case k9 => first | exact BindsTo.of_eq rfl | exact binds_K (by k_in) rfl (by k_is) rfl rfl rfl | fail "k_enter: no rule for these arguments"); (case c5 => decide); (case kB => exact locs rfl); (case c2 => exact rfl); (case c3 => exact rfl); (case c4 => exact rfl); k_whole; intro g' L' h' FG' F' N' B' X' T'; (try dsimp only); (try k_lift B'); (try k_fold)))
local macro_rules | `(tactic| cell_enter) => `(tactic| (refine' enterF ?k1 ?k2 ?k3 ?k4 ?kdis ?k5 ?kA ?kF ?kK ?k6 ?k7 ?k8 ?k9 ?kB ?_ ?c2 ?c3 ?c4 ?c5; (case kA => exact rfl); (case kF => exact rfl); (case kK => first | exact rfl | assumption); (case k1 => k_asm); (case k2 => k_asm); (case k3 => k_asm); (case k4 => assumption); (case kdis => assumption); (case k5 => k_asm); (case k6 => k_is); (case k7 => k_is); (case k8 => k_room); (case k9 => first | exact BindsTo.of_eq rfl | exact binds_K (by k_in) rfl (by k_is) rfl rfl rfl | fail "k_enter: no rule for these arguments"); (case c5 => decide); (case kB => exact locs rfl); (case c2 => exact rfl); (case c3 => exact rfl); (case c4 => exact rfl); k_whole; intro g' L' h' F' N' B' X' T' l1; (try k_lt l1); (try dsimp only); (try k_fold)))
local macro_rules | `(tactic| ktr_enter) => `(tactic| (refine' enterFC ?k1 ?k2 ?k3 ?k4 ?kdis ?k5 ?kA ?kF ?kK ?k6 ?k7 ?k8 ?k9 ?kB ?kD ?_ ?c2 ?c3 ?c4; (case kA => exact rfl); (case kF => exact rfl); (case kK => first | exact rfl | assumption); (case k1 => k_asm); (case k2 => k_asm); (case k3 => k_asm); (case k4 => assumption); (case kdis => assumption); (case k5 => k_asm); (case k6 => k_is); (case k7 => k_is); (case k8 => k_room); (case k9 => first | exact BindsTo.of_eq rfl | exact binds_K (by k_in) rfl (by k_is) rfl rfl rfl | fail "k_enter: no rule for these arguments"); (case kB => exact rfl); (case kD => decide +kernel); (case c2 => exact rfl); (case c3 => exact rfl); (case c4 => exact rfl); k_whole; intro g' L' h' tk' cells' F' N' Y' B' X' T' l1; (try k_lt l1); k_cells Y'; (try simp only [List.cons_append, List.nil_append] at N'); (try dsimp only); (try k_fold)))
local macro_rules | `(tactic| walk_at "subscriptTail Name Slice ref ref") => `(tactic| (k_here; (with_reducible show wpAny _ _ (subscriptTail _ (PySem.Expr.Slice none none none _) (Value.ref _) (Value.ref _)) _ _ _); k_dflt (refine' slice_all ?F ?N ?l ?z ?_ ?s ?t; (case F => k_asm); (case N => k_asm); (case l => k_mem); (case z => first | omega | assumption); (case s => with_unfolding_all rfl); (case t => kmk_pure)); intro D' h' F' N' l1; (try k_lt l1); (try k_sweep)))
local macro_rules | `(tactic| ksw_same) => `(tactic| (intro z h2 h3; (try simp only [List.forall_mem_cons, List.not_mem_nil, false_implies, implies_true, and_true, ne_eq] at h2); (try simp only [List.contains_cons, List.contains_nil, Bool.or_false, Bool.or_eq_false_iff, beq_eq_false_iff_ne, ne_eq] at h3); simp [frS, kstB, h2, h3]))
local macro_rules | `(tactic| walk_at "getMethod ref") => `(tactic| (k_here; k_dflt (first
  | (refine' method_inst ?k1 ?k2 ?k3 ?k4 ?k5 ?k6 ?k7 ?_; (case k1 => k_asm); (case k2 => k_asm); (case k3 => k_inst); (case k4 => k_is); (case k5 => k_is); (case k6 => k_is); (case k7 => k_get); k_whole)
  | (refine' kmu_own ?k1 ?k2 ?k3 ?k4 ?k5 ?_; (case k1 => k_asm); (case k2 => k_asm); (case k3 => k_inst); (case k4 => k_is); (case k5 => k_is); k_whole))))
local macro_rules | `(tactic| walk_at "callWith") => `(tactic| (k_here; (with_reducible show wpAny _ _ (callWith _ _ _ _ (backToKw _ _)) _ _ _); k_dflt (show wpAny _ _ (callWith _ (Value.ref _) _ (backTo _ (starEach (_ :: _) _)) (backToKw _ (keywordEach (_ :: _) _))) _ _ _); k_dflt (refine' kco_callWithKW ?k1 ?k2 ?k3 ?_; (case k1 => k_inst); (case k2 => rfl); (case k3 => rfl); k_whole)))
section
variable {w : World} {mean : ExcName → Option Value} {mg mb : Str → Option Value} {dp un : Nat} {gd : Option (List Code)} {cn : Str} {cs : Scope} {a : Addr} {ccd : Value} {cl : List (Str × Addr)} {outer : List Env} {A₀ : Around} {base h₀ : Heap} {L : Addr} {m : Str → Option Value} {news : List (Addr × Obj)} {s : Shared} {Q E : Value → Shared → Prop}
set_option maxHeartbeats 4000000 in
theorem isi_yes (B : Below A₀ base outer h₀) (F : Fr h₀ L s.heap m) (X : Frag.In (Mine.hd1.heap_39 w.params) h₀) (N : News h₀ L s.heap news) (T : Top Mine.hd1.view_39 (looseW Mine.hd1.view_39 [Str.ofString "PolynomialRing", Str.ofString "Polynomial"]) mean mg mb h₀) (hk : cs.kind = .function) {p qd x l : Addr} {u1 u2 : Tok} (hp : (p, instObj 592 qd) ∈ news) (hpd : (qd, polyD w.params x l u1 u2) ∈ news)
    (hret : ∀ (h' : Heap) (tk' : Nat), Fr h₀ L h' m → News h₀ L h' news → Q (.bool true) { s with heap := h', toks := tk' }) :
    wpAny (model PySem.Challenge.rw_bn0015_01.row.prog w) (ktrTop dp un gd cn cs L a ccd cl outer) (call (.builtin "isinstance") [.ref p, .ref 592]) Q E s := by
  w_top off; revert X; k_fill; intro X
  k_dflt (refine' isi_call ?k1 ?k2 ?k3 ?k4 ?_; (case k1 => k_in); (case k2 => (intro M; exact InstAt.type (InstAt.of_news N hp hpd))); (case k3 => k_is); (case k4 => intro e; cases e))
  exact hret _ _ F N
set_option maxHeartbeats 4000000 in
theorem isi_no (B : Below A₀ base outer h₀) (F : Fr h₀ L s.heap m) (X : Frag.In (Mine.hd1.heap_39 w.params) h₀) (N : News h₀ L s.heap news) (T : Top Mine.hd1.view_39 (looseW Mine.hd1.view_39 [Str.ofString "PolynomialRing", Str.ofString "Polynomial"]) mean mg mb h₀) (hk : cs.kind = .function) {p qd x l : Addr} {u1 u2 : Tok} (hp : (p, instObj 528 qd) ∈ news) (hpd : (qd, polyD w.params x l u1 u2) ∈ news)
    (hret : ∀ (h' : Heap) (tk' : Nat), Fr h₀ L h' m → News h₀ L h' news → Q (.bool false) { s with heap := h', toks := tk' }) :
    wpAny (model PySem.Challenge.rw_bn0015_01.row.prog w) (ktrTop dp un gd cn cs L a ccd cl outer) (call (.builtin "isinstance") [.ref p, .ref 592]) Q E s := by
  w_top off; revert X; k_fill; intro X
  have I := InstAt.of_news N hp hpd
  k_dflt (refine' kin_callC ?k1 I ?k3 ?k4 ?k5 ?k6 ?k7 ?k8 ?k9 ?_; (case k1 => k_in); (case k3 => kin_no); (case k4 => k_is); (case k5 => k_is); (case k6 => k_is); (case k7 => k_is); (case k8 => k_is); (case k9 => k_is))
  exact hret _ _ F N
end
end Mine
end
section
open PySem PySem.W PyProof.Rows PySem.Calls PySem.Spec PySem.NumText
set_option maxRecDepth 100000
namespace Mine
theorem zlenP {ys : List Value} {g : Int → Int → Int} {as bs : List Int} (h : IntsAre ys (List.zipWith g as bs)) (ha : as.length = 256) (hb : bs.length = 256) : ys.length = 256 := by
  rw [h.length, List.length_zipWith, ha, hb]
  rfl
theorem off_of_ltP {D : Addr} {news : List (Addr × Obj)} (h : ∀ p ∈ news, p.1 < D) : Off D news := fun q hq => Nat.ne_of_lt (h q hq)
theorem drop4P {h₀ h : Heap} {L : Addr} {a b c d : Addr × Obj} {r : List (Addr × Obj)} (N : News h₀ L h (a :: b :: c :: d :: r)) : News h₀ L h ([a, b, c] ++ r) := fun q hq => N q (by
  rcases List.mem_cons.mp hq with rfl | hq
  · exact .head _
  rcases List.mem_cons.mp hq with rfl | hq
  · exact .tail _ (.head _)
  rcases List.mem_cons.mp hq with rfl | hq
  · exact .tail _ (.tail _ (.head _))
  · exact .tail _ (.tail _ (.tail _ (.tail _ hq))))
theorem mul_bnd2 {as bs : List Int} {k n : Int} (hk : k ∈ as) (hn : n ∈ bs) (ha : Bnd as) (hb : Bnd bs) : IntMulOk k n := by
  obtain ⟨h1, h2⟩ := ha k hk
  obtain ⟨h3, h4⟩ := hb n hn
  mul_fits
local macro_rules | `(tactic| k_room) => `(tactic| first | (refine lt_rl ?_; (try simp only [depth_under_make, depth_under_kw, depth_in1, depth_deeper, depth_caller]); (try dsimp only [ktrTop]); omega) | ((try simp only [depth_under_make, depth_under_kw, depth_in1, depth_deeper, depth_caller]); (try dsimp only [ktrTop]); omega))
local macro_rules | `(tactic| k_units) => `(tactic| first | (refine lt_cl ?_; (try simp only [units_in1, units_deeper, units_under_make, Around.mark_units, units_caller]); (try dsimp only [ktrTop]); omega) | ((try simp only [units_in1, units_deeper, units_under_make, Around.mark_units, units_caller]); (try dsimp only [ktrTop]); omega))
local macro_rules | `(tactic| ktr_room) => `(tactic| k_room)
local macro_rules | `(tactic| ktr_units) => `(tactic| k_units)
local macro_rules | `(tactic| k_enter) => `(tactic| (refine' code_defC ?k1 ?k2 ?k3 ?k4 ?k5 ?kA ?kF ?kK ?k6 ?k7 ?k8 ?k9 ?kB ?kD ?_ ?c2 ?c3 ?c4; (case kA => exact rfl); (case kF => exact rfl); (case kK => first | exact rfl | assumption); (case k1 => k_asm); (case k2 => k_asm); (case k3 => k_asm); (case k4 => k_asm); (case k5 => k_asm); (case k6 => k_is); (case k7 => k_is); (case k8 => k_room); (case k9 => first | exact BindsTo.of_eq rfl | exact binds_K (by k_in) rfl (by k_is) rfl rfl rfl | fail "k_enter: no rule for these arguments"); (case kB => exact rfl); (case kD => decide +kernel); (case c2 => exact rfl); (case c3 => exact rfl); (case c4 => exact rfl); k_whole; intro g' L' h' tk' cells' FG' F' N' Y' B' X' T' l1; (try k_lt l1); k_cells Y'; (try simp only [List.cons_append, List.nil_append] at N'); (try dsimp only); (try k_lift B'); (try k_fold)))
local macro_rules | `(tactic| k_enter) => `(tactic| (refine' code_def ?k1 ?k2 ?k3 ?k4 ?k5 ?kA ?kF ?kK ?k6 ?k7 ?k8 ?k9 ?kB ?_ ?c2 ?c3 ?c4 ?c5; (case kA => exact rfl); (case kF => exact rfl); (case kK => first | exact rfl | assumption); (case k1 => k_asm); (case k2 => k_asm); (case k3 => k_asm); (case k4 => k_asm); (case k5 => k_asm); (case k6 => k_is); (case k7 => k_is); (case k8 => k_room); (case k9 => first | exact BindsTo.of_eq rfl | exact binds_K (by k_in) rfl (by k_is) rfl rfl rfl | fail "k_enter: no rule for these arguments"); (case c5 => decide); (case kB => exact locs rfl); (case c2 => exact rfl); (case c3 => exact rfl); (case c4 => exact rfl); k_whole; intro g' L' h' FG' F' N' B' X' T'; (try dsimp only); (try k_lift B'); (try k_fold)))
local macro_rules | `(tactic| cell_enter) => `(tactic| (refine' enterF ?k1 ?k2 ?k3 ?k4 ?kdis ?k5 ?kA ?kF ?kK ?k6 ?k7 ?k8 ?k9 ?kB ?_ ?c2 ?c3 ?c4 ?c5; (case kA => exact rfl); (case kF => exact rfl); (case kK => first | exact rfl | assumption); (case k1 => k_asm); (case k2 => k_asm); (case k3 => k_asm); (case k4 => assumption); (case kdis => assumption); (case k5 => k_asm); (case k6 => k_is); (case k7 => k_is); (case k8 => k_room); (case k9 => first | exact BindsTo.of_eq rfl | exact binds_K (by k_in) rfl (by k_is) rfl rfl rfl | fail "k_enter: no rule for these arguments"); (case c5 => decide); (case kB => exact locs rfl); (case c2 => exact rfl); (case c3 => exact rfl); (case c4 => exact rfl); k_whole; intro g' L' h' F' N' B' X' T' l1; (try k_lt l1); (try dsimp only); (try k_fold)))
local macro_rules | `(tactic| ktr_enter) => `(tactic| (refine' enterFC ?k1 ?k2 ?k3 ?k4 ?kdis ?k5 ?kA ?kF ?kK ?k6 ?k7 ?k8 ?k9 ?kB ?kD ?_ ?c2 ?c3 ?c4; (case kA => exact rfl); (case kF => exact rfl); (case kK => first | exact rfl | assumption); (case k1 => k_asm); (case k2 => k_asm); (case k3 => k_asm); (case k4 => assumption); (case kdis => assumption); (case k5 => k_asm); (case k6 => k_is); (case k7 => k_is); (case k8 => k_room); (case k9 => first | exact BindsTo.of_eq rfl | exact binds_K (by k_in) rfl (by k_is) rfl rfl rfl | fail "k_enter: no rule for these arguments"); (case kB => exact rfl); (case kD => decide +kernel); (case c2 => exact rfl); (case c3 => exact rfl); (case c4 => exact rfl); k_whole; intro g' L' h' tk' cells' F' N' Y' B' X' T' l1; (try k_lt l1); k_cells Y'; (try simp only [List.cons_append, List.nil_append] at N'); (try dsimp only); (try k_fold)))
local macro_rules | `(tactic| walk_at "subscriptTail Name Slice ref ref") => `(tactic| (k_here; (with_reducible show wpAny _ _ (subscriptTail _ (PySem.Expr.Slice none none none _) (Value.ref _) (Value.ref _)) _ _ _); k_dflt (refine' slice_all ?F ?N ?l ?z ?_ ?s ?t; (case F => k_asm); (case N => k_asm); (case l => k_mem); (case z => first | omega | assumption); (case s => with_unfolding_all rfl); (case t => kmk_pure)); intro D' h' F' N' l1; (try k_lt l1); (try k_sweep)))
local macro_rules | `(tactic| ksw_same) => `(tactic| (intro z h2 h3; (try simp only [List.forall_mem_cons, List.not_mem_nil, false_implies, implies_true, and_true, ne_eq] at h2); (try simp only [List.contains_cons, List.contains_nil, Bool.or_false, Bool.or_eq_false_iff, beq_eq_false_iff_ne, ne_eq] at h3); simp [frS, kstB, h2, h3]))
local macro_rules | `(tactic| walk_at "getMethod ref") => `(tactic| (k_here; k_dflt (first
  | (refine' method_inst ?k1 ?k2 ?k3 ?k4 ?k5 ?k6 ?k7 ?_; (case k1 => k_asm); (case k2 => k_asm); (case k3 => k_inst); (case k4 => k_is); (case k5 => k_is); (case k6 => k_is); (case k7 => k_get); k_whole)
  | (refine' kmu_own ?k1 ?k2 ?k3 ?k4 ?k5 ?_; (case k1 => k_asm); (case k2 => k_asm); (case k3 => k_inst); (case k4 => k_is); (case k5 => k_is); k_whole))))
local macro_rules | `(tactic| walk_at "callWith") => `(tactic| (k_here; (with_reducible show wpAny _ _ (callWith _ _ _ _ (backToKw _ _)) _ _ _); k_dflt (show wpAny _ _ (callWith _ (Value.ref _) _ (backTo _ (starEach (_ :: _) _)) (backToKw _ (keywordEach (_ :: _) _))) _ _ _); k_dflt (refine' kco_callWithKW ?k1 ?k2 ?k3 ?_; (case k1 => k_inst); (case k2 => rfl); (case k3 => rfl); k_whole)))
section
variable {w : World} {mean : ExcName → Option Value} {mg mb : Str → Option Value} {dp un : Nat} {gd : Option (List Code)} {cn : Str} {cs : Scope} {a : Addr} {ccd : Value} {cl : List (Str × Addr)} {outer : List Env} {A₀ : Around} {base h₀ : Heap} {L : Addr} {m : Str → Option Value} {news : List (Addr × Obj)} {s : Shared} {Q E : Value → Shared → Prop}
local macro_rules | `(tactic| walk_at "eval ListComp") => `(tactic| (k_here; (with_reducible show wpAny _ _ (eval (PySem.Expr.ListComp _ [⟨PySem.Expr.Tuple _ _ _, PySem.Expr.Call _ _ _ _, _, _⟩] _ _) _) _ _ _); k_dflt (refine ListComp_Z (by k_asm) (by with_unfolding_all rfl) (by decide) (by rfl) (by decide) (by rfl) (by rfl) (by decide) ?_)))
local macro_rules | `(tactic| walk_at "call type:zip") => `(tactic| (k_here; k_dflt (refine' zip_srcB (n := 256) ?gm ?hh ?F ?N ?l1 ?l2 ?i1 ?i2 ?n1 ?n2 ?sz ?_ ?_; (case gm => with_reducible assumption); (case hh => rfl); (case F => k_asm); (case N => k_asm); (case l1 => k_mem); (case l2 => k_mem); (case i1 => with_reducible assumption); (case i2 => with_reducible assumption); (case n1 => assumption); (case n2 => assumption); (case sz => (rw [PySem.sizeLine_eq]; omega)); (all_goals first | (intro g' ys' hI'; unfold ZFinE; intro D' h' tk' F' N' l1; (have hYs := zlenP hI' (by assumption) (by assumption)); (have hOf := off_of_ltP l1); (try k_lt l1); (try dsimp only); (try k_fold); (try k_sweep)) | (intro a' b' ta' tb' z' oz' C' oC' D' ys' b1' o1' b2' o2' b3' o3' b4' o4' m' h' tk' E' ha' hb' hC' hx' hx2' F' N')))))
local macro_rules | `(tactic| walk_at "binaryOp Mult int int") => `(tactic| (refine mul_int ?_ (mul_bnd2 (by with_reducible assumption) (by with_reducible assumption) (by with_reducible assumption) (by with_reducible assumption))))
local macro_rules | `(tactic| walk_at "ZEnd") => `(tactic| (refine zend (by assumption) (by assumption) ?_; rfl))
local macro_rules | `(tactic| walk_at "call ref") => `(tactic| (k_here; k_dflt (show wpAny _ _ (call (Value.ref _) [Value.ref _] [(_, Value.bool _)]) _ _ _); k_dflt (refine' polyT_C ?k1 ?k2 ?k3 ?k4 ?k5 ?kK ?kd ?ku ?m1 ?m2 ?m3 ?kl ?n1 ?n2 ?n3 ?_; (case k1 => k_asm); (case k2 => k_asm); (case k3 => k_asm); (case k4 => k_asm); (case k5 => k_asm); (case kK => first | exact rfl | assumption); (case kd => k_room); (case ku => k_units); (case m1 => k_mem); (case m2 => k_mem); (case m3 => k_mem); (case kl => assumption); (case n1 => assumption); (case n2 => k_ne); (case n3 => k_ne)); intro p9 q9 v1 v2 h10 tk10 F10 N10 o1 o2 o3; (have o1s := o1); (have o2s := o2); (try simp only [off_cons, off_nil_iff, and_true] at o1s o2s); (repeat (obtain ⟨_, o1s⟩ := o1s)); (repeat (obtain ⟨_, o2s⟩ := o2s)); (try dsimp only); (try k_fold)))
set_option maxHeartbeats 4000000 in
theorem mulp_C (B : Below A₀ base outer h₀) (F : Fr h₀ L s.heap m) (X : Frag.In (Mine.hd1.heap_39 w.params) h₀) (N : News h₀ L s.heap news) (T : Top Mine.hd1.view_39 (looseW Mine.hd1.view_39 [Str.ofString "PolynomialRing", Str.ofString "Polynomial"]) mean mg mb h₀) (hk : cs.kind = .function) (hd : dp ≤ 400) (hu : un ≤ 4000) {x dx s1 s2 z p1 q1 l1 p2 q2 l2 : Addr} {t1 t2 t3 t4 t5 t6 t7 t8 t9 u1 u2 u3 u4 : Tok} {vs1 vs2 : List Value} {n1 n2 : Nat} {ns1 ns2 : List Int}
    (hx : (x, instObj 392 dx) ∈ news) (hdx : (dx, ringD w.params s1 s2 z t1 t2 t3 t4 t5 t6 t7 t8 t9) ∈ news)
    (hp1 : (p1, instObj 592 q1) ∈ news) (hq1 : (q1, polyD w.params x l1 u1 u2) ∈ news) (hl1 : (l1, listOf vs1.toArray n1) ∈ news)
    (hp2 : (p2, instObj 592 q2) ∈ news) (hq2 : (q2, polyD w.params x l2 u3 u4) ∈ news) (hl2 : (l2, listOf vs2.toArray n2) ∈ news)
    (hv1 : vs1.length = 256) (hv2 : vs2.length = 256) (hn1 : ns1.length = 256) (hn2 : ns2.length = 256) (hi1 : IntsAre vs1 ns1) (hi2 : IntsAre vs2 ns2) (hB1 : Bnd ns1) (hB2 : Bnd ns2) (hxd : @Ne Nat x dx)
    (hret : ∀ (p dp l : Addr) (ws : List Value) (u1 u2 : Tok) (h' : Heap) (tk' : Nat), IntsAre ws (List.zipWith (fun a b => (a * b).fmod 8380417) ns1 ns2) → Fr h₀ L h' m →
      News h₀ L h' ((p, instObj 592 dp) :: (dp, polyD w.params x l u1 u2) :: (l, listOf ws.toArray ws.length) :: news) → Off p news → Off dp news → Off l news → @Ne Nat p dp → @Ne Nat p l → @Ne Nat dp l →
      Q (.ref p) { s with heap := h', toks := tk' }) :
    wpAny (model PySem.Challenge.rw_bn0015_01.row.prog w) (ktrTop dp un gd cn cs L a ccd cl outer) (call (.ref 589) [.ref p1, .ref p2]) Q E s := by
  w_top off; revert X; k_fill; intro X
  obtain ⟨rest, N2, dis, cov⟩ := split_need N [(x, instObj 392 dx), (dx, ringD w.params s1 s2 z t1 t2 t3 t4 t5 t6 t7 t8 t9), (p1, instObj 592 q1), (q1, polyD w.params x l1 u1 u2), (l1, listOf vs1.toArray n1), (p2, instObj 592 q2), (q2, polyD w.params x l2 u3 u4), (l2, listOf vs2.toArray n2)]
    (fun q hq => by
      simp only [List.mem_cons, List.not_mem_nil, or_false] at hq
      rcases hq with rfl | rfl | rfl | rfl | rfl | rfl | rfl | rfl <;> assumption)
  refine wpAny_call ?_
  k_dflt ktr_enter
  clear N2 dis
  have hMk := kstMark
  have gm : GMark (fun a b => (a * b).fmod 8380417) := .mk
  k_steps
  all_goals (try k_data)
  dsimp only [Back]
  rename News h₀ L _ _ => kN1
  rename Fr h₀ L _ _ => kF1
  rename IntsAre _ (List.zipWith _ _ _) => kI1
  revert kN1
  rename News _ _ _ _ => kC1
  intro kN1 kG kR
  rename Off _ _ => kO2
  revert kO2
  rename Off _ _ => kO1
  revert kO1
  rename Off _ _ => kO0
  intro kO1 kO2
  refine' hret _ _ _ _ _ _ _ _ kI1 kF1 (news_cov (drop4P kN1) kR cov) ?d ?e ?f ?g ?h ?i
  case d => exact apart_cov kG kC1 cov (List.Mem.head _) kO1.tail.tail
  case e => exact apart_cov kG kC1 cov (.tail _ (List.Mem.head _)) kO2.tail.tail
  case f => exact apart_cov kG kC1 cov (.tail _ (.tail _ (List.Mem.head _))) kO0.tail
  case g => assumption
  case h => exact (kO1.head).symm
  case i => exact (kO2.head).symm
end
end Mine
end
section
open PySem PySem.W PyProof.Rows PySem.Calls PySem.Spec
set_option maxRecDepth 100000
namespace Mine
section
variable {prog : Program} {w : World} {A : Around} {E : Value → Shared → Prop} {s : Shared} {env : Env} {h₀ : Heap} {x : Str} {body : List Stmt} {Q : Flow → Shared → Prop}
theorem unrEnd_mono {L : Addr} {s₁ s₂ : Shared} {I : Addr} {it : Obj} {r1 r2 : (Str → Option Value) → List (Addr × Obj) → Prop} (h : UnrEnd h₀ L s₁ I it r1 s₂) (k : ∀ m nx, r1 m nx → r2 m nx) : UnrEnd h₀ L s₁ I it r2 s₂ := by
  obtain ⟨h', tk, m', nx, e, F, N, off, r⟩ := h
  exact ⟨h', tk, m', nx, e, F, N, off, k _ _ r⟩
theorem rngD {σ : Type} {r : Addr} {a₀ b₀ : Int} {t₀ u₀ v₀ : Tok} {n : Nat} {m₀ : Str → Option Value} (Led : σ → List (Addr × Obj)) (ps : σ → List (Str × Value)) (vars : List Str) (P : Nat → σ → Prop) (c₀ : σ)
    (hh : A.handled = none) (hr : IsRange s.heap r a₀ b₀ 1 t₀ u₀ v₀) (hsmall : Builtin.Range.small a₀ b₀ 1 = true) (hn : Builtin.Range.rangeSize a₀ b₀ 1 = (n : Int)) (F : Fr h₀ env.locals s.heap m₀) (N : News h₀ env.locals s.heap (Led c₀)) (hk : ∀ p ∈ ps c₀, m₀ p.1 = some p.2) (hp : P 0 c₀)
    (turn : ∀ (c : σ) (i : Nat) t (u : Str → Option Value) h tk I, i < n → P i c →
      Fr h₀ env.locals h (fun y => if y = x then some (.int (a₀ + (i : Int)) t) else frS m₀ u vars (ps c) y) → News h₀ env.locals h ((I, itR (a₀ + ((i + 1 : Nat) : Int)) ((n : Int) - ((i + 1 : Nat) : Int))) :: Led c) →
      wpAny (model prog w) A (execs body env) (UnrPost h₀ env.locals { s with heap := h, toks := tk } I (itR (a₀ + ((i + 1 : Nat) : Int)) ((n : Int) - ((i + 1 : Nat) : Int))) (LoopSt Led ps vars m₀ (P (i + 1))) Q) E { s with heap := h, toks := tk })
    (done : ∀ (c : σ) (u : Str → Option Value) h tk, P n c → Fr h₀ env.locals h (frS m₀ u vars (ps c)) → News h₀ env.locals h (Led c) → Q .next { s with heap := h, toks := tk }) :
    wpAny (model prog w) A (pyIter (.ref r)) (fun it s₂ => LoopAtV prog w A h₀ env x body Q E it s₂) E s := by
  refine iter_rangeUnr hh hr hsmall hn F N fun I _ => ?_
  have key : ∀ k i, i + k = n → ∀ m₁ nx, LoopSt Led ps vars m₀ (P i) m₁ nx → RangeRest prog w A E h₀ env x body Q s I a₀ n k i m₁ nx := by
    intro k
    induction k with
    | zero =>
      rintro i hi m₁ nx ⟨c, rfl, h1, h2, hp'⟩
      obtain rfl : i = n := by omega
      refine RangeRest.zero fun h tk F₁ N₁ => done c m₁ h tk hp' ?_ N₁
      rw [frS_eq h1 h2]
      exact F₁
    | succ k ih =>
      rintro i hi m₁ nx ⟨c, rfl, h1, h2, hp'⟩
      refine RangeRest.succ fun t h tk F₁ N₁ => ?_
      refine wpAny_mono (turn c i t m₁ h tk I (by omega) hp' ?_ N₁) (fun f s₂ hq => ?_) fun _ _ e => e
      · rw [frS_eq h1 h2]
        exact F₁
      · cases f with
        | next => exact unrEnd_mono hq fun m nx hl => ih (i + 1) (by omega) m nx hl
        | cont => exact unrEnd_mono hq fun m nx hl => ih (i + 1) (by omega) m nx hl
        | brk => exact hq
        | ret v => exact hq
  exact key n 0 (by omega) m₀ _ ⟨c₀, rfl, hk, fun _ _ _ => rfl, hp⟩
end
end Mine
end
section
open PySem PySem.W PyProof.Rows
namespace Mine
def pmF (b e m : Nat) : Nat → Nat → Nat
  | 0, p => p
  | n + 1, p => pmF b e m n (if e.testBit n then p * p % m * b % m else p * p % m)
theorem pmF_fold (b e m : Nat) : ∀ n p, (List.range n).reverse.foldl (fun p i => if e.testBit i then p * p % m * b % m else p * p % m) p = pmF b e m n p
  | 0, p => rfl
  | n + 1, p => by
    rw [List.range_succ, List.reverse_append, List.reverse_singleton, List.singleton_append, List.foldl_cons, pmF_fold b e m n, pmF]
theorem pmF_pow (b e m : Nat) : ∀ n a, pmF b e m n (b ^ a % m) = b ^ (a * 2 ^ n + e % 2 ^ n) % m
  | 0, a => by simp [pmF, Nat.mod_one]
  | n + 1, a => by
    have sq : b ^ a % m * (b ^ a % m) % m = b ^ (2 * a) % m := by
      rw [← Nat.mul_mod, ← Nat.pow_add, Nat.two_mul]
    have hm : e % 2 ^ (n + 1) = e % 2 ^ n + 2 ^ n * (e / 2 ^ n % 2) := by
      rw [Nat.pow_succ, Nat.mod_mul]
    have hb : (e.testBit n = true) ↔ e / 2 ^ n % 2 = 1 := by
      rw [Nat.testBit_eq_decide_div_mod_eq, decide_eq_true_iff]
    rw [pmF, sq]
    by_cases h : e.testBit n = true
    · have h1 := hb.mp h
      have E : (2 * a + 1) * 2 ^ n + e % 2 ^ n = a * 2 ^ (n + 1) + e % 2 ^ (n + 1) := by
        rw [hm, h1, Nat.pow_succ, Nat.add_mul, Nat.one_mul, Nat.mul_comm 2 a, Nat.mul_assoc, Nat.mul_comm 2 (2 ^ n), Nat.mul_one]
        omega
      rw [if_pos h, Nat.mod_mul_mod, ← Nat.pow_succ, pmF_pow b e m n (2 * a + 1), E]
    · have h1 : e / 2 ^ n % 2 = 0 := by
        have : ¬ (e / 2 ^ n % 2 = 1) := fun q => h (hb.mpr q)
        omega
      have E : 2 * a * 2 ^ n + e % 2 ^ n = a * 2 ^ (n + 1) + e % 2 ^ (n + 1) := by
        rw [hm, h1, Nat.pow_succ, Nat.mul_comm 2 a, Nat.mul_assoc, Nat.mul_comm 2 (2 ^ n), Nat.mul_zero, Nat.add_zero]
      rw [if_neg h, pmF_pow b e m n (2 * a), E]
theorem powMod_eq (b e m : Nat) (he : e < 2 ^ (Builtin.Int.intBits (e : Int))) : Builtin.powMod b e m = b ^ e % m := by
  show (List.range _).reverse.foldl _ _ = _
  rw [pmF_fold]
  have := pmF_pow b e m (Builtin.Int.intBits (e : Int)) 0
  rw [Nat.pow_zero, Nat.zero_mul, Nat.zero_add, Nat.mod_eq_of_lt he] at this
  exact this
theorem powMod_is (b e m : Nat) : Builtin.powMod b e m = b ^ e % m := by
  refine powMod_eq b e m ?_
  have := (intBits_le_iff (m := Builtin.Int.intBits (e : Int)) (x := (e : Int))).mp (Nat.le_refl _)
  simpa using this
end Mine
end
section
open PySem PySem.W PyProof.Rows PySem.Calls PySem.Spec PySem.NumText
set_option maxRecDepth 100000
namespace Mine
inductive PwI (x r : Int) : Prop
  | mk (h : r = ((1753 ^ x.toNat % 8380417 : Nat) : Int)) (h0 : 0 ≤ r) (h1 : r < 8380417)
inductive RngL (os : List Int) : Prop
  | mk (h : ∀ y ∈ os, 0 ≤ y ∧ y < 8380417)
inductive PowsL (st : Int) : List Int → List Int → Prop
  | nil : PowsL st [] [st]
  | snoc {xs l : List Int} {x r : Int} (h : PowsL st xs l) (p : PwI x r) : PowsL st (xs ++ [x]) (l ++ l.map fun k => (k * r).fmod 8380417)
theorem pwi_bnd {x r : Int} (h : PwI x r) : 0 ≤ r ∧ r < 8380417 := by
  obtain ⟨_, h0, h1⟩ := h
  exact ⟨h0, h1⟩
theorem pw_call {prog : Program} {w : World} {A : Around} {E : Value → Shared → Prop} {s : Shared} {Q : Value → Shared → Prop} {t u v : Tok} {x : Int} (hx : 0 ≤ x) (h : ∀ r, PwI x r → Q (.int r s.toks) { s with toks := s.toks + 1 }) :
    wpAny (model prog w) A (call (.builtin "pow") [.int 1753 t, .int x u, .int 8380417 v]) Q E s :=
  call_pow_mod hx (h _ (.mk (congrArg Int.ofNat (powMod_is 1753 x.toNat 8380417)) (Int.natCast_nonneg _) (by
    have e : Builtin.powMod ((1753 : Int) % 8380417).toNat x.toNat 8380417 = 1753 ^ x.toNat % 8380417 := powMod_is 1753 x.toNat 8380417
    rw [e]
    have := Nat.mod_lt (1753 ^ x.toNat) (show 0 < 8380417 by decide)
    omega)))
theorem fm512 (x : Int) : 0 ≤ x.fmod 512 := by
  rw [Int.fmod_eq_emod_of_nonneg _ (by decide)]
  omega
theorem mul_left {os : List Int} {y X : Int} (hy : y ∈ os) (h : RngL os) : IntMulOk y X := by
  obtain ⟨h⟩ := h
  obtain ⟨h1, h2⟩ := h y hy
  mul_fits
theorem pows_step {st : Int} {xs l : List Int} {x r : Int} {ws : List Value} (hI : IntsAre ws (l ++ l.map fun k => (k * r).fmod 8380417)) (P : PowsL st xs l) (p : PwI x r) (R : RngL l) {n : Nat} (hl : l.length = n) :
    ∃ l2, IntsAre ws l2 ∧ PowsL st (xs ++ [x]) l2 ∧ RngL l2 ∧ l2.length = n + n ∧ ws.length = n + n := by
  have e : (l ++ l.map fun k => (k * r).fmod 8380417).length = n + n := by rw [List.length_append, List.length_map, hl]
  refine ⟨_, hI, .snoc P p, .mk fun y hy => ?_, e, hI.length.trans e⟩
  obtain ⟨R⟩ := R
  rcases List.mem_append.mp hy with hy | hy
  · exact R y hy
  · obtain ⟨k, _, rfl⟩ := List.mem_map.mp hy
    rw [Int.fmod_eq_emod_of_nonneg _ (by decide)]
    omega
abbrev range8 (t u v : Tok) : Obj := { cls := .type "range", data := .fields #[.int 0 t, .int 8 u, .int 1 v] }
theorem range_in {h₀ h : Heap} {L r : Addr} {news : List (Addr × Obj)} {t u v : Tok} (N : News h₀ L h news) (hm : (r, range8 t u v) ∈ news) : IsRange h r 0 8 1 t u v := (N _ hm).1
local macro_rules | `(tactic| k_room) => `(tactic| first | (refine lt_rl ?_; (try simp only [depth_under_make, depth_under_kw, depth_in1, depth_deeper, depth_caller]); (try dsimp only [ktrTop]); omega) | ((try simp only [depth_under_make, depth_under_kw, depth_in1, depth_deeper, depth_caller]); (try dsimp only [ktrTop]); omega))
local macro_rules | `(tactic| k_units) => `(tactic| first | (refine lt_cl ?_; (try simp only [units_in1, units_deeper, units_under_make, Around.mark_units, units_caller]); (try dsimp only [ktrTop]); omega) | ((try simp only [units_in1, units_deeper, units_under_make, Around.mark_units, units_caller]); (try dsimp only [ktrTop]); omega))
local macro_rules | `(tactic| ktr_room) => `(tactic| k_room)
local macro_rules | `(tactic| ktr_units) => `(tactic| k_units)
local macro_rules | `(tactic| k_enter) => `(tactic| (refine' code_defC ?k1 ?k2 ?k3 ?k4 ?k5 ?kA ?kF ?kK ?k6 ?k7 ?k8 ?k9 ?kB ?kD ?_ ?c2 ?c3 ?c4; (case kA => exact rfl); (case kF => exact rfl); (case kK => first | exact rfl | assumption); (case k1 => k_asm); (case k2 => k_asm); (case k3 => k_asm); (case k4 => k_asm); (case k5 => k_asm); (case k6 => k_is); (case k7 => k_is); (case k8 => k_room); (case k9 => first | exact BindsTo.of_eq rfl | exact binds_K (by k_in) rfl (by k_is) rfl rfl rfl | fail "k_enter: no rule for these arguments"); (case kB => exact rfl); (case kD => decide +kernel); (case c2 => exact rfl); (case c3 => exact rfl); (case c4 => exact rfl); k_whole; intro g' L' h' tk' cells' FG' F' N' Y' B' X' T' l1; (try k_lt l1); k_cells Y'; (try simp only [List.cons_append, List.nil_append] at N'); (try dsimp only); (try k_lift B'); (try k_fold)))
local macro_rules | `(tactic| k_enter) => `(tactic| (refine' code_def ?k1 ?k2 ?k3 ?k4 ?k5 ?kA ?kF ?kK ?k6 ?k7 ?k8 ?k9 ?kB ?_ ?c2 ?c3 ?c4 ?c5; (case kA => exact rfl); (case kF => exact rfl); (case kK => first | exact rfl | assumption); (case k1 => k_asm); (case k2 => k_asm); (case k3 => k_asm); (case k4 => k_asm); (case k5 => k_asm); (case k6 => k_is); (case k7 => k_is); (case k8 => k_room); (case k9 => first | exact BindsTo.of_eq rfl | exact binds_K (by k_in) rfl (by k_is) rfl rfl rfl | fail "k_enter: no rule for these arguments"); (case c5 => decide); (case kB => exact locs rfl); (case c2 => exact rfl); (case c3 => exact rfl); (case c4 => exact rfl); k_whole; intro g' L' h' FG' F' N' B' X' T'; (try dsimp only); (try k_lift B'); (try k_fold)))
local macro_rules | `(tactic| cell_enter) => `(tactic| (refine' enterF ?k1 ?k2 ?k3 ?k4 ?kdis ?k5 ?kA ?kF ?kK ?k6 ?k7 ?k8 ?k9 ?kB ?_ ?c2 ?c3 ?c4 ?c5; (case kA => exact rfl); (case kF => exact rfl); (case kK => first | exact rfl | assumption); (case k1 => k_asm); (case k2 => k_asm); (case k3 => k_asm); (case k4 => assumption); (case kdis => assumption); (case k5 => k_asm); (case k6 => k_is); (case k7 => k_is); (case k8 => k_room); (case k9 => first | exact BindsTo.of_eq rfl | exact binds_K (by k_in) rfl (by k_is) rfl rfl rfl | fail "k_enter: no rule for these arguments"); (case c5 => decide); (case kB => exact locs rfl); (case c2 => exact rfl); (case c3 => exact rfl); (case c4 => exact rfl); k_whole; intro g' L' h' F' N' B' X' T' l1; (try k_lt l1); (try dsimp only); (try k_fold)))
local macro_rules | `(tactic| ktr_enter) => `(tactic| (refine' enterFC ?k1 ?k2 ?k3 ?k4 ?kdis ?k5 ?kA ?kF ?kK ?k6 ?k7 ?k8 ?k9 ?kB ?kD ?_ ?c2 ?c3 ?c4; (case kA => exact rfl); (case kF => exact rfl); (case kK => first | exact rfl | assumption); (case k1 => k_asm); (case k2 => k_asm); (case k3 => k_asm); (case k4 => assumption); (case kdis => assumption); (case k5 => k_asm); (case k6 => k_is); (case k7 => k_is); (case k8 => k_room); (case k9 => first | exact BindsTo.of_eq rfl | exact binds_K (by k_in) rfl (by k_is) rfl rfl rfl | fail "k_enter: no rule for these arguments"); (case kB => exact rfl); (case kD => decide +kernel); (case c2 => exact rfl); (case c3 => exact rfl); (case c4 => exact rfl); k_whole; intro g' L' h' tk' cells' F' N' Y' B' X' T' l1; (try k_lt l1); k_cells Y'; (try simp only [List.cons_append, List.nil_append] at N'); (try dsimp only); (try k_fold)))
local macro_rules | `(tactic| walk_at "subscriptTail Name Slice ref ref") => `(tactic| (k_here; (with_reducible show wpAny _ _ (subscriptTail _ (PySem.Expr.Slice none none none _) (Value.ref _) (Value.ref _)) _ _ _); k_dflt (refine' slice_all ?F ?N ?l ?z ?_ ?s ?t; (case F => k_asm); (case N => k_asm); (case l => k_mem); (case z => first | omega | assumption); (case s => with_unfolding_all rfl); (case t => kmk_pure)); intro D' h' F' N' l1; (try k_lt l1); (try k_sweep)))
local macro_rules | `(tactic| ksw_same) => `(tactic| (intro z h2 h3; (try simp only [List.forall_mem_cons, List.not_mem_nil, false_implies, implies_true, and_true, ne_eq] at h2); (try simp only [List.contains_cons, List.contains_nil, Bool.or_false, Bool.or_eq_false_iff, beq_eq_false_iff_ne, ne_eq] at h3); simp [frS, kstB, h2, h3]))
local macro_rules | `(tactic| walk_at "getMethod ref") => `(tactic| (k_here; k_dflt (first
  | (refine' method_inst ?k1 ?k2 ?k3 ?k4 ?k5 ?k6 ?k7 ?_; (case k1 => k_asm); (case k2 => k_asm); (case k3 => k_inst); (case k4 => k_is); (case k5 => k_is); (case k6 => k_is); (case k7 => k_get); k_whole)
  | (refine' kmu_own ?k1 ?k2 ?k3 ?k4 ?k5 ?_; (case k1 => k_asm); (case k2 => k_asm); (case k3 => k_inst); (case k4 => k_is); (case k5 => k_is); k_whole))))
local macro_rules | `(tactic| walk_at "callWith") => `(tactic| (k_here; (with_reducible show wpAny _ _ (callWith _ _ _ _ (backToKw _ _)) _ _ _); k_dflt (show wpAny _ _ (callWith _ (Value.ref _) _ (backTo _ (starEach (_ :: _) _)) (backToKw _ (keywordEach (_ :: _) _))) _ _ _); k_dflt (refine' kco_callWithKW ?k1 ?k2 ?k3 ?_; (case k1 => k_inst); (case k2 => rfl); (case k3 => rfl); k_whole)))
section
variable {prog : Program} {w : World} {A : Around} {E : Value → Shared → Prop} {s : Shared} {h₀ : Heap} {L : Addr} {m : Str → Option Value} {news : List (Addr × Obj)}
theorem newList_pows {st : Int} {t : Tok} {Q : Value → Shared → Prop} (F : Fr h₀ L s.heap m) (N : News h₀ L s.heap news) (h0 : 0 ≤ st ∧ st < 8380417)
    (h : ∀ D ws l h', IntsAre ws l → PowsL st [] l → RngL l → l.length = 1 → ws.length = 1 → Fr h₀ L h' m → News h₀ L h' ((D, listOf ws.toArray 0) :: news) → (∀ p ∈ news, p.1 < D) → Q (.ref D) { s with heap := h' }) :
    wpAny (model prog w) A (newList [.int st t]) Q E s :=
  newList_K F N fun D h' F' N' l1 => h D [.int st t] [st] h' (.cons st t .nil) .nil (.mk fun y hy => by rw [List.mem_singleton.mp hy]; exact h0) rfl rfl F' N' l1
end
section
variable {w : World} {mean : ExcName → Option Value} {mg mb : Str → Option Value} {dp un : Nat} {gd : Option (List Code)} {cn : Str} {cs : Scope} {a : Addr} {ccd : Value} {cl : List (Str × Addr)} {outer : List Env} {A₀ : Around} {base h₀ : Heap} {L : Addr} {m : Str → Option Value} {news : List (Addr × Obj)} {s : Shared} {Q E : Value → Shared → Prop}
local macro_rules | `(tactic| walk_at "newList") => `(tactic| (k_here; k_dflt (refine' newList_pows ?F ?N ?b ?_; (case F => k_asm); (case N => k_asm); (case b => assumption)); intro D' ws' l' h' i' p' r' e' e2' F' N' l1; (try k_lt l1); (try k_sweep)))
local macro_rules | `(tactic| walk_at "call builtin:pow") => `(tactic| (refine pw_call (fm512 _) ?_; intro r9 p9))
local macro_rules | `(tactic| walk_at "binaryOp Mult int int") => `(tactic| (refine mul_int ?_ (mul_left (by with_reducible assumption) (by with_reducible assumption))))
local macro_rules | `(tactic| walk_at "binaryOp Add ref ref") => `(tactic| (k_here; (with_reducible show wpAny _ _ (binaryOp _ (Value.ref _) (Value.ref _)) _ _ _); k_dflt (refine' kmk_add_ints ?F ?N ?a ?b ?i ?j ?_ ?z; (case F => k_asm); (case N => k_asm); (case a => kmk_list); (case b => kmk_list); (case i => l_ints); (case j => l_ints); (case z => kmk_sum)); intro D' ws' h' F' N' l1 hI'; (obtain ⟨l2, i2, p2, r2, e2, e3⟩ := pows_step hI' (by with_reducible assumption) (by with_reducible assumption) (by with_reducible assumption) (by with_reducible assumption)); clear hI'; (try k_lt l1); (try k_sweep)))
local macro_rules | `(tactic| walk_at "pyIter ref") => `(tactic| (refine stop_here ?_))
local macro_rules | `(tactic| walk_at "UnrEnd") => `(tactic| (refine stop_here ?_))
def xsOf (e : Int) (i : Nat) : List Int := (List.range i).map fun j : Nat => (2 ^ (8 - (0 + (j : Int))).toNat * e).fmod 512
theorem xsOf_succ (e : Int) (i : Nat) : xsOf e (i + 1) = xsOf e i ++ [(2 ^ (8 - (0 + (i : Int))).toNat * e).fmod 512] := by
  unfold xsOf
  rw [List.range_succ, List.map_append]
  rfl
theorem cls_ne {o it : Obj} {a b : String} (h : a ≠ b) (ha : o.cls = .type a := by rfl) (hb : it.cls = .type b := by rfl) : o ≠ it := fun e => by
  rw [e, hb] at ha
  injection ha with ha
  exact h ha.symm
theorem off_cls {h₀ h : Heap} {L I D : Addr} {it o : Obj} {l : List (Addr × Obj)} (N : News h₀ L h l) (h1 : (I, it) ∈ l) (h2 : (D, o) ∈ l) (hne : o ≠ it) : D ≠ I := fun e => by
  have a := (N _ h1).1
  have b := (N _ h2).1
  rw [e] at b
  exact hne (Option.some.inj (b.symm.trans a))
set_option maxHeartbeats 4000000 in
theorem pw8_C (B : Below A₀ base outer h₀) (F : Fr h₀ L s.heap m) (X : Frag.In (Mine.hd1.heap_39 w.params) h₀) (N : News h₀ L s.heap news) (T : Top Mine.hd1.view_39 (looseW Mine.hd1.view_39 [Str.ofString "PolynomialRing", Str.ofString "Polynomial"]) mean mg mb h₀) (hk : cs.kind = .function) (hd : dp ≤ 400) (hu : un ≤ 4000) {r : Addr} {t1 t2 t3 ts tp : Tok} {st e : Int} (hr : (r, range8 t1 t2 t3) ∈ news) (hst : 0 ≤ st ∧ st < 8380417) (he : 0 ≤ e ∧ e < 256)
    (hret : ∀ (l : Addr) (ws : List Value) (ns : List Int) (h' : Heap) (tk' : Nat), IntsAre ws ns → ns.length = 256 → RngL ns → PowsL st (xsOf e 8) ns → Fr h₀ L h' m →
      News h₀ L h' ((l, listOf ws.toArray 0) :: news) → Off l news → Q (.ref l) { s with heap := h', toks := tk' }) :
    wpAny (model PySem.Challenge.rw_bn0015_01.row.prog w) (ktrTop dp un gd cn cs L a ccd cl outer) (call (.ref 618) [.int st ts, .int e tp, .ref r]) Q E s := by
  w_top off; revert X; k_fill; intro X
  obtain ⟨rest, N2, dis, cov⟩ := split_need N [(r, range8 t1 t2 t3)]
    (fun q hq => by
      simp only [List.mem_cons, List.not_mem_nil, or_false] at hq
      rcases hq with rfl; assumption)
  refine wpAny_call ?_
  k_dflt ktr_enter
  clear N2 dis
  have hMk := kstMark
  obtain ⟨he1, he2⟩ := he
  k_steps
  refine stop_go ?_
  rename Fr _ _ _ _ => F2
  rename News _ _ _ _ => N2
  rename IntsAre _ _ => I2
  rename PowsL _ _ _ => P2
  rename RngL _ => R2
  rename List.length _ = 1 => e2
  rename_i g L1 hA tkA B1 X1 T1 lA o1 d1 D1 ws1 l1 hB e1 lB hC
  k_dflt refine' rngD (σ := (List Value × Addr) × (Obj × List Int)) (n := 8)
    (fun c => [(c.1.2, listOf c.1.1.toArray 0), (L1 + 1, c.2.1), (r, range8 t1 t2 t3)])
    (fun c => [(Str.ofString "row", .ref c.1.2)])
    [Str.ofString "bit"]
    (fun i c => IntsAre c.1.1 c.2.2 ∧ PowsL st (xsOf e i) c.2.2 ∧ RngL c.2.2 ∧ c.2.2.length = 2 ^ i ∧ ∃ v, c.2.1.data = .cell v)
    ((ws1, D1), (o1, l1)) rfl (range_in N2 (by k_memK)) ?sm ?sz F2 N2 ?hk1 ?hp1 ?turn1 ?done1
  case sm => exact small_one (by omega) (by omega) (by omega) (by omega)
  case sz => rfl
  case hk1 => kst_all
  case hp1 => exact ⟨I2, P2, R2, e1, _, d1⟩
  case turn1 =>
    clear F2 N2 I2 P2 R2 e1 e2 lB d1
    rintro ⟨⟨ws, D⟩, ⟨oc, l⟩⟩ i t4 u4 h11 tk11 I hi ⟨q1, q2, q3, q4, v, q5⟩ F7 N7
    dsimp only at q1 q2 q3 q4 q5 F7 N7
    have q6 : l.length ≤ 128 := q4 ▸ (by decide : ∀ i, i < 8 → 2 ^ i ≤ 128) i hi
    have q7 : ws.length = l.length := q1.length
    k_steps
    refine stop_go ?_
    rename_i r9 p9 h1 o9 d9 tk1 hk g9 hI8 hL8 Dy h2 tk2 o1' D9 ws9 h3 l9 i9 p9b r9b e9 e3 l1' h4 F8 N8
    refine UnrEnd.intro F8 N8 [(D9, listOf ws9.toArray 0), (L1 + 1, o9), (r, range8 t1 t2 t3)] ?sub ?off ⟨((ws9, D9), (o9, l9)), rfl, ?hk4, ?hr4, i9, by rw [xsOf_succ]; exact p9b, r9b, by rw [e9, Nat.pow_succ]; omega, _, d9⟩
    case sub =>
      intro p hp
      simp only [List.mem_cons, List.not_mem_nil, or_false] at hp
      rcases hp with rfl | rfl | rfl | rfl <;> k_memK
    case off =>
      intro p hp
      simp only [List.mem_cons, List.not_mem_nil, or_false] at hp
      rcases hp with rfl | rfl | rfl
      · exact off_cls N8 (I := I) (it := itR (0 + ((i + 1 : Nat) : Int)) (((8 : Nat) : Int) - ((i + 1 : Nat) : Int))) (by k_memK) (by k_memK) (cls_ne (a := "list") (b := "range_iterator") (by decide))
      · exact off_cls N8 (I := I) (it := itR (0 + ((i + 1 : Nat) : Int)) (((8 : Nat) : Int) - ((i + 1 : Nat) : Int))) (by k_memK) (by k_memK) (fun e => by have := congrArg Obj.data e; rw [d9] at this; cases this)
      · exact off_cls N8 (I := I) (it := itR (0 + ((i + 1 : Nat) : Int)) (((8 : Nat) : Int) - ((i + 1 : Nat) : Int))) (by k_memK) (by k_memK) (cls_ne (a := "range") (b := "range_iterator") (by decide))
    case hk4 => kst_all
    case hr4 => ksw_same
  case done1 =>
    rintro ⟨⟨ws, D⟩, ⟨oc, l⟩⟩ u4 h11 tk11 ⟨q1, q2, q3, q4, v, q5⟩ F7 N7
    dsimp only at q1 q2 q3 q4 q5 F7 N7
    have hDr : r ≠ D := off_cls N7 (I := D) (it := listOf ws.toArray 0) (o := range8 t1 t2 t3) (by k_memK) (by k_memK) (cls_ne (a := "range") (b := "list") (by decide))
    have N7' := N7
    k_steps
    dsimp only [Back]
    rename News h₀ L _ _ => kN1
    rename Fr h₀ L _ _ => kF1
    intro kG kR
    refine hret D ws l _ _ q1 q4 q3 q2 kF1 (news_cov (out := [(D, listOf ws.toArray 0)]) (need := [(r, range8 t1 t2 t3)]) ?c kR cov) (apart_cov kG N7' cov (List.Mem.head _) ?d)
    case c =>
      intro q hq
      simp only [List.cons_append, List.nil_append, List.mem_cons, List.not_mem_nil, or_false] at hq
      rcases hq with rfl | rfl
      · exact kN1 _ (by k_memK)
      · exact kN1 _ (by k_memK)
    case d =>
      intro q hq
      rw [List.mem_singleton.mp hq]
      exact hDr
end
end Mine
end
section
open PySem PySem.W PyProof.Rows PySem.Calls PySem.Spec PySem.NumText
set_option maxRecDepth 100000
namespace Mine
theorem pw_callL {prog : Program} {w : World} {A : Around} {E : Value → Shared → Prop} {s : Shared} {Q : Value → Shared → Prop} {t u v : Tok} {x : Int} (h : ∀ r, PwI x r → 0 ≤ r ∧ r < 8380417 → Q (.int r s.toks) { s with toks := s.toks + 1 }) (hx : 0 ≤ x) :
    wpAny (model prog w) A (call (.builtin "pow") [.int 1753 t, .int x u, .int 8380417 v]) Q E s := pw_call hx fun r p => h r p (pwi_bnd p)
inductive SubOf (ns : List Int) (k : Nat) (v : Int) : Prop
  | mk (h : v = ns.getD k 0)
theorem rng_map (f : Int → Int) (l : List Int) : RngL (l.map fun k => (f k).fmod 8380417) := .mk fun y hy => by
  obtain ⟨k, _, rfl⟩ := List.mem_map.mp hy
  rw [Int.fmod_eq_emod_of_nonneg _ (by decide)]
  omega
theorem sub_atL {prog : Program} {w : World} {A : Around} {E : Value → Shared → Prop} {s : Shared} {h₀ : Heap} {L l : Addr} {news : List (Addr × Obj)} {Q : Value → Shared → Prop} {value slice : Expr} {vs : List Value} {ns : List Int} {n : Nat} {k : Int} {u : Tok} (N : News h₀ L s.heap news) (hm : (l, listOf vs.toArray n) ∈ news) (hi : IntsAre vs ns) (R : ∀ k, 0 ≤ ns.getD k 0 ∧ ns.getD k 0 < 8380417) (h0 : 0 ≤ k) (h1 : k < ns.length) (hfit : k < 2 ^ 63)
    (h : ∀ v t, SubOf ns k.toNat v → 0 ≤ v ∧ v < 8380417 → Q (.int v t) s)
    (hs : ∀ (k : Int) (u : Tok), subscripted slice false (.ref l) (.int k u) = operate [.ref l, .int k u] (getItem (.ref l) (.int k u))) :
    wpAny (model prog w) A (subscriptTail value slice (.ref l) (.int k u)) Q E s := sub_at N hm hi h0 h1 hfit (fun t => h _ t (.mk rfl) (R _)) hs
theorem rng_getD {l : List Int} (R : RngL l) (k : Nat) : 0 ≤ l.getD k 0 ∧ l.getD k 0 < 8380417 := by
  obtain ⟨R⟩ := R
  rw [List.getD_eq_getElem?_getD]
  cases h : l[k]? with
  | none => decide
  | some v => exact R v (List.mem_of_getElem? h)
theorem pows_nil {st : Int} {l : List Int} (h : PowsL st [] l) : l = [st] := by
  generalize hx : ([] : List Int) = xs at h
  cases h with
  | nil => rfl
  | snoc h p => exact absurd hx.symm (List.append_ne_nil_of_right_ne_nil _ (by simp))
inductive RunsL (f : Int → Int) (ns : List Int) : Prop
  | mk {r : Int} {l : List Int} (hr : PwI 64 r) (P : PowsL r [256, 128] l) (e : ns = List.replicate 64 (f (l.getD 0 0)) ++ List.replicate 64 (f (l.getD 1 0)) ++ List.replicate 64 (f (l.getD 2 0)) ++ List.replicate 64 (f (l.getD 3 0)))
theorem sub_map {g : Int → Int} {l : List Int} {k : Nat} {v : Int} (h : SubOf (l.map g) k v) (hk : k < l.length) : v = g (l.getD k 0) := by
  obtain ⟨rfl⟩ := h
  rw [List.getD_eq_getElem?_getD, List.getD_eq_getElem?_getD, List.getElem?_map, List.getElem?_eq_getElem hk]
  rfl
theorem runs_mk {f g : Int → Int} {ws : List Value} {r v0 v1 v2 v3 : Int} {l l0 l1 l2 l3 : List Int} (kI : IntsAre ws ((List.replicate (Int.toNat 64) l0).flatten ++ (List.replicate (Int.toNat 64) l1).flatten ++ (List.replicate (Int.toNat 64) l2).flatten ++ (List.replicate (Int.toNat 64) l3).flatten))
    (a0 : PowsL v0 [] l0) (a1 : PowsL v1 [] l1) (a2 : PowsL v2 [] l2) (a3 : PowsL v3 [] l3) (s0 : SubOf (l.map g) 0 v0) (s1 : SubOf (l.map g) 1 v1) (s2 : SubOf (l.map g) 2 v2) (s3 : SubOf (l.map g) 3 v3) (hl : l.length = 1 + 1 + (1 + 1))
    (hr : PwI 64 r) (P : PowsL r [256, 128] l) (hg : ∀ y, g y = f y) (hf : ∀ y, 0 ≤ f y ∧ f y < 8380417) : ∃ ns, IntsAre ws ns ∧ ns.length = 256 ∧ RngL ns ∧ RunsL f ns := by
  have e64 : Int.toNat 64 = 64 := rfl
  rw [pows_nil a0, pows_nil a1, pows_nil a2, pows_nil a3, e64, List.flatten_replicate_singleton, List.flatten_replicate_singleton, List.flatten_replicate_singleton, List.flatten_replicate_singleton,
    sub_map s0 (by omega), sub_map s1 (by omega), sub_map s2 (by omega), sub_map s3 (by omega), hg, hg, hg, hg] at kI
  refine ⟨_, kI, by simp, .mk fun y hy => ?_, .mk hr P rfl⟩
  simp only [List.mem_append, List.mem_replicate] at hy
  rcases hy with ((⟨_, rfl⟩ | ⟨_, rfl⟩) | ⟨_, rfl⟩) | ⟨_, rfl⟩ <;> exact hf _
local macro_rules | `(tactic| k_room) => `(tactic| first | (refine lt_rl ?_; (try simp only [depth_under_make, depth_under_kw, depth_in1, depth_deeper, depth_caller]); (try dsimp only [ktrTop]); omega) | ((try simp only [depth_under_make, depth_under_kw, depth_in1, depth_deeper, depth_caller]); (try dsimp only [ktrTop]); omega))
local macro_rules | `(tactic| k_units) => `(tactic| first | (refine lt_cl ?_; (try simp only [units_in1, units_deeper, units_under_make, Around.mark_units, units_caller]); (try dsimp only [ktrTop]); omega) | ((try simp only [units_in1, units_deeper, units_under_make, Around.mark_units, units_caller]); (try dsimp only [ktrTop]); omega))
local macro_rules | `(tactic| ktr_room) => `(tactic| k_room)
local macro_rules | `(tactic| ktr_units) => `(tactic| k_units)
local macro_rules | `(tactic| k_enter) => `(tactic| (refine' code_defC ?k1 ?k2 ?k3 ?k4 ?k5 ?kA ?kF ?kK ?k6 ?k7 ?k8 ?k9 ?kB ?kD ?_ ?c2 ?c3 ?c4; (case kA => exact rfl); (case kF => exact rfl); (case kK => first | exact rfl | assumption); (case k1 => k_asm); (case k2 => k_asm); (case k3 => k_asm); (case k4 => k_asm); (case k5 => k_asm); (case k6 => k_is); (case k7 => k_is); (case k8 => k_room); (case k9 => first | exact BindsTo.of_eq rfl | exact binds_K (by k_in) rfl (by k_is) rfl rfl rfl | fail "k_enter: no rule for these arguments"); (case kB => exact rfl); (case kD => decide +kernel); (case c2 => exact rfl); (case c3 => exact rfl); (case c4 => exact rfl); k_whole; intro g' L' h' tk' cells' FG' F' N' Y' B' X' T' l1; (try k_lt l1); k_cells Y'; (try simp only [List.cons_append, List.nil_append] at N'); (try dsimp only); (try k_lift B'); (try k_fold)))
local macro_rules | `(tactic| k_enter) => `(tactic| (refine' code_def ?k1 ?k2 ?k3 ?k4 ?k5 ?kA ?kF ?kK ?k6 ?k7 ?k8 ?k9 ?kB ?_ ?c2 ?c3 ?c4 ?c5; (case kA => exact rfl); (case kF => exact rfl); (case kK => first | exact rfl | assumption); (case k1 => k_asm); (case k2 => k_asm); (case k3 => k_asm); (case k4 => k_asm); (case k5 => k_asm); (case k6 => k_is); (case k7 => k_is); (case k8 => k_room); (case k9 => first | exact BindsTo.of_eq rfl | exact binds_K (by k_in) rfl (by k_is) rfl rfl rfl | fail "k_enter: no rule for these arguments"); (case c5 => decide); (case kB => exact locs rfl); (case c2 => exact rfl); (case c3 => exact rfl); (case c4 => exact rfl); k_whole; intro g' L' h' FG' F' N' B' X' T'; (try dsimp only); (try k_lift B'); (try k_fold)))
local macro_rules | `(tactic| cell_enter) => `(tactic| (refine' enterF ?k1 ?k2 ?k3 ?k4 ?kdis ?k5 ?kA ?kF ?kK ?k6 ?k7 ?k8 ?k9 ?kB ?_ ?c2 ?c3 ?c4 ?c5; (case kA => exact rfl); (case kF => exact rfl); (case kK => first | exact rfl | assumption); (case k1 => k_asm); (case k2 => k_asm); (case k3 => k_asm); (case k4 => assumption); (case kdis => assumption); (case k5 => k_asm); (case k6 => k_is); (case k7 => k_is); (case k8 => k_room); (case k9 => first | exact BindsTo.of_eq rfl | exact binds_K (by k_in) rfl (by k_is) rfl rfl rfl | fail "k_enter: no rule for these arguments"); (case c5 => decide); (case kB => exact locs rfl); (case c2 => exact rfl); (case c3 => exact rfl); (case c4 => exact rfl); k_whole; intro g' L' h' F' N' B' X' T' l1; (try k_lt l1); (try dsimp only); (try k_fold)))
local macro_rules | `(tactic| ktr_enter) => `(tactic| (refine' enterFC ?k1 ?k2 ?k3 ?k4 ?kdis ?k5 ?kA ?kF ?kK ?k6 ?k7 ?k8 ?k9 ?kB ?kD ?_ ?c2 ?c3 ?c4; (case kA => exact rfl); (case kF => exact rfl); (case kK => first | exact rfl | assumption); (case k1 => k_asm); (case k2 => k_asm); (case k3 => k_asm); (case k4 => assumption); (case kdis => assumption); (case k5 => k_asm); (case k6 => k_is); (case k7 => k_is); (case k8 => k_room); (case k9 => first | exact BindsTo.of_eq rfl | exact binds_K (by k_in) rfl (by k_is) rfl rfl rfl | fail "k_enter: no rule for these arguments"); (case kB => exact rfl); (case kD => decide +kernel); (case c2 => exact rfl); (case c3 => exact rfl); (case c4 => exact rfl); k_whole; intro g' L' h' tk' cells' F' N' Y' B' X' T' l1; (try k_lt l1); k_cells Y'; (try simp only [List.cons_append, List.nil_append] at N'); (try dsimp only); (try k_fold)))
local macro_rules | `(tactic| walk_at "subscriptTail Name Slice ref ref") => `(tactic| (k_here; (with_reducible show wpAny _ _ (subscriptTail _ (PySem.Expr.Slice none none none _) (Value.ref _) (Value.ref _)) _ _ _); k_dflt (refine' slice_all ?F ?N ?l ?z ?_ ?s ?t; (case F => k_asm); (case N => k_asm); (case l => k_mem); (case z => first | omega | assumption); (case s => with_unfolding_all rfl); (case t => kmk_pure)); intro D' h' F' N' l1; (try k_lt l1); (try k_sweep)))
local macro_rules | `(tactic| ksw_same) => `(tactic| (intro z h2 h3; (try simp only [List.forall_mem_cons, List.not_mem_nil, false_implies, implies_true, and_true, ne_eq] at h2); (try simp only [List.contains_cons, List.contains_nil, Bool.or_false, Bool.or_eq_false_iff, beq_eq_false_iff_ne, ne_eq] at h3); simp [frS, kstB, h2, h3]))
local macro_rules | `(tactic| walk_at "getMethod ref") => `(tactic| (k_here; k_dflt (first
  | (refine' method_inst ?k1 ?k2 ?k3 ?k4 ?k5 ?k6 ?k7 ?_; (case k1 => k_asm); (case k2 => k_asm); (case k3 => k_inst); (case k4 => k_is); (case k5 => k_is); (case k6 => k_is); (case k7 => k_get); k_whole)
  | (refine' kmu_own ?k1 ?k2 ?k3 ?k4 ?k5 ?_; (case k1 => k_asm); (case k2 => k_asm); (case k3 => k_inst); (case k4 => k_is); (case k5 => k_is); k_whole))))
local macro_rules | `(tactic| walk_at "callWith") => `(tactic| (k_here; (with_reducible show wpAny _ _ (callWith _ _ _ _ (backToKw _ _)) _ _ _); k_dflt (show wpAny _ _ (callWith _ (Value.ref _) _ (backTo _ (starEach (_ :: _) _)) (backToKw _ (keywordEach (_ :: _) _))) _ _ _); k_dflt (refine' kco_callWithKW ?k1 ?k2 ?k3 ?_; (case k1 => k_inst); (case k2 => rfl); (case k3 => rfl); k_whole)))
section
variable {w : World} {mean : ExcName → Option Value} {mg mb : Str → Option Value} {dp un : Nat} {gd : Option (List Code)} {cn : Str} {cs : Scope} {a : Addr} {ccd : Value} {cl : List (Str × Addr)} {outer : List Env} {A₀ : Around} {base h₀ : Heap} {L : Addr} {m : Str → Option Value} {news : List (Addr × Obj)} {s : Shared} {Q E : Value → Shared → Prop}
local macro_rules | `(tactic| walk_at "newList") => `(tactic| (k_here; k_dflt (refine' newList_pows ?F ?N ?b ?_; (case F => k_asm); (case N => k_asm); (case b => assumption)); intro D' ws' l' h' i' p' r' e' e2' F' N' l1; (try k_lt l1); (try k_sweep)))
local macro_rules | `(tactic| walk_at "call builtin:pow") => `(tactic| (refine pw_callL ?_ (by first | exact fm512 _ | decide); intro r9 p9 b9))
local macro_rules | `(tactic| walk_at "binaryOp Mult int int") => `(tactic| (refine mul_int ?_ (mul_left (by with_reducible assumption) (by with_reducible assumption))))
local macro_rules | `(tactic| walk_at "binaryOp Add ref ref") => `(tactic| (k_here; (with_reducible show wpAny _ _ (binaryOp _ (Value.ref _) (Value.ref _)) _ _ _); k_dflt (refine' kmk_add_ints ?F ?N ?a ?b ?i ?j ?_ ?z; (case F => k_asm); (case N => k_asm); (case a => kmk_list); (case b => kmk_list); (case i => l_ints); (case j => l_ints); (case z => kmk_sum)); intro D' ws' h' F' N' l1 hI'; (obtain ⟨l2, i2, p2, r2, e2, e3⟩ := pows_step hI' (by with_reducible assumption) (by with_reducible assumption) (by with_reducible assumption) (by with_reducible assumption)); clear hI'; (try k_lt l1); (try k_sweep)))
local macro_rules | `(tactic| walk_at "eval ListComp") => `(tactic| (k_here; (with_reducible show wpAny _ _ (eval (PySem.Expr.ListComp _ [⟨PySem.Expr.Name _ _, PySem.Expr.Call _ _ _ _, _, _⟩] _ _) _) _ _ _); k_dflt (refine LCg.ListComp_U (F₀ := by k_asm) (by with_unfolding_all rfl) (by decide) (by rfl) (by decide) (by rfl) ?_)))
local macro_rules | `(tactic| walk_at "exec Assign cons ListComp") => `(tactic| (k_here; (with_reducible show wpAny _ _ (exec (PySem.Stmt.Assign _ (PySem.Expr.ListComp _ [⟨PySem.Expr.Name _ _, PySem.Expr.Call _ _ _ _, _, _⟩] _ _) _) _) _ _ _); k_dflt (refine LCg.Assign_ListComp_U (F₀ := by k_asm) (by rfl) (by with_unfolding_all rfl) (by with_unfolding_all rfl) (by decide) (by rfl) (by decide) (by rfl) (by rfl) (by rfl) ?_)))
local macro_rules | `(tactic| walk_at "subscriptTail Name Constant ref int") => `(tactic| (k_here; (with_reducible show wpAny _ _ (subscriptTail _ _ (Value.ref _) (Value.int _ _)) _ _ _); k_dflt (refine' sub_atL ?k1 ?k2 ?k3 ?kR ?k4 ?k5 ?k6 ?_ ?k7; (case k1 => k_asm); (case k2 => k_memK); (case k3 => with_reducible assumption); (case kR => exact rng_getD (rng_map _ _)); (case k4 => decide); (case k5 => (simp only [List.length_map]; omega)); (case k6 => decide); (case k7 => (intro _ _; with_unfolding_all rfl)); k_whole); intro v9 t9 s9 b9))
set_option maxHeartbeats 4000000 in
theorem runs_C (B : Below A₀ base outer h₀) (F : Fr h₀ L s.heap m) (X : Frag.In (Mine.hd1.heap_39 w.params) h₀) (N : News h₀ L s.heap news) (T : Top Mine.hd1.view_39 (looseW Mine.hd1.view_39 [Str.ofString "PolynomialRing", Str.ofString "Polynomial"]) mean mg mb h₀) (hk : cs.kind = .function) (hd : dp ≤ 400) (hu : un ≤ 4000) {G : Addr} {g0 g1 g2 g3 : Int} {a0 a1 a2 a3 : Tok} {k : Nat} (hG : (G, listOf #[Value.int g0 a0, .int g1 a1, .int g2 a2, .int g3 a3] k) ∈ news)
    (hret : ∀ (l : Addr) (ws : List Value) (ns : List Int) (h' : Heap) (tk' : Nat), IntsAre ws ns → ns.length = 256 → RngL ns → RunsL (fun y => (g0 + y * (g1 + y * (g2 + y * g3))).fmod 8380417) ns → Fr h₀ L h' m →
      News h₀ L h' ((l, listOf ws.toArray 0) :: news) → Off l news → Q (.ref l) { s with heap := h', toks := tk' }) :
    wpAny (model PySem.Challenge.rw_bn0015_01.row.prog w) (ktrTop dp un gd cn cs L a ccd cl outer) (call (.ref 623) [.ref G]) Q E s := by
  w_top off; revert X; k_fill; intro X
  obtain ⟨rest, N2, dis, cov⟩ := split_need N [(G, listOf #[Value.int g0 a0, .int g1 a1, .int g2 a2, .int g3 a3] k)]
    (fun q hq => by
      simp only [List.mem_cons, List.not_mem_nil, or_false] at hq
      rcases hq with rfl; assumption)
  refine wpAny_call ?_
  k_dflt ktr_enter
  clear N2 dis
  have hMk := kstMark
  k_steps
  all_goals (try k_data)
  dsimp only [Back]
  rename News h₀ L _ _ => kN1
  rename Fr h₀ L _ _ => kF1
  rename IntsAre _ (_ ++ _) => kI1
  rename SubOf _ _ _ => s3
  revert s3
  rename SubOf _ _ _ => s2
  revert s2
  rename SubOf _ _ _ => s1
  revert s1
  rename SubOf _ _ _ => s0
  intro s1 s2 s3
  rename PowsL _ [] _ => b3
  revert b3
  rename PowsL _ [] _ => b2
  revert b2
  rename PowsL _ [] _ => b1
  revert b1
  rename PowsL _ [] _ => b0
  intro b1 b2 b3
  rename PowsL _ (_ ++ _) _ => P2
  rename PwI 64 _ => p64
  rename @List.length Int _ = 1 + 1 + (1 + 1) => hl4
  have e6 : ((2 : Int) ^ ((8 : Int) - 6).toNat * 64).fmod 512 = 256 := by decide
  have e7 : ((2 : Int) ^ ((8 : Int) - 7).toNat * 64).fmod 512 = 128 := by decide
  rw [e6, e7] at P2
  obtain ⟨ns, nI, nL, nR, nU⟩ := runs_mk (f := fun y => (g0 + y * (g1 + y * (g2 + y * g3))).fmod 8380417) kI1 b0 b1 b2 b3 s0 s1 s2 s3 hl4 p64 P2 (fun y => rfl) (fun y => by
    rw [Int.fmod_eq_emod_of_nonneg _ (by decide)]
    omega)
  revert kN1
  rename News _ _ _ _ => kC1
  intro kN1 kG kR
  refine hret _ _ ns _ _ nI nL nR nU kF1 (news_cov (out := [(_, listOf _ 0)]) (need := [(G, listOf #[Value.int g0 a0, .int g1 a1, .int g2 a2, .int g3 a3] k)]) ?c kR cov) (apart_cov kG kC1 cov (List.Mem.head _) ?d)
  case c =>
    intro q hq
    simp only [List.cons_append, List.nil_append, List.mem_cons, List.not_mem_nil, or_false] at hq
    rcases hq with rfl | rfl
    · exact kN1 _ (List.Mem.head _)
    · exact kN1 _ (by k_memK)
  case d =>
    intro q hq
    rw [List.mem_singleton.mp hq]
    k_ne
end
end Mine
end
section
namespace Mine
def CgL (m : Int) (as bs : List Int) : Prop := ∀ i, Cg (as.getD i 0) (m * bs.getD i 0)
theorem ilay_lay {zs cs us : List Int} {l k0 k1 n : Nat} {m : Int} (hl : 1 ≤ l) (hn : 2 * l * n = cs.length) (hu : us.length = cs.length) (h : CgL m us (lay zs l k0 n cs))
    (hz : ∀ b, b < n → Cg (-(zs.getD (k1 - (b + 1)) 0) * zs.getD (k0 + b + 1) 0) 1) : CgL (2 * m) (ilay zs l k1 n us) cs := by
  intro i
  rw [ilay_get hl n (by omega)]
  by_cases h0 : i < 2 * l * n
  · rw [if_pos h0]
    obtain ⟨b, u, e, hu', e1, e2, e3, e4⟩ := blk_of (i := i) hl
    have hb : b < n := Nat.lt_of_mul_lt_mul_left (a := 2 * l) (by omega)
    have hb2 : 2 * l * b + 2 * l ≤ 2 * l * n := by rw [← Nat.mul_succ]; exact Nat.mul_le_mul_left _ hb
    rw [e1, e2]
    by_cases h1 : u < l
    · rw [if_pos h1]
      have A := h i
      have B := h (i + l)
      obtain ⟨q1, q2⟩ := div_blk (l := l) (n := b) (i := i + l) hl (by omega) (by omega)
      rw [lay_get hl n (by omega), if_pos h0, e1, e2, if_pos h1] at A
      rw [lay_get hl n (by omega), if_pos (by omega), q1, q2, if_neg (by omega), show i + l - l = i by omega] at B
      refine (A.add B).trans ⟨0, ?_⟩
      grind
    · rw [if_neg h1]
      have A := h (i - l)
      have B := h i
      obtain ⟨q1, q2⟩ := div_blk (l := l) (n := b) (i := i - l) hl (by omega) (by omega)
      rw [lay_get hl n (by omega), if_pos (by omega), q1, q2, if_pos (by omega), show i - l + l = i by omega] at A
      rw [lay_get hl n (by omega), if_pos h0, e1, e2, if_neg h1] at B
      refine ((Cg.refl _).mul (A.sub B)).trans ?_
      have C := ((hz b hb).mul (Cg.refl (2 * m * cs.getD i 0)))
      obtain ⟨k, hk⟩ := C
      exact ⟨k, by grind⟩
  · rw [if_neg h0]
    have a1 : us.getD i 0 = 0 := by rw [List.getD_eq_getElem?_getD, List.getElem?_eq_none (by omega)]; rfl
    have a2 : cs.getD i 0 = 0 := by rw [List.getD_eq_getElem?_getD, List.getElem?_eq_none (by omega)]; rfl
    rw [a1, a2]
    simp [Cg.refl]
def ZetaOk (zs : List Int) : Prop := ∀ k, k < 8 → ∀ b, b < 2 ^ k → Cg (-(zs.getD (2 ^ (k + 1) - (b + 1)) 0) * zs.getD (2 ^ k - 1 + b + 1) 0) 1
theorem pow_facts2 : ∀ k, k < 8 → 128 / 2 ^ (7 - k) = 2 ^ k ∧ 128 / 2 ^ k = 2 ^ (7 - k) ∧ 256 / 2 ^ k = 2 ^ (7 - k + 1) ∧ 2 * 2 ^ k * 2 ^ (7 - k) = 256 := by decide
theorem intt_ntt {zs cs us : List Int} (Z : ZetaOk zs) (hc : cs.length = 256) (hu : us.length = 256) (h : CgL 1 us (ntt zs 8 cs)) : ∀ k, k ≤ 8 → CgL (2 ^ k) (intt zs k us) (ntt zs (8 - k) cs)
  | 0, _ => by simpa [intt] using h
  | k + 1, hk => by
    have ih := intt_ntt Z hc hu h k (by omega)
    obtain ⟨f1, f2, f3, f4⟩ := pow_facts2 k hk
    have e : 8 - k = (7 - k) + 1 := by omega
    have e' : 8 - (k + 1) = 7 - k := by omega
    rw [e, ntt, f1] at ih
    rw [intt, f2, f3, e']
    have := ilay_lay (k1 := 2 ^ (7 - k + 1)) Nat.one_le_two_pow (by rw [ntt_len, hc, f4]) (by rw [intt_len, ntt_len, hc, hu]) ih (fun b hb => Z (7 - k) (by omega) b hb)
    rw [Int.pow_succ, Int.mul_comm (2 ^ k) 2]
    exact this
theorem cg_end {x y : Int} (t : Cg x (2 ^ 8 * y)) : x * 8347681 % 8380417 = y % 8380417 := by
  obtain ⟨k, hk⟩ := t
  have e : (2 : Int) ^ 8 = 256 := rfl
  rw [e] at hk
  omega
theorem ntt_none (zs cs : List Int) : ntt zs (8 - 8) cs = cs := rfl
theorem mul_end {vs cs : List Int} (hv : vs.length = 256) (hc : cs.length = 256) (tt : CgL (2 ^ 8) vs cs) : (vs.map fun c => c * 8347681 % 8380417) = cs.map fun c => c % 8380417 := by
  refine List.ext_getElem (by rw [List.length_map, List.length_map, hv, hc]) fun i h1 h2 => ?_
  rw [List.getElem_map, List.getElem_map]
  have t := tt i
  rw [List.length_map] at h1 h2
  rw [List.getD_eq_getElem?_getD, List.getD_eq_getElem?_getD, List.getElem?_eq_getElem h1] at t
  rw [List.getElem?_eq_getElem h2] at t
  simp only [Option.getD_some] at t
  exact cg_end t
theorem fromNtt_all {zs cs us : List Int} (Z : ZetaOk zs) (hc : cs.length = 256) (hu : us.length = 256) (h : CgL 1 us (ntt zs 8 cs)) : mulTo 256 (intt zs 8 us) = cs.map fun c => c % 8380417 := by
  have hv : (intt zs 8 us).length = 256 := by rw [intt_len, hu]
  rw [mulTo_all hv]
  have tt := intt_ntt Z hc hu h 8 (Nat.le_refl _)
  rw [ntt_none] at tt
  exact mul_end hv hc tt
end Mine
end
section
open PySem PySem.W PyProof.Rows PySem.Calls PySem.Spec
set_option maxRecDepth 100000
namespace Mine
section
variable {prog : Program} {w : World} {A : Around} {E : Value → Shared → Prop} {s : Shared} {h₀ : Heap} {L l a b : Addr} {m : Str → Option Value} {news : List (Addr × Obj)} {Q : Value → Shared → Prop} {value slice : Expr}
theorem add_script {vs ws : List Value} {ns ms : List Int} {nn : Nat} (F : Fr h₀ L s.heap m) (N : News h₀ L s.heap news) (ha : s.heap.IsList a vs.toArray) (hb : (b, listOf ws.toArray nn) ∈ news) (hi : IntsAre vs ns) (hj : IntsAre ws ms) (hn : ns.length ≤ 63) (hm : ms.length = 7)
    (h : ∀ D us xs h', Fr h₀ L h' m → News h₀ L h' ((D, listOf us.toArray 0) :: news) → (∀ p ∈ news, p.1 < D) → IntsAre us xs → 7 ≤ xs.length → xs.length ≤ 70 → Q (.ref D) { s with heap := h' }) :
    wpAny (model prog w) A (binaryOp .Add (.ref a) (.ref b)) Q E s :=
  kmk_add_ints F N ha (News.isList N hb) hi hj (fun D us h' F' N' l1 hI => h D us _ h' F' N' l1 hI (by rw [List.length_append]; omega) (by rw [List.length_append]; omega)) (by rw [PySem.sizeLine_eq]; omega)
theorem slice_six {vs : List Value} {ns : List Int} {nn : Nat} {t1 t2 : Tok} (F : Fr h₀ L s.heap m) (N : News h₀ L s.heap news) (hl : (l, listOf vs.toArray nn) ∈ news) (hi : IntsAre vs ns) (h7 : 7 ≤ ns.length) (h70 : ns.length ≤ 70)
    (h : ∀ D ws xs h', Fr h₀ L h' m → News h₀ L h' ((D, listOf ws.toArray 0) :: news) → (∀ p ∈ news, p.1 < D) → IntsAre ws xs → xs.length = 6 → ws.length = 6 → Q (.ref D) { s with heap := h' })
    (hs : subscripted slice false (.ref l) (.ref s.heap.objs.size) = operate [.ref s.heap.objs.size, .ref l] (getItem (.ref l) (.ref s.heap.objs.size))) (ht : ∀ r, letTemporaryGo value (.ref l) r = pure ()) :
    wpAny (model prog w) A (subscriptTail value slice (.ref l) (.ref s.heap.objs.size)) Q E { s with heap := s.heap.push { cls := .type "slice", data := .fields #[.int 1 t1, .int 7 t2, .none] } } := by
  have hv := hi.length
  have hz' : vs.toArray.size ≤ sizeLine := by rw [List.size_toArray, sizeLine_eq]; omega
  have hI := slice_ints_plain hi 1 7
  rw [clipAt_in (by decide) (by omega), clipAt_in (by decide) (by omega)] at hI
  have e6 : ((ns.drop (Int.toNat 1)).take (Int.toNat 7 - Int.toNat 1)).length = 6 := by
    rw [List.length_take, List.length_drop]
    show min (7 - 1) (ns.length - 1) = 6
    omega
  refine kmk_slice F N (News.isList N hl) (IsPart.int _ _) (IsPart.int _ _) (fun D h' F' N' l1 => h D _ _ h' F' ?_ l1 hI e6 (hI.length.trans e6)) hs ht hz'
  rw [Array.toArray_toList]
  exact N'
end
theorem six_of {ys : List Value} {xs : List Int} (h : IntsAre ys (xs.map less)) (hl : xs.length = 6) : ∃ v1 v2 v3 v4 v5 v6 t1 t2 t3 t4 t5 t6, ys = [.int (less v1) t1, .int (less v2) t2, .int (less v3) t3, .int (less v4) t4, .int (less v5) t5, .int (less v6) t6] := by
  match xs, hl with
  | [v1, v2, v3, v4, v5, v6], _ =>
    cases h with | cons _ t1 h => cases h with | cons _ t2 h => cases h with | cons _ t3 h => cases h with | cons _ t4 h => cases h with | cons _ t5 h => cases h with | cons _ t6 h =>
    cases h
    exact ⟨v1, v2, v3, v4, v5, v6, t1, t2, t3, t4, t5, t6, rfl⟩
inductive Sz (n : Int) : Prop
  | mk (h0 : -16777216 ≤ n) (h1 : n ≤ 16777216)
theorem less_sz (n : Int) : Sz (less n) := by
  have : -16777216 ≤ less n ∧ less n ≤ 16777216 := by
    unfold less
    split <;> omega
  exact .mk this.1 this.2
inductive ModOf (n e : Int) : Prop
  | mk (h : e = n.fmod 256) (h0 : 0 ≤ e) (h1 : e < 256)
theorem modof_bnd {n e : Int} (h : ModOf n e) : 0 ≤ e ∧ e < 256 := ⟨h.2, h.3⟩
theorem mod256 {prog : Program} {w : World} {A : Around} {E : Value → Shared → Prop} {s : Shared} {Q : Value → Shared → Prop} {n : Int} {t u : Tok} (h : ∀ e, ModOf n e → 0 ≤ e → e < 256 → Q (.int e s.toks) { s with toks := s.toks + 1 }) :
    wpAny (model prog w) A (binaryOp .Mod (.int n t) (.int 256 u)) Q E s := by
  have b : 0 ≤ n.fmod 256 ∧ n.fmod 256 < 256 := by
    rw [Int.fmod_eq_emod_of_nonneg _ (by decide)]
    omega
  exact mod_int (by decide) (h _ (.mk rfl b.1 b.2) b.1 b.2)
theorem fmq (x : Int) : 0 ≤ x.fmod 8380417 ∧ x.fmod 8380417 < 8380417 := by
  rw [Int.fmod_eq_emod_of_nonneg _ (by decide)]
  omega
theorem range8_new {prog : Program} {w : World} {A : Around} {E : Value → Shared → Prop} {s : Shared} {h₀ : Heap} {L : Addr} {m : Str → Option Value} {news : List (Addr × Obj)} {Q : Value → Shared → Prop} {u : Tok} (F : Fr h₀ L s.heap m) (N : News h₀ L s.heap news)
    (h : ∀ r t1 t3 h' tk', Fr h₀ L h' m → News h₀ L h' ((r, range8 t1 u t3) :: news) → (∀ p ∈ news, p.1 < r) → Q (.ref r) { s with heap := h', toks := tk' }) :
    wpAny (model prog w) A (call (.type "range") [.int 8 u]) Q E s :=
  call_range_1 (h _ _ _ _ _ (F.keeps fun _ _ e => Heap.get?_push_of_some _ e) (news_pushed F N (fun _ _ e => Heap.get?_push_of_some _ e) (Heap.get?_push_size _ rfl) rfl) fun p hp => Heap.lt_size (N p hp).1)
theorem mul_right {X r : Int} (h : 0 ≤ r ∧ r < 8380417) : IntMulOk X r := by
  obtain ⟨h1, h2⟩ := h
  mul_fits
end Mine
end
section
open PySem PySem.W PyProof.Rows PySem.Calls PySem.Spec
set_option maxRecDepth 100000
namespace Mine
inductive ZeroL (zs : List Int) : Prop
  | mk (h : zs = List.replicate 256 0)
inductive SetAt (os : List Int) (k x : Int) (ns : List Int) : Prop
  | mk (h : ns = os.set k.toNat x)
section
variable {prog : Program} {w : World} {A : Around} {E : Value → Shared → Prop} {s : Shared} {h₀ : Heap} {L l : Addr} {m : Str → Option Value} {news : List (Addr × Obj)}
theorem zeros256 {Q : Value → Shared → Prop} {t u : Tok} {nn : Nat} (F : Fr h₀ L s.heap m) (N : News h₀ L s.heap news) (hl : (l, listOf [Value.int 0 t].toArray nn) ∈ news)
    (h : ∀ D ws zs h', Fr h₀ L h' m → News h₀ L h' ((D, listOf ws.toArray 0) :: news) → (∀ p ∈ news, p.1 < D) → IntsAre ws zs → ZeroL zs → zs.length = 256 → ws.length = 256 → Q (.ref D) { s with heap := h' }) :
    wpAny (model prog w) A (binaryOp .Mult (.ref l) (.int 256 u)) Q E s := by
  refine KM.mul F N (News.isList N hl) (.cons 0 t .nil) (by decide) (by decide) (by show 1 * 256 ≤ 2 ^ 24; decide) fun D h' F' N' l1 hi2 N9 e1 e2 _ _ => ?_
  have e3 : (List.replicate (Int.toNat 256) [(0 : Int)]).flatten = List.replicate 256 0 := by
    rw [show Int.toNat 256 = 256 from rfl, List.flatten_replicate_singleton]
  rw [e3] at hi2
  exact h D _ _ h' F' N' l1 hi2 (.mk rfl) List.length_replicate (hi2.length.trans List.length_replicate)
theorem set_any {Q : Unit → Shared → Prop} {D : Addr} {vs : List Value} {ns : List Int} {n : Nat} {k x : Int} {t u : Tok} {news' : List Value → List (Addr × Obj)} (F : Fr h₀ L s.heap m) (N : News h₀ L s.heap news) (U : ∀ ws : List Value, Upd D (listOf vs.toArray n) (listOf ws.toArray n) news (news' ws)) (hi : IntsAre vs ns) (h0 : 0 ≤ k) (h1 : k < 256) (hl : ns.length = 256)
    (h : ∀ h' ws xs, Fr h₀ L h' m → News h₀ L h' (news' ws) → IntsAre ws xs → SetAt ns k x xs → xs.length = 256 → ws.length = 256 → Q () { s with heap := h' }) :
    wpAny (model prog w) A (setItem (.ref D) (.int k t) (.int x u)) Q E s :=
  ksa_set F N (U _) hi h0 (by omega) (by omega) fun h' F' N' hi' hl' _ => h h' _ _ F' N' hi' (.mk rfl) (hl'.trans hl) (hi'.length.trans (hl'.trans hl))
end
def pick4 (k g0 g1 g2 g3 : Int) : Int := if k = 0 then g0 else if k = 1 then g1 else if k = 2 then g2 else g3
inductive TermIs (a g sp n : Int) : Prop
  | mk (h : n = if sp < 256 then a * g else -a * g)
theorem term_lo {a g sp v : Int} (c : sp < 256) (e : v = g) : TermIs a g sp (a * v) := .mk (by rw [if_pos c, e])
theorem term_hi {a g sp v : Int} (c : ¬ sp < 256) (e : v = g) : TermIs a g sp (-a * v) := .mk (by rw [if_neg c, e])
theorem sub_pick {prog : Program} {w : World} {A : Around} {E : Value → Shared → Prop} {s : Shared} {h₀ : Heap} {L l : Addr} {news : List (Addr × Obj)} {Q : Value → Shared → Prop} {value slice : Expr} {g0 g1 g2 g3 k : Int} {b0 b1 b2 b3 u : Tok} {n : Nat}
    (N : News h₀ L s.heap news) (hm : (l, listOf #[Value.int g0 b0, .int g1 b1, .int g2 b2, .int g3 b3] n) ∈ news) (h0 : 0 ≤ k) (h1 : k < 4)
    (s0 : -16777217 ≤ g0 ∧ g0 ≤ 16777217) (s1 : -16777217 ≤ g1 ∧ g1 ≤ 16777217) (s2 : -16777217 ≤ g2 ∧ g2 ≤ 16777217) (s3 : -16777217 ≤ g3 ∧ g3 ≤ 16777217)
    (h : ∀ v t, v = pick4 k g0 g1 g2 g3 → -16777217 ≤ v ∧ v ≤ 16777217 → Q (.int v t) s)
    (hs : ∀ (k : Int) (u : Tok), subscripted slice false (.ref l) (.int k u) = operate [.ref l, .int k u] (getItem (.ref l) (.int k u))) :
    wpAny (model prog w) A (subscriptTail value slice (.ref l) (.int k u)) Q E s := by
  refine ksa_sub (vs := [Value.int g0 b0, .int g1 b1, .int g2 b2, .int g3 b3]) (ns := [g0, g1, g2, g3]) N hm (.cons _ _ (.cons _ _ (.cons _ _ (.cons _ _ .nil)))) h0 (by show k < 4; exact h1) (by omega) (fun t => ?_) (hs k u)
  have e : [g0, g1, g2, g3].getD k.toNat 0 = pick4 k g0 g1 g2 g3 := by
    have c : k = 0 ∨ k = 1 ∨ k = 2 ∨ k = 3 := by omega
    rcases c with rfl | rfl | rfl | rfl <;> rfl
  rw [e]
  refine h _ t rfl ?_
  unfold pick4
  repeat' split
  all_goals assumption
theorem rng_bnd {l : List Int} (h : RngL l) : Bnd l := fun y hy => by
  obtain ⟨h⟩ := h
  have := h y hy
  omega
theorem eq_lists {prog : Program} {w : World} {A : Around} {E : Value → Shared → Prop} {s : Shared} {h₀ : Heap} {L a b : Addr} {news : List (Addr × Obj)} {Q : Value → Shared → Prop} {vs us : List Value} {ns ms : List Int} {n k : Nat}
    (N : News h₀ L s.heap news) (ha : (a, listOf vs.toArray n) ∈ news) (hb : (b, listOf us.toArray k) ∈ news) (hi : IntsAre vs ns) (hj : IntsAre us ms) (hu : A.units + 64 < cLine) (e : ns = ms) (h : Q (.bool true) s) :
    wpAny (model prog w) A (compareOp .Eq (.ref a) (.ref b)) Q E s :=
  eq_intsK (News.isList N ha) hi (News.isList N hb) hj hu (by rw [decide_eq_true e]; exact h)
theorem mul_sz {a b : Int} (ha : -16777217 ≤ a ∧ a ≤ 16777217) (hb : -16777217 ≤ b ∧ b ≤ 16777217) : IntMulOk a b := by
  obtain ⟨h1, h2⟩ := ha
  obtain ⟨h3, h4⟩ := hb
  mul_fits
theorem sz0 {a : Int} (h : Sz a) : -16777217 ≤ a ∧ a ≤ 16777217 := by
  obtain ⟨h1, h2⟩ := h
  omega
theorem sz1 {a : Int} (h : Sz a) : -16777217 ≤ a + 1 ∧ a + 1 ≤ 16777217 := by
  obtain ⟨h1, h2⟩ := h
  omega
theorem szn {a : Int} (h : Sz a) : -16777217 ≤ -(a + 1) ∧ -(a + 1) ≤ 16777217 := by
  obtain ⟨h1, h2⟩ := h
  omega
end Mine
end
section
open PySem PySem.W PyProof.Rows
set_option maxRecDepth 100000
namespace Mine
def exS (X : Nat → Int) : Nat → Nat → Nat
  | 0, _ => 0
  | n + 1, j => if j < 2 ^ n then exS X n j else exS X n (j - 2 ^ n) + (X n).toNat
theorem pows_snoc {st x : Int} {xs l : List Int} (h : PowsL st (xs ++ [x]) l) : ∃ l' r, PowsL st xs l' ∧ PwI x r ∧ l = l' ++ l'.map fun k => (k * r).fmod 8380417 := by
  generalize hy : xs ++ [x] = ys at h
  cases h with
  | nil => exact absurd hy (by simp)
  | snoc h p =>
    obtain ⟨e1, e2⟩ := List.append_inj' hy rfl
    obtain rfl := List.cons.inj e2 |>.1
    subst e1
    exact ⟨_, _, h, p, rfl⟩
theorem pwi_cg {x r : Int} (h : PwI x r) : Cg r (1753 ^ x.toNat) := by
  obtain ⟨h, _, _⟩ := h
  rw [h]
  have e : ((1753 : Int) ^ x.toNat) = ((1753 ^ x.toNat : Nat) : Int) := by rw [Int.natCast_pow]; rfl
  rw [e]
  generalize 1753 ^ x.toNat = z
  exact ⟨-((z / 8380417 : Nat) : Int), by omega⟩
theorem pows_at {st : Int} {X : Nat → Int} : ∀ n l, PowsL st ((List.range n).map X) l → l.length = 2 ^ n ∧ ∀ j, j < 2 ^ n → Cg (l.getD j 0) (st * 1753 ^ (exS X n j))
  | 0, l, h => by
    rw [pows_nil h]
    refine ⟨rfl, fun j hj => ?_⟩
    obtain rfl : j = 0 := by simpa using hj
    simp [exS, Cg.refl]
  | n + 1, l, h => by
    rw [List.range_succ, List.map_append, List.map_singleton] at h
    obtain ⟨l', r, h', p, rfl⟩ := pows_snoc h
    obtain ⟨hl, ih⟩ := pows_at n l' h'
    refine ⟨by rw [List.length_append, List.length_map, hl, Nat.pow_succ]; omega, fun j hj => ?_⟩
    rw [Nat.pow_succ] at hj
    rw [exS, List.getD_eq_getElem?_getD]
    by_cases hc : j < 2 ^ n
    · rw [if_pos hc, List.getElem?_append_left (by omega), ← List.getD_eq_getElem?_getD]
      exact ih j hc
    · rw [if_neg hc, List.getElem?_append_right (by omega), hl, List.getElem?_map]
      have hk : j - 2 ^ n < l'.length := by omega
      have hi := ih (j - 2 ^ n) (by omega)
      rw [List.getD_eq_getElem?_getD, List.getElem?_eq_getElem hk] at hi
      rw [List.getElem?_eq_getElem hk]
      simp only [Option.map_some, Option.getD_some] at hi ⊢
      have c : Cg ((l'[j - 2 ^ n] * r).fmod 8380417) (l'[j - 2 ^ n] * r) := by
        rw [Int.fmod_eq_emod_of_nonneg _ (by decide)]
        exact cg_mod _
      refine c.trans ((hi.mul (pwi_cg p)).trans ⟨0, ?_⟩)
      rw [Int.pow_add]
      grind
theorem p512 : Cg ((1753 : Int) ^ 512) 1 := Int.dvd_of_emod_eq_zero (by decide +kernel)
theorem Cg.pow {a b : Int} (h : Cg a b) : ∀ n : Nat, Cg (a ^ n) (b ^ n)
  | 0 => by simp [Cg.refl]
  | n + 1 => by rw [Int.pow_succ, Int.pow_succ]; exact (Cg.pow h n).mul h
theorem pow_mod512 (a : Nat) : Cg ((1753 : Int) ^ (a % 512)) (1753 ^ a) := by
  have e : a = 512 * (a / 512) + a % 512 := (Nat.div_add_mod a 512).symm
  have h := ((p512.pow (a / 512)).mul (Cg.refl ((1753 : Int) ^ (a % 512)))).symm
  rw [← Int.pow_mul, ← Int.pow_add, ← e, Int.one_pow, Int.one_mul] at h
  exact h
theorem exS_cg {X Y : Nat → Int} (e : Nat) (h : ∀ i, Cg (1753 ^ (X i).toNat) (1753 ^ (e * (Y i).toNat))) : ∀ n j, Cg (1753 ^ exS X n j) (1753 ^ (e * exS Y n j))
  | 0, j => by simp [exS, Cg.refl]
  | n + 1, j => by
    rw [exS, exS]
    split
    · exact exS_cg e h n j
    · rw [Nat.mul_add, Int.pow_add, Int.pow_add]
      exact (exS_cg e h n _).mul (h n)
end Mine
end
section
open PySem PySem.W PyProof.Rows
set_option maxRecDepth 100000
namespace Mine
theorem rt_cg (j : Nat) : Cg (rt j) (1753 ^ (2 * brv j + 1)) := by
  unfold rt rN
  rw [powMod_is]
  have e : ((1753 : Int) ^ (2 * brv j + 1)) = ((1753 ^ (2 * brv j + 1) : Nat) : Int) := by rw [Int.natCast_pow]; rfl
  rw [e]
  generalize 1753 ^ (2 * brv j + 1) = z
  exact ⟨-((z / 8380417 : Nat) : Int), by omega⟩
def exY (i : Nat) : Int := ((2 ^ ((8 : Int) - (0 + (i : Int))).toNat : Nat) : Int)
theorem exY_brv : ((List.range 256).all fun j => exS exY 8 j == 2 * brv j) = true := by decide +kernel
theorem left_at {a r : Int} {en : Nat} {l : List Int} (hp : PwI (en : Int) r) (P : PowsL ((a * r).fmod 8380417) (xsOf (en : Int) 8) l) {j : Nat} (hj : j < 256) : Cg (l.getD j 0) (a * rt j ^ en) := by
  have h := (pows_at 8 l P).2 j hj
  refine h.trans ?_
  have c1 : Cg ((a * r).fmod 8380417) (a * 1753 ^ en) := by
    rw [Int.fmod_eq_emod_of_nonneg _ (by decide)]
    have := (Cg.refl a).mul (pwi_cg hp)
    exact (cg_mod _).trans this
  have c2 := exS_cg (X := fun j : Nat => ((2 : Int) ^ ((8 : Int) - (0 + (j : Int))).toNat * (en : Int)).fmod 512) (Y := exY) en (fun i => by
    have e1 : (((2 : Int) ^ ((8 : Int) - (0 + (i : Int))).toNat * (en : Int)).fmod 512).toNat = (2 ^ ((8 : Int) - (0 + (i : Int))).toNat * en) % 512 := by
      rw [Int.fmod_eq_emod_of_nonneg _ (by decide)]
      have e2 : ((2 : Int) ^ ((8 : Int) - (0 + (i : Int))).toNat * (en : Int)) = ((2 ^ ((8 : Int) - (0 + (i : Int))).toNat * en : Nat) : Int) := by rw [Int.natCast_mul, Int.natCast_pow]; rfl
      rw [e2]
      generalize 2 ^ ((8 : Int) - (0 + (i : Int))).toNat * en = z
      omega
    rw [e1]
    refine (pow_mod512 _).trans ?_
    have e3 : (exY i).toNat = 2 ^ ((8 : Int) - (0 + (i : Int))).toNat := by unfold exY; exact Int.toNat_natCast _
    rw [e3, Nat.mul_comm]
    exact Cg.refl _) 8 j
  have e4 : exS exY 8 j = 2 * brv j := beq_iff_eq.mp (List.all_eq_true.mp exY_brv j (List.mem_range.mpr hj))
  rw [e4] at c2
  have c3 := (rt_cg j).pow en
  rw [← Int.pow_mul] at c3
  refine (c1.mul c2).trans ?_
  have c4 := (Cg.refl a).mul c3.symm
  refine Cg.trans ⟨0, ?_⟩ c4
  rw [Nat.add_mul, Int.pow_add, Nat.one_mul, Nat.mul_comm (2 * brv j) en]
  grind
end Mine
end
section
open PySem PySem.W PyProof.Rows
set_option maxRecDepth 100000
namespace Mine
def exZ (i : Nat) : Int := if i = 0 then 256 else 128
theorem exZ_brv : ((List.range 256).all fun j => 64 * (2 * brv j + 1) % 512 == (64 + exS exZ 2 (j / 64)) % 512) = true := by decide +kernel
theorem rep4 (v0 v1 v2 v3 : Int) {j : Nat} (hj : j < 256) : (List.replicate 64 v0 ++ List.replicate 64 v1 ++ List.replicate 64 v2 ++ List.replicate 64 v3).getD j 0 = if j < 64 then v0 else if j < 128 then v1 else if j < 192 then v2 else v3 := by
  rw [List.getD_eq_getElem?_getD, List.getElem?_append, List.getElem?_append, List.getElem?_append]
  simp only [List.length_append, List.length_replicate, List.getElem?_replicate]
  repeat' split
  all_goals first | rfl | (exfalso; omega)
theorem runs_at {f : Int → Int} {ns : List Int} (h : RunsL f ns) (hf : ∀ x y, Cg x y → Cg (f x) (f y)) {j : Nat} (hj : j < 256) : Cg (ns.getD j 0) (f (rt j ^ 64)) := by
  obtain ⟨hr, P, e⟩ := h
  rename_i r l
  obtain ⟨hl, hP⟩ := pows_at (X := exZ) 2 l P
  have hq : j / 64 < 4 := by omega
  have key : ns.getD j 0 = f (l.getD (j / 64) 0) := by
    rw [e, rep4 _ _ _ _ hj]
    have c : j / 64 = 0 ∨ j / 64 = 1 ∨ j / 64 = 2 ∨ j / 64 = 3 := by omega
    rcases c with c | c | c | c <;> rw [c] <;> (repeat' split) <;> first | rfl | (exfalso; omega)
  rw [key]
  refine hf _ _ ((hP _ hq).trans ?_)
  have c1 := ((pwi_cg hr).mul (Cg.refl ((1753 : Int) ^ exS exZ 2 (j / 64))))
  have e64 : (64 : Int).toNat = 64 := rfl
  rw [e64, ← Int.pow_add] at c1
  refine c1.trans ?_
  have e5 := beq_iff_eq.mp (List.all_eq_true.mp exZ_brv j (List.mem_range.mpr hj))
  have c2 := (pow_mod512 (64 + exS exZ 2 (j / 64))).symm
  rw [← e5] at c2
  refine c2.trans ((pow_mod512 _).trans ?_)
  have c3 := ((rt_cg j).pow 64).symm
  rw [← Int.pow_mul, Nat.mul_comm] at c3
  exact c3
end Mine
end
section
namespace Mine
theorem ev_set (r : Int) (cs : List Int) (k : Nat) (x : Int) (hk : k < cs.length) : ∀ n, ev r (fun t => (cs.set k x).getD t 0) n = ev r (fun t => cs.getD t 0) n + (if k < n then (x - cs.getD k 0) * r ^ k else 0)
  | 0 => by simp [ev]
  | n + 1 => by
    rw [ev, ev, ev_set r cs k x hk n, getD_set]
    by_cases h : n = k
    · subst h
      simp only [Nat.lt_irrefl, if_false, hk, and_self, if_true, Nat.lt_succ_self]
      grind
    · by_cases h2 : k < n
      · have h3 : k < n + 1 := by omega
        simp only [h, false_and, if_false, h2, h3, if_true]
        grind
      · have h3 : ¬ k < n + 1 := by omega
        simp only [h, false_and, if_false, h2, h3]
        grind
theorem E_set (r : Int) {cs : List Int} {k : Nat} (x : Int) (hc : cs.length = 256) (hk : k < 256) : E r (cs.set k x) 0 256 = E r cs 0 256 + (x - cs.getD k 0) * r ^ k := by
  have h := ev_set r cs k x (by omega) 256
  rw [if_pos hk] at h
  unfold E
  simp only [Nat.zero_add]
  exact h
end Mine
end
section
open PySem PySem.W PyProof.Rows
set_option maxRecDepth 100000
namespace Mine
theorem chkZ_ok : ((List.range 8).all fun k => (List.range (2 ^ k)).all fun b => zN (2 ^ (k + 1) - (b + 1)) * zN (2 ^ k - 1 + b + 1) % 8380417 == 8380416 && decide (2 ^ (k + 1) - (b + 1) < 256 ∧ 2 ^ k - 1 + b + 1 < 256)) = true := by decide +kernel
theorem zeta_ok : ZetaOk zetaL := by
  intro k hk b hb
  have h := List.all_eq_true.mp (List.all_eq_true.mp chkZ_ok k (List.mem_range.mpr hk)) b (List.mem_range.mpr hb)
  rw [Bool.and_eq_true] at h
  obtain ⟨h1, h2⟩ := h
  obtain ⟨h3, h4⟩ := of_decide_eq_true h2
  rw [zetaL_at h3, zetaL_at h4]
  have h1 := beq_iff_eq.mp h1
  generalize zN (2 ^ (k + 1) - (b + 1)) = x at h1
  generalize zN (2 ^ k - 1 + b + 1) = y at h1
  refine ⟨-((x * y / 8380417 : Nat) : Int) - 1, ?_⟩
  rw [Int.neg_mul, ← Int.natCast_mul]
  generalize x * y = z at h1
  omega
end Mine
end
section
open PySem PySem.W PyProof.Rows
set_option maxRecDepth 100000
namespace Mine
theorem p256 : Cg ((1753 : Int) ^ 256) (-1) := Int.dvd_of_emod_eq_zero (by decide +kernel)
theorem rt_256 (j : Nat) : Cg (rt j ^ 256) (-1) := by
  have h := (rt_cg j).pow 256
  have e : (2 * brv j + 1) * 256 = 512 * brv j + 256 := by omega
  rw [← Int.pow_mul, e, Int.pow_add, Int.pow_mul] at h
  have h2 := (p512.pow (brv j)).mul p256
  rw [Int.one_pow] at h2
  exact h.trans h2
theorem E_turn {r x t : Int} {k : Nat} {cs : List Int} (hr : Cg (r ^ 256) (-1)) (hc : cs.length = 256) (hk : k < 512) (ht : Cg t (if k < 256 then x else -x)) (h0 : cs.getD (k % 256) 0 = 0) :
    Cg (E r (cs.set (k % 256) t) 0 256) (E r cs 0 256 + x * r ^ k) := by
  rw [E_set r t hc (Nat.mod_lt _ (by decide)), h0, Int.sub_zero]
  refine (Cg.refl _).add ?_
  by_cases h : k < 256
  · rw [if_pos h] at ht
    rw [Nat.mod_eq_of_lt h]
    exact ht.mul (Cg.refl _)
  · rw [if_neg h] at ht
    have e : k % 256 = k - 256 := by omega
    have e2 : r ^ k = r ^ 256 * r ^ (k - 256) := by rw [← Int.pow_add, show 256 + (k - 256) = k by omega]
    rw [e, e2]
    have c := (Cg.refl x).mul (hr.mul (Cg.refl (r ^ (k - 256))))
    refine (ht.mul (Cg.refl _)).trans (Cg.trans ⟨0, ?_⟩ c.symm)
    grind
theorem ev_zero (r : Int) : ∀ n, ev r (fun _ => 0) n = 0
  | 0 => rfl
  | n + 1 => by rw [ev, ev_zero r n]; simp
theorem getD_rep (n k : Nat) : (List.replicate n (0 : Int)).getD k 0 = 0 := by
  rw [List.getD_eq_getElem?_getD, List.getElem?_replicate]
  split <;> rfl
theorem E_rep (r : Int) : E r (List.replicate 256 (0 : Int)) 0 256 = 0 := by
  unfold E
  simp only [getD_rep]
  exact ev_zero r 256
def prodOf (e : Nat) (t0 t1 t2 t3 : Int) : List Int :=
  ((((List.replicate 256 (0 : Int)).set (e % 256) t0).set ((e + 64) % 256) t1).set ((e + 128) % 256) t2).set ((e + 192) % 256) t3
theorem prodOf_len (e : Nat) (t0 t1 t2 t3 : Int) : (prodOf e t0 t1 t2 t3).length = 256 := by
  unfold prodOf
  rw [List.length_set, List.length_set, List.length_set, List.length_set, List.length_replicate]
theorem prod_E {r x0 x1 x2 x3 t0 t1 t2 t3 : Int} {e : Nat} (hr : Cg (r ^ 256) (-1)) (he : e < 256) (h0 : Cg t0 x0) (h1 : Cg t1 (if e + 64 < 256 then x1 else -x1)) (h2 : Cg t2 (if e + 128 < 256 then x2 else -x2)) (h3 : Cg t3 (if e + 192 < 256 then x3 else -x3)) :
    Cg (E r (prodOf e t0 t1 t2 t3) 0 256) (x0 * r ^ e + x1 * r ^ (e + 64) + x2 * r ^ (e + 128) + x3 * r ^ (e + 192)) := by
  unfold prodOf
  have z0 := E_turn (t := t0) (x := x0) (k := e) (cs := List.replicate 256 (0 : Int)) hr List.length_replicate (by omega) (by rw [if_pos he]; exact h0) (getD_rep _ _)
  rw [E_rep, Int.zero_add] at z0
  have z1 := E_turn (t := t1) (x := x1) (k := e + 64) (cs := (List.replicate 256 (0 : Int)).set (e % 256) t0) hr (by rw [List.length_set, List.length_replicate]) (by omega) h1 (by
    rw [getD_set, if_neg (by omega), getD_rep])
  have z2 := E_turn (t := t2) (x := x2) (k := e + 128) (cs := ((List.replicate 256 (0 : Int)).set (e % 256) t0).set ((e + 64) % 256) t1) hr (by rw [List.length_set, List.length_set, List.length_replicate]) (by omega) h2 (by
    rw [getD_set, if_neg (by omega), getD_set, if_neg (by omega), getD_rep])
  have z3 := E_turn (t := t3) (x := x3) (k := e + 192) (cs := (((List.replicate 256 (0 : Int)).set (e % 256) t0).set ((e + 64) % 256) t1).set ((e + 128) % 256) t2) hr (by rw [List.length_set, List.length_set, List.length_set, List.length_replicate]) (by omega) h3 (by
    rw [getD_set, if_neg (by omega), getD_set, if_neg (by omega), getD_set, if_neg (by omega), getD_rep])
  refine z3.trans (Cg.add ?_ (Cg.refl _))
  refine z2.trans (Cg.add ?_ (Cg.refl _))
  exact z1.trans (Cg.add z0 (Cg.refl _))
theorem two_at {a r0 g0 g1 g2 g3 t0 t1 t2 t3 : Int} {e : Nat} {ls rs : List Int} (he : e < 256) (hp : PwI (e : Int) r0) (P : PowsL ((a * r0).fmod 8380417) (xsOf (e : Int) 8) ls) (R : RunsL (fun y => (g0 + y * (g1 + y * (g2 + y * g3))).fmod 8380417) rs)
    (h0 : Cg t0 (a * g0)) (h1 : Cg t1 (if e + 64 < 256 then a * g1 else -(a * g1))) (h2 : Cg t2 (if e + 128 < 256 then a * g2 else -(a * g2))) (h3 : Cg t3 (if e + 192 < 256 then a * g3 else -(a * g3))) {j : Nat} (hj : j < 256) :
    Cg (ls.getD j 0 * rs.getD j 0) (E (rt j) (prodOf e t0 t1 t2 t3) 0 256) := by
  have A := left_at hp P hj
  have F : ∀ x y, Cg x y → Cg ((g0 + x * (g1 + x * (g2 + x * g3))).fmod 8380417) ((g0 + y * (g1 + y * (g2 + y * g3))).fmod 8380417) := by
    intro x y h
    rw [Int.fmod_eq_emod_of_nonneg _ (by decide), Int.fmod_eq_emod_of_nonneg _ (by decide)]
    refine (cg_mod _).trans (Cg.trans ?_ (cg_mod _).symm)
    exact (Cg.refl g0).add (h.mul ((Cg.refl g1).add (h.mul ((Cg.refl g2).add (h.mul (Cg.refl g3))))))
  have B := runs_at R F hj
  have B2 : Cg ((g0 + rt j ^ 64 * (g1 + rt j ^ 64 * (g2 + rt j ^ 64 * g3))).fmod 8380417) (g0 + rt j ^ 64 * (g1 + rt j ^ 64 * (g2 + rt j ^ 64 * g3))) := by
    rw [Int.fmod_eq_emod_of_nonneg _ (by decide)]
    exact cg_mod _
  have C := prod_E (rt_256 j) he h0 h1 h2 h3
  refine (A.mul (B.trans B2)).trans (Cg.trans ⟨0, ?_⟩ C.symm)
  have e64 : rt j ^ (e + 64) = rt j ^ e * rt j ^ 64 := Int.pow_add ..
  have e128 : rt j ^ (e + 128) = rt j ^ e * (rt j ^ 64 * rt j ^ 64) := by rw [← Int.pow_add, ← Int.pow_add]
  have e192 : rt j ^ (e + 192) = rt j ^ e * (rt j ^ 64 * (rt j ^ 64 * rt j ^ 64)) := by rw [← Int.pow_add, ← Int.pow_add, ← Int.pow_add]
  rw [e64, e128, e192]
  generalize rt j ^ 64 = y
  generalize rt j ^ e = z
  grind
end Mine
end
section
open PySem PySem.W PyProof.Rows
set_option maxRecDepth 100000
namespace Mine
theorem prod_list {e t0 t1 t2 t3 i0 i1 i2 i3 : Int} {zs l0 l1 l2 l3 : List Int} (he : 0 ≤ e ∧ e < 256) (Z : ZeroL zs) (m0 : ModOf (e + 64 * 0) i0) (m1 : ModOf (e + 64 * 1) i1) (m2 : ModOf (e + 64 * 2) i2) (m3 : ModOf (e + 64 * 3) i3)
    (s0 : SetAt zs i0 t0 l0) (s1 : SetAt l0 i1 t1 l1) (s2 : SetAt l1 i2 t2 l2) (s3 : SetAt l2 i3 t3 l3) : l3 = prodOf e.toNat t0 t1 t2 t3 := by
  obtain ⟨rfl⟩ := Z
  obtain ⟨rfl⟩ := s0
  obtain ⟨rfl⟩ := s1
  obtain ⟨rfl⟩ := s2
  obtain ⟨rfl⟩ := s3
  obtain ⟨rfl, _, _⟩ := m0
  obtain ⟨rfl, _, _⟩ := m1
  obtain ⟨rfl, _, _⟩ := m2
  obtain ⟨rfl, _, _⟩ := m3
  obtain ⟨h1, h2⟩ := he
  simp only [Int.fmod_eq_emod_of_nonneg _ (show (0 : Int) ≤ 256 by decide)]
  have a0 : ((e + 64 * 0) % 256).toNat = e.toNat % 256 := by omega
  have a1 : ((e + 64 * 1) % 256).toNat = (e.toNat + 64) % 256 := by omega
  have a2 : ((e + 64 * 2) % 256).toNat = (e.toNat + 128) % 256 := by omega
  have a3 : ((e + 64 * 3) % 256).toNat = (e.toNat + 192) % 256 := by omega
  rw [a0, a1, a2, a3]
  rfl
theorem term_cg {a g sp n t : Int} {k : Nat} (h : TermIs a g sp n) (e : (sp < 256) = (k < 256)) (ht : Cg t n) : Cg t (if k < 256 then a * g else -(a * g)) := by
  obtain ⟨h⟩ := h
  rw [h] at ht
  rw [Int.neg_mul] at ht
  by_cases c : k < 256
  · rw [if_pos c]
    rw [if_pos (e.mpr c)] at ht
    exact ht
  · rw [if_neg c]
    rw [if_neg (fun h => c (e.mp h))] at ht
    exact ht
section
variable {a r0 g0 g1 g2 g3 t0 t1 t2 t3 n0 n1 n2 n3 i0 i1 i2 i3 e : Int} {ls rs zs l0 l1 l2 l3 os : List Int}
theorem two_atI (he : 0 ≤ e ∧ e < 256) (hp : PwI e r0) (P : PowsL ((a * r0).fmod 8380417) (xsOf e 8) ls) (R : RunsL (fun y => (g0 + y * (g1 + y * (g2 + y * g3))).fmod 8380417) rs)
    (T0 : TermIs a g0 (e + 64 * 0) n0) (T1 : TermIs a g1 (e + 64 * 1) n1) (T2 : TermIs a g2 (e + 64 * 2) n2) (T3 : TermIs a g3 (e + 64 * 3) n3) (c0 : Cg t0 n0) (c1 : Cg t1 n1) (c2 : Cg t2 n2) (c3 : Cg t3 n3) {j : Nat} (hj : j < 256) :
    Cg (ls.getD j 0 * rs.getD j 0) (E (rt j) (prodOf e.toNat t0 t1 t2 t3) 0 256) := by
  obtain ⟨h1, h2⟩ := he
  obtain ⟨en, rfl⟩ := Int.eq_ofNat_of_zero_le h1
  have d0 := term_cg (k := en) T0 (by apply propext; constructor <;> intro <;> omega) c0
  have d1 := term_cg (k := en + 64) T1 (by apply propext; constructor <;> intro <;> omega) c1
  have d2 := term_cg (k := en + 128) T2 (by apply propext; constructor <;> intro <;> omega) c2
  have d3 := term_cg (k := en + 192) T3 (by apply propext; constructor <;> intro <;> omega) c3
  rw [if_pos (by omega)] at d0
  exact two_at (by omega) hp P R d0 d1 d2 d3 hj
theorem ext256 {as bs : List Int} (ha : as.length = 256) (hb : bs.length = 256) (h : ∀ j, j < 256 → as.getD j 0 = bs.getD j 0) : as = bs := by
  refine List.ext_getElem (by rw [ha, hb]) fun i h1 h2 => ?_
  have t := h i (by omega)
  rw [List.getD_eq_getElem?_getD, List.getD_eq_getElem?_getD, List.getElem?_eq_getElem h1, List.getElem?_eq_getElem h2] at t
  exact t
theorem zip_len (hl : ls.length = 256) (hr : rs.length = 256) : (List.zipWith (fun a b => (a * b).fmod 8380417) ls rs).length = 256 := by
  rw [List.length_zipWith, hl, hr]
  rfl
theorem zip_at (hl : ls.length = 256) (hr : rs.length = 256) {j : Nat} (hj : j < 256) : (List.zipWith (fun a b => (a * b).fmod 8380417) ls rs).getD j 0 = (ls.getD j 0 * rs.getD j 0).fmod 8380417 := by
  rw [List.getD_eq_getElem?_getD, List.getD_eq_getElem?_getD, List.getD_eq_getElem?_getD, List.getElem?_zipWith, List.getElem?_eq_getElem (by omega), List.getElem?_eq_getElem (by omega)]
  rfl
theorem end1 (he : 0 ≤ e ∧ e < 256) (hp : PwI e r0) (P : PowsL ((a * r0).fmod 8380417) (xsOf e 8) ls) (R : RunsL (fun y => (g0 + y * (g1 + y * (g2 + y * g3))).fmod 8380417) rs) (hl : ls.length = 256) (hr : rs.length = 256)
    (Z : ZeroL zs) (m0 : ModOf (e + 64 * 0) i0) (m1 : ModOf (e + 64 * 1) i1) (m2 : ModOf (e + 64 * 2) i2) (m3 : ModOf (e + 64 * 3) i3)
    (s0 : SetAt zs i0 n0 l0) (s1 : SetAt l0 i1 n1 l1) (s2 : SetAt l1 i2 n2 l2) (s3 : SetAt l2 i3 n3 l3)
    (T0 : TermIs a g0 (e + 64 * 0) n0) (T1 : TermIs a g1 (e + 64 * 1) n1) (T2 : TermIs a g2 (e + 64 * 2) n2) (T3 : TermIs a g3 (e + 64 * 3) n3) (hN : ToNtt l3 os) : os = List.zipWith (fun a b => (a * b).fmod 8380417) ls rs := by
  have h3 := prod_list he Z m0 m1 m2 m3 s0 s1 s2 s3
  obtain ⟨hO⟩ := hN
  rw [hO, h3]
  refine ext256 (by rw [modTo_len, ntt_len, prodOf_len]) (zip_len hl hr) fun j hj => ?_
  rw [toNtt_at roots_ok (prodOf_len ..) hj, zip_at hl hr hj, Int.fmod_eq_emod_of_nonneg _ (by decide)]
  exact (two_atI he hp P R T0 T1 T2 T3 (Cg.refl _) (Cg.refl _) (Cg.refl _) (Cg.refl _) hj).symm.emod
theorem prodOf_rng {e : Nat} (h0 : 0 ≤ t0 ∧ t0 < 8380417) (h1 : 0 ≤ t1 ∧ t1 < 8380417) (h2 : 0 ≤ t2 ∧ t2 < 8380417) (h3 : 0 ≤ t3 ∧ t3 < 8380417) : ∀ y ∈ prodOf e t0 t1 t2 t3, 0 ≤ y ∧ y < 8380417 := by
  intro y hy
  unfold prodOf at hy
  rcases List.mem_or_eq_of_mem_set hy with hy | rfl
  · rcases List.mem_or_eq_of_mem_set hy with hy | rfl
    · rcases List.mem_or_eq_of_mem_set hy with hy | rfl
      · rcases List.mem_or_eq_of_mem_set hy with hy | rfl
        · rw [(List.mem_replicate.mp hy).2]
          decide
        · exact h0
      · exact h1
    · exact h2
  · exact h3
theorem map_same {cs : List Int} (h : ∀ y ∈ cs, 0 ≤ y ∧ y < 8380417) : (cs.map fun c => c % 8380417) = cs := by
  refine (List.map_congr_left fun c hc => ?_).trans (List.map_id cs)
  obtain ⟨h1, h2⟩ := h c hc
  show c % 8380417 = c
  omega
theorem fmod_rng (t : Int) : 0 ≤ t.fmod 8380417 ∧ t.fmod 8380417 < 8380417 := fmq t
theorem end0 (he : 0 ≤ e ∧ e < 256) (hp : PwI e r0) (P : PowsL ((a * r0).fmod 8380417) (xsOf e 8) ls) (R : RunsL (fun y => (g0 + y * (g1 + y * (g2 + y * g3))).fmod 8380417) rs) (hl : ls.length = 256) (hr : rs.length = 256)
    (Z : ZeroL zs) (m0 : ModOf (e + 64 * 0) i0) (m1 : ModOf (e + 64 * 1) i1) (m2 : ModOf (e + 64 * 2) i2) (m3 : ModOf (e + 64 * 3) i3)
    (s0 : SetAt zs i0 (n0.fmod 8380417) l0) (s1 : SetAt l0 i1 (n1.fmod 8380417) l1) (s2 : SetAt l1 i2 (n2.fmod 8380417) l2) (s3 : SetAt l2 i3 (n3.fmod 8380417) l3)
    (T0 : TermIs a g0 (e + 64 * 0) n0) (T1 : TermIs a g1 (e + 64 * 1) n1) (T2 : TermIs a g2 (e + 64 * 2) n2) (T3 : TermIs a g3 (e + 64 * 3) n3) (hN : FromNtt (List.zipWith (fun a b => (a * b).fmod 8380417) ls rs) os) : os = l3 := by
  have h3 := prod_list he Z m0 m1 m2 m3 s0 s1 s2 s3
  obtain ⟨hO⟩ := hN
  rw [hO]
  clear hO
  have hc : (prodOf e.toNat (n0.fmod 8380417) (n1.fmod 8380417) (n2.fmod 8380417) (n3.fmod 8380417)).length = 256 := prodOf_len ..
  have key : CgL 1 (List.zipWith (fun a b => (a * b).fmod 8380417) ls rs) (ntt zetaL 8 (prodOf e.toNat (n0.fmod 8380417) (n1.fmod 8380417) (n2.fmod 8380417) (n3.fmod 8380417))) := by
    intro j
    rw [Int.one_mul]
    by_cases hj : j < 256
    · rw [zip_at hl hr hj]
      exact (cg_fmod _).trans ((two_atI he hp P R T0 T1 T2 T3 (cg_fmod _) (cg_fmod _) (cg_fmod _) (cg_fmod _) hj).trans (ntt_at roots_ok hc hj).symm)
    · rw [List.getD_eq_getElem?_getD, List.getD_eq_getElem?_getD, List.getElem?_eq_none (by rw [zip_len hl hr]; omega), List.getElem?_eq_none (by rw [ntt_len, hc]; omega)]
      exact Cg.refl _
  rw [fromNtt_all zeta_ok hc (zip_len hl hr) key, map_same (prodOf_rng (fmod_rng _) (fmod_rng _) (fmod_rng _) (fmod_rng _)), h3]
end
end Mine
end
section
open PySem PySem.W PyProof.Rows PySem.Calls PySem.Spec PySem.NumText
set_option maxRecDepth 100000
namespace Mine
local macro_rules | `(tactic| k_room) => `(tactic| first | (refine lt_rl ?_; (try simp only [depth_under_make, depth_under_kw, depth_in1, depth_deeper, depth_caller]); (try dsimp only [ktrTop]); omega) | ((try simp only [depth_under_make, depth_under_kw, depth_in1, depth_deeper, depth_caller]); (try dsimp only [ktrTop]); omega))
local macro_rules | `(tactic| k_units) => `(tactic| first | (refine lt_cl ?_; (try simp only [units_in1, units_deeper, units_under_make, Around.mark_units, units_caller]); (try dsimp only [ktrTop]); omega) | ((try simp only [units_in1, units_deeper, units_under_make, Around.mark_units, units_caller]); (try dsimp only [ktrTop]); omega))
local macro_rules | `(tactic| ktr_room) => `(tactic| k_room)
local macro_rules | `(tactic| ktr_units) => `(tactic| k_units)
local macro_rules | `(tactic| k_enter) => `(tactic| (refine' code_defC ?k1 ?k2 ?k3 ?k4 ?k5 ?kA ?kF ?kK ?k6 ?k7 ?k8 ?k9 ?kB ?kD ?_ ?c2 ?c3 ?c4; (case kA => exact rfl); (case kF => exact rfl); (case kK => first | exact rfl | assumption); (case k1 => k_asm); (case k2 => k_asm); (case k3 => k_asm); (case k4 => k_asm); (case k5 => k_asm); (case k6 => k_is); (case k7 => k_is); (case k8 => k_room); (case k9 => first | exact BindsTo.of_eq rfl | exact binds_K (by k_in) rfl (by k_is) rfl rfl rfl | fail "k_enter: no rule for these arguments"); (case kB => exact rfl); (case kD => decide +kernel); (case c2 => exact rfl); (case c3 => exact rfl); (case c4 => exact rfl); k_whole; intro g' L' h' tk' cells' FG' F' N' Y' B' X' T' l1; (try k_lt l1); k_cells Y'; (try simp only [List.cons_append, List.nil_append] at N'); (try dsimp only); (try k_lift B'); (try k_fold)))
local macro_rules | `(tactic| k_enter) => `(tactic| (refine' code_def ?k1 ?k2 ?k3 ?k4 ?k5 ?kA ?kF ?kK ?k6 ?k7 ?k8 ?k9 ?kB ?_ ?c2 ?c3 ?c4 ?c5; (case kA => exact rfl); (case kF => exact rfl); (case kK => first | exact rfl | assumption); (case k1 => k_asm); (case k2 => k_asm); (case k3 => k_asm); (case k4 => k_asm); (case k5 => k_asm); (case k6 => k_is); (case k7 => k_is); (case k8 => k_room); (case k9 => first | exact BindsTo.of_eq rfl | exact binds_K (by k_in) rfl (by k_is) rfl rfl rfl | fail "k_enter: no rule for these arguments"); (case c5 => decide); (case kB => exact locs rfl); (case c2 => exact rfl); (case c3 => exact rfl); (case c4 => exact rfl); k_whole; intro g' L' h' FG' F' N' B' X' T'; (try dsimp only); (try k_lift B'); (try k_fold)))
local macro_rules | `(tactic| cell_enter) => `(tactic| (refine' enterF ?k1 ?k2 ?k3 ?k4 ?kdis ?k5 ?kA ?kF ?kK ?k6 ?k7 ?k8 ?k9 ?kB ?_ ?c2 ?c3 ?c4 ?c5; (case kA => exact rfl); (case kF => exact rfl); (case kK => first | exact rfl | assumption); (case k1 => k_asm); (case k2 => k_asm); (case k3 => k_asm); (case k4 => assumption); (case kdis => assumption); (case k5 => k_asm); (case k6 => k_is); (case k7 => k_is); (case k8 => k_room); (case k9 => first | exact BindsTo.of_eq rfl | exact binds_K (by k_in) rfl (by k_is) rfl rfl rfl | fail "k_enter: no rule for these arguments"); (case c5 => decide); (case kB => exact locs rfl); (case c2 => exact rfl); (case c3 => exact rfl); (case c4 => exact rfl); k_whole; intro g' L' h' F' N' B' X' T' l1; (try k_lt l1); (try dsimp only); (try k_fold)))
local macro_rules | `(tactic| ktr_enter) => `(tactic| (refine' enterFC ?k1 ?k2 ?k3 ?k4 ?kdis ?k5 ?kA ?kF ?kK ?k6 ?k7 ?k8 ?k9 ?kB ?kD ?_ ?c2 ?c3 ?c4; (case kA => exact rfl); (case kF => exact rfl); (case kK => first | exact rfl | assumption); (case k1 => k_asm); (case k2 => k_asm); (case k3 => k_asm); (case k4 => assumption); (case kdis => assumption); (case k5 => k_asm); (case k6 => k_is); (case k7 => k_is); (case k8 => k_room); (case k9 => first | exact BindsTo.of_eq rfl | exact binds_K (by k_in) rfl (by k_is) rfl rfl rfl | fail "k_enter: no rule for these arguments"); (case kB => exact rfl); (case kD => decide +kernel); (case c2 => exact rfl); (case c3 => exact rfl); (case c4 => exact rfl); k_whole; intro g' L' h' tk' cells' F' N' Y' B' X' T' l1; (try k_lt l1); k_cells Y'; (try simp only [List.cons_append, List.nil_append] at N'); (try dsimp only); (try k_fold)))
local macro_rules | `(tactic| walk_at "subscriptTail Name Slice ref ref") => `(tactic| (k_here; (with_reducible show wpAny _ _ (subscriptTail _ (PySem.Expr.Slice none none none _) (Value.ref _) (Value.ref _)) _ _ _); k_dflt (refine' slice_all ?F ?N ?l ?z ?_ ?s ?t; (case F => k_asm); (case N => k_asm); (case l => k_mem); (case z => first | omega | assumption); (case s => with_unfolding_all rfl); (case t => kmk_pure)); intro D' h' F' N' l1; (try k_lt l1); (try k_sweep)))
local macro_rules | `(tactic| ksw_same) => `(tactic| (intro z h2 h3; (try simp only [List.forall_mem_cons, List.not_mem_nil, false_implies, implies_true, and_true, ne_eq] at h2); (try simp only [List.contains_cons, List.contains_nil, Bool.or_false, Bool.or_eq_false_iff, beq_eq_false_iff_ne, ne_eq] at h3); simp [frS, kstB, h2, h3]))
local macro_rules | `(tactic| walk_at "getMethod ref") => `(tactic| (k_here; k_dflt (first
  | (refine' method_inst ?k1 ?k2 ?k3 ?k4 ?k5 ?k6 ?k7 ?_; (case k1 => k_asm); (case k2 => k_asm); (case k3 => k_inst); (case k4 => k_is); (case k5 => k_is); (case k6 => k_is); (case k7 => k_get); k_whole)
  | (refine' kmu_own ?k1 ?k2 ?k3 ?k4 ?k5 ?_; (case k1 => k_asm); (case k2 => k_asm); (case k3 => k_inst); (case k4 => k_is); (case k5 => k_is); k_whole))))
local macro_rules | `(tactic| walk_at "callWith") => `(tactic| (k_here; (with_reducible show wpAny _ _ (callWith _ _ _ _ (backToKw _ _)) _ _ _); k_dflt (show wpAny _ _ (callWith _ (Value.ref _) _ (backTo _ (starEach (_ :: _) _)) (backToKw _ (keywordEach (_ :: _) _))) _ _ _); k_dflt (refine' kco_callWithKW ?k1 ?k2 ?k3 ?_; (case k1 => k_inst); (case k2 => rfl); (case k3 => rfl); k_whole)))
local macro_rules | `(tactic| k_inst) => `(tactic| (refine' InstAt.of_news ?N ?h1 ?h2; (case N => with_reducible assumption); (case h1 => k_memK); (case h2 => k_memK)))
local macro_rules | `(tactic| k_in) => `(tactic| first | with_reducible assumption | exact Frag.In.keeps (by with_reducible assumption) (Fr.keep (by with_reducible assumption)))
local macro_rules | `(tactic| walk_at "callWith ref") => `(tactic| (k_here; (with_reducible show wpAny _ _ (callWith _ _ _ _ (backToKw _ _)) _ _ _); k_dflt (show wpAny _ _ (callWith _ (Value.ref _) _ (backTo _ (starEach (_ :: _) _)) (backToKw _ (keywordEach (_ :: _) _))) _ _ _); k_dflt (refine' kco_callWithKW ?k1 ?k2 ?k3 ?_; (case k1 => k_inst); (case k2 => rfl); (case k3 => rfl); k_whole)))
inductive Ends (a b : Int) : Prop
  | mk (h : a = b)
def PSec (n : Int) : Prop := -16777216 ≤ n ∧ n ≤ 16777216
theorem mul_bnd {rs : List Int} {k n : Int} (hk : k ∈ rs) (hb : Bnd rs) (hn : PSec n) : IntMulOk k n := by
  obtain ⟨h1, h2⟩ := hb k hk
  obtain ⟨h3, h4⟩ := hn
  mul_fits
theorem bk0 : ((0 : Int) == 1) = false := by decide
theorem bk1 : ((1 : Int) == 1) = true := by decide
section
variable {prog : Program} {w : World} {A : Around} {E : Value → Shared → Prop} {s : Shared} {Q : Value → Shared → Prop} {a b : Int} {t u : Tok}
theorem lt_no (hn : b ≤ a) (h : Q (.bool false) s) : wpAny (model prog w) A (compareOp .Lt (.int a t) (.int b u)) Q E s := by
  refine lt_int ?_
  rw [decide_eq_false (Int.not_lt.mpr hn)]
  exact h
theorem ge_no (hn : a < b) (h : Q (.bool false) s) : wpAny (model prog w) A (compareOp .GtE (.int a t) (.int b u)) Q E s := by
  refine PyProof.Rows.ge_int ?_
  rw [decide_eq_false (Int.not_le.mpr hn)]
  exact h
theorem ne_same (h : Q (.bool false) s) : wpAny (model prog w) A (compareOp .NotEq (.int a t) (.int a u)) Q E s := by
  refine ne_int ?_
  rw [bne_self_eq_false]
  exact h
theorem eq_same (e : a = b) (h : Q (.bool true) s) : wpAny (model prog w) A (compareOp .Eq (.int a t) (.int b u)) Q E s := by
  refine eq_int ?_
  rw [beq_iff_eq.mpr e]
  exact h
end
local macro_rules | `(tactic| walk_at "compareOp Lt int int") => `(tactic| (refine lt_no ?hn ?_; (case hn => with_reducible assumption)))
local macro_rules | `(tactic| walk_at "compareOp GtE int int") => `(tactic| (refine ge_no ?hn ?_; (case hn => with_reducible assumption)))
local macro_rules | `(tactic| walk_at "compareOp NotEq int int") => `(tactic| (with_reducible refine ne_same ?_))
local macro_rules | `(tactic| walk_at "call builtin:len") => `(tactic| (k_here; k_dflt (refine' kst_len (k := 256) ?k1 ?k2 ?k3 ?k4 ?_; (case k1 => k_asm); (case k2 => k_mem); (case k3 => with_reducible assumption); (case k4 => decide); k_whole)))
local macro_rules | `(tactic| walk_at "call builtin:isinstance") => `(tactic| (k_here; (with_reducible show wpAny _ _ (call _ [Value.ref _, Value.ref _]) _ _ _); k_dflt (first | (refine' isi_yes ?k1 ?k2 ?k3 ?k4 ?k5 ?kK ?m1 ?m2 ?_; (case k1 => k_asm); (case k2 => k_asm); (case k3 => k_asm); (case k4 => k_asm); (case k5 => k_asm); (case kK => first | exact rfl | assumption); (case m1 => k_memK); (case m2 => k_memK)) | (refine' isi_no ?k1 ?k2 ?k3 ?k4 ?k5 ?kK ?m1 ?m2 ?_; (case k1 => k_asm); (case k2 => k_asm); (case k3 => k_asm); (case k4 => k_asm); (case k5 => k_asm); (case kK => first | exact rfl | assumption); (case m1 => k_memK); (case m2 => k_memK))); intro h14 tk14 F14 N14; (try dsimp only); (try k_fold)))
local macro_rules | `(tactic| walk_at "binaryOp Mult int int") => `(tactic| (refine mul_int ?_ (mul_bnd (by with_reducible assumption) (by with_reducible assumption) (by with_reducible assumption))))
local macro_rules | `(tactic| walk_at "call ref") => `(tactic| (k_here; k_dflt (show wpAny _ _ (call (Value.ref _) [Value.ref _] []) _ _ _); k_dflt (refine' poly0_C ?k1 ?k2 ?k3 ?k4 ?k5 ?kK ?kd ?ku ?m1 ?m2 ?m3 ?kl ?n1 ?n2 ?n3 ?_; (case k1 => k_asm); (case k2 => k_asm); (case k3 => k_asm); (case k4 => k_asm); (case k5 => k_asm); (case kK => first | exact rfl | assumption); (case kd => k_room); (case ku => k_units); (case m1 => k_memK); (case m2 => k_memK); (case m3 => k_memK); (case kl => assumption); (case n1 => first | assumption | k_ne); (case n2 => first | assumption | k_ne); (case n3 => first | assumption | k_ne)); intro p9 q9 v1 v2 h10 tk10 F10 N10 o1 o2 o3; (try simp only [off_cons, off_nil_iff, and_true] at o1); (repeat (obtain ⟨_, o1⟩ := o1)); (try simp only [off_cons, off_nil_iff, and_true] at o2); (repeat (obtain ⟨_, o2⟩ := o2)); (try dsimp only); (try k_fold)))
local macro_rules | `(tactic| walk_at "call ref") => `(tactic| (k_here; (with_reducible show wpAny _ _ (call (Value.ref 392) _ _) _ _ _); k_dflt (show wpAny _ _ (call (Value.ref 392) [Value.ref 601, Value.ref 601]) _ _ _); k_dflt (refine' ring_C ?k1 ?k2 ?k3 ?k4 ?k5 ?kK ?kd ?ku ?_; (case k1 => k_asm); (case k2 => k_asm); (case k3 => k_asm); (case k4 => k_asm); (case k5 => k_asm); (case kK => first | exact rfl | assumption); (case kd => k_room); (case ku => k_units)); intro x9 d9 z9 s9 r9 zs9 u1 u2 u3 u4 u5 u6 u7 u8 u9 h9 tk9 i9 F9 N9 a9 b9 c9 e9 f9 g9; (have a9' := a9); (have b9' := b9); (have c9' := c9); (try simp only [off_cons, off_nil_iff, and_true] at a9' b9' c9'); (try dsimp only); (try k_fold); (try k_sweep)))
local macro_rules | `(tactic| walk_at "call ref") => `(tactic| (k_here; (with_reducible show wpAny _ _ (call (Value.ref 613) _ _) _ _ _); k_dflt (show wpAny _ _ (call (Value.ref 613) [Value.ref _]) _ _ _); k_dflt (refine' row_C ?k1 ?k2 ?k3 ?k4 ?k5 ?kK ?kd ?ku ?m1 ?m2 ?m3 ?_; (case k1 => k_asm); (case k2 => k_asm); (case k3 => k_asm); (case k4 => k_asm); (case k5 => k_asm); (case kK => first | exact rfl | assumption); (case kd => k_room); (case ku => k_units); (case m1 => k_mem); (case m3 => l_ints); (case m2 => (first | omega | ((try simp only [List.length_map, List.length_drop, List.length_take, rangeKs_length]); omega)))); intro r9 ws9 rs9 h9 tk9 i9 l9 b9 F9 N9 a9; (have hv9 := i9.length.trans l9); (try rw [bk0] at F9); (try rw [bk1] at F9); (have a9' := a9); (try simp only [off_cons, off_nil_iff, and_true] at a9'); (repeat (obtain ⟨_, a9'⟩ := a9')); (try dsimp only); (try k_fold); (try k_sweep)))
local macro_rules | `(tactic| walk_at "call ref") => `(tactic| (k_here; (with_reducible show wpAny _ _ (call (Value.ref 608) _ _) _ _ _); k_dflt (show wpAny _ _ (call (Value.ref 608) [Value.int _ _]) _ _ _); k_dflt (refine' less_C ?k1 ?k2 ?k3 ?k4 ?k5 ?kK ?kd ?ku ?_; (case k1 => k_asm); (case k2 => k_asm); (case k3 => k_asm); (case k4 => k_asm); (case k5 => k_asm); (case kK => first | exact rfl | assumption); (case kd => k_room); (case ku => k_units)); intro t9 h9 tk9 F9 N9; (try dsimp only); (try k_fold); (try k_sweep)))
def JInt (h₀ : Heap) (L : Addr) (m : Str → Option Value) (news : List (Addr × Obj)) (s : Shared) (P : Int → Prop) (v : Value) (s' : Shared) : Prop :=
  ∃ n t h' tk', v = .int n t ∧ s' = { s with heap := h', toks := tk' } ∧ Fr h₀ L h' m ∧ News h₀ L h' news ∧ P n
theorem jint {h₀ : Heap} {L : Addr} {m : Str → Option Value} {news : List (Addr × Obj)} {s : Shared} {P : Int → Prop} {n : Int} {t : Tok} {h' : Heap} {tk' : Nat} (F : Fr h₀ L h' m) (N : News h₀ L h' news) (p : P n) :
    JInt h₀ L m news s P (.int n t) { s with heap := h', toks := tk' } := ⟨n, t, h', tk', rfl, rfl, F, N, p⟩
theorem join_int {M : Model} {A : Around} {E : Value → Shared → Prop} {s : Shared} {h₀ : Heap} {L : Addr} {m : Str → Option Value} {news : List (Addr × Obj)} {tree : Sem Value} {Q : Value → Shared → Prop} (P : Int → Prop) (_F : Fr h₀ L s.heap m) (_N : News h₀ L s.heap news)
    (h1 : wpAny M A tree (JInt h₀ L m news s P) E s) (h2 : ∀ n t h' tk', P n → Fr h₀ L h' m → News h₀ L h' news → Q (.int n t) { s with heap := h', toks := tk' }) : wpAny M A tree Q E s :=
  wpAny_mono h1 (fun v s' ⟨n, t, h', tk', e1, e2, F, N, p⟩ => e1 ▸ e2 ▸ h2 n t h' tk' p F N) fun _ _ e => e
def PWay (n : Int) : Prop := 0 ≤ n ∧ n < 4
theorem less_sec (n : Int) : PSec (less n) := by
  unfold less PSec
  split <;> omega
theorem gen_ns {vs : List Value} {ns : List Int} (_ : IntsAre vs ns) : ∃ ns', ns' = ns := ⟨ns, rfl⟩
local macro_rules | `(tactic| walk_at "eval IfExp") => `(tactic| (k_here; (fail_if_success (with_reducible show wpAny _ _ _ (JInt _ _ _ _ _ _) _ _)); (with_reducible show wpAny _ _ (eval (PySem.Expr.IfExp _ (PySem.Expr.Call _ _ _ _) (PySem.Expr.Constant _ _ _) _) _) _ _ _); k_dflt (refine join_int PSec (by k_asm) (by k_asm) ?_ ?_); (all_goals (first | (intro n9 t9 h9 tk9 p9 F9 N9; obtain ⟨p9a, p9b⟩ := p9; (try dsimp only); (try k_fold)) | skip))))
local macro_rules | `(tactic| walk_at "eval IfExp") => `(tactic| (k_here; (fail_if_success (with_reducible show wpAny _ _ _ (JInt _ _ _ _ _ _) _ _)); (with_reducible show wpAny _ _ (eval (PySem.Expr.IfExp _ (PySem.Expr.BinOp _ _ _ _) (PySem.Expr.Constant _ _ _) _) _) _ _ _); k_dflt (refine join_int PWay (by k_asm) (by k_asm) ?_ ?_); (all_goals (first | (intro n9 t9 h9 tk9 p9 F9 N9; obtain ⟨p9a, p9b⟩ := p9; (try dsimp only); (try k_fold)) | skip))))
local macro_rules | `(tactic| walk_at "JInt") => `(tactic| (refine jint (by assumption) (by assumption) ?_; first | exact less_sec _ | (unfold PSec; omega) | (unfold PWay; omega) | (unfold PWay; rw [Int.fmod_eq_emod_of_nonneg _ (by decide)]; omega)))
local macro_rules | `(tactic| walk_at "call ref") => `(tactic| (k_here; k_dflt (show wpAny _ _ (call (Value.ref _) [Value.ref _] [(_, Value.bool _)]) _ _ _); k_dflt (first | (refine' polyT_C ?k1 ?k2 ?k3 ?k4 ?k5 ?kK ?kd ?ku ?m1 ?m2 ?m3 ?kl ?n1 ?n2 ?n3 ?_; (case k1 => k_asm); (case k2 => k_asm); (case k3 => k_asm); (case k4 => k_asm); (case k5 => k_asm); (case kK => first | exact rfl | assumption); (case kd => k_room); (case ku => k_units); (case m1 => k_mem); (case m2 => k_mem); (case m3 => k_mem); (case kl => assumption); (case n1 => first | assumption | k_ne); (case n2 => first | assumption | k_ne); (case n3 => first | assumption | k_ne)) | (refine' polyF_C ?k1 ?k2 ?k3 ?k4 ?k5 ?kK ?kd ?ku ?m1 ?m2 ?m3 ?kl ?n1 ?n2 ?n3 ?_; (case k1 => k_asm); (case k2 => k_asm); (case k3 => k_asm); (case k4 => k_asm); (case k5 => k_asm); (case kK => first | exact rfl | assumption); (case kd => k_room); (case ku => k_units); (case m1 => k_mem); (case m2 => k_mem); (case m3 => k_mem); (case kl => assumption); (case n1 => first | assumption | k_ne); (case n2 => first | assumption | k_ne); (case n3 => first | assumption | k_ne))); intro p9 q9 v1 v2 h10 tk10 F10 N10 o1 o2 o3; (try simp only [off_cons, off_nil_iff, and_true] at o1); (repeat (obtain ⟨_, o1⟩ := o1)); (try simp only [off_cons, off_nil_iff, and_true] at o2); (repeat (obtain ⟨_, o2⟩ := o2)); (try dsimp only); (try k_fold)))
local macro_rules | `(tactic| walk_at "call ref") => `(tactic| (k_here; (with_reducible show wpAny _ _ (call (Value.ref 415) _ _) _ _ _); k_dflt (show wpAny _ _ (call (Value.ref 415) [Value.ref _] []) _ _ _); k_dflt (refine' ntt_C ?k1 ?k2 ?k3 ?k4 ?k5 ?kK ?kd ?ku ?m1 ?m2 ?m3 ?m4 ?m5 ?m6 ?n1 ?n2 ?n3 ?n4 ?_; (case k1 => k_asm); (case k2 => k_asm); (case k3 => k_asm); (case k4 => k_asm); (case k5 => k_asm); (case kK => first | exact rfl | assumption); (case kd => k_room); (case ku => k_units); (case m1 => k_mem); (case m2 => k_mem); (case m3 => k_mem); (case m4 => k_mem); (case m5 => k_mem); (case m6 => k_mem); (case n1 => first | assumption | k_ne); (case n3 => with_reducible assumption); (case n2 => assumption); (case n4 => with_reducible assumption)); intro p2 q2 c2 y1 y2 ws h11 tk11 iT F11 N11 o4 o5 o6 o7 o8 o9; (obtain ⟨os, iO, lO, lW, tO, rO⟩ := gen_to iT (by assumption)); clear iT; (try simp only [off_cons, off_nil_iff, and_true] at o4); (repeat (obtain ⟨_, o4⟩ := o4)); (try simp only [off_cons, off_nil_iff, and_true] at o5); (repeat (obtain ⟨_, o5⟩ := o5)); (try simp only [off_cons, off_nil_iff, and_true] at o6); (repeat (obtain ⟨_, o6⟩ := o6)); (try dsimp only); (try k_fold)))
local macro_rules | `(tactic| walk_at "call ref") => `(tactic| (k_here; (with_reducible show wpAny _ _ (call (Value.ref 558) _ _) _ _ _); k_dflt (show wpAny _ _ (call (Value.ref 558) [Value.ref _] []) _ _ _); k_dflt (refine' intt_C ?k1 ?k2 ?k3 ?k4 ?k5 ?kK ?kd ?ku ?m1 ?m2 ?m3 ?m4 ?m5 ?m6 ?n1 ?n2 ?n3 ?n4 ?_; (case k1 => k_asm); (case k2 => k_asm); (case k3 => k_asm); (case k4 => k_asm); (case k5 => k_asm); (case kK => first | exact rfl | assumption); (case kd => k_room); (case ku => k_units); (case m1 => k_mem); (case m2 => k_mem); (case m3 => k_mem); (case m4 => k_mem); (case m5 => k_mem); (case m6 => k_mem); (case n1 => first | assumption | k_ne); (case n3 => with_reducible assumption); (case n2 => assumption); (case n4 => with_reducible assumption)); intro p2 q2 c2 y1 y2 ws h11 tk11 iT F11 N11 o4 o5 o6 o7 o8 o9; (obtain ⟨os, iO, lO, lW, tO, rO⟩ := gen_from iT (by assumption)); clear iT; (try simp only [off_cons, off_nil_iff, and_true] at o4); (repeat (obtain ⟨_, o4⟩ := o4)); (try simp only [off_cons, off_nil_iff, and_true] at o5); (repeat (obtain ⟨_, o5⟩ := o5)); (try simp only [off_cons, off_nil_iff, and_true] at o6); (repeat (obtain ⟨_, o6⟩ := o6)); (try dsimp only); (try k_fold)))
local macro_rules | `(tactic| walk_at "call builtin:min") => `(tactic| (k_here; (with_reducible show wpAny _ _ (call (Value.builtin _) [Value.ref _]) _ _ _); k_dflt (refine' kso_min ?k1 ?k2 ?k3 ?k4 ?k5 ?k6 ?_; (case k1 => k_asm); (case k2 => k_asm); (case k3 => exact News.isList (by k_asm) (by k_mem)); (case k4 => with_reducible assumption); (case k5 => omega); (case k6 => with_unfolding_all rfl); k_whole); intro h' M' t' k' F' N' a' b'; (obtain ⟨c', d'⟩ := rng_at (by with_reducible assumption) a'); clear a' b'; (try k_sweep)))
local macro_rules | `(tactic| walk_at "call builtin:max") => `(tactic| (k_here; (with_reducible show wpAny _ _ (call (Value.builtin _) [Value.ref _]) _ _ _); k_dflt (refine' kso_max ?k1 ?k2 ?k3 ?k4 ?k5 ?k6 ?_; (case k1 => k_asm); (case k2 => k_asm); (case k3 => exact News.isList (by k_asm) (by k_mem)); (case k4 => with_reducible assumption); (case k5 => omega); (case k6 => with_unfolding_all rfl); k_whole); intro h' M' t' k' F' N' a' b'; (obtain ⟨c', d'⟩ := rng_at (by with_reducible assumption) a'); clear a' b'; (try k_sweep)))
local macro_rules | `(tactic| walk_at "eval ListComp") => `(tactic| (k_here; (with_reducible show wpAny _ _ (eval (PySem.Expr.ListComp (PySem.Expr.Subscript _ _ _) [⟨PySem.Expr.Name _ _, PySem.Expr.Call _ _ _ _, _, _⟩] _ _) _) _ _ _); k_dflt (refine ListComp_S (by k_asm) (by with_unfolding_all rfl) (by decide) (by rfl) (by decide) (by rfl) ?_)))
local macro_rules | `(tactic| walk_at "SrcS") => `(tactic| (k_here; k_dflt (refine' srcS2 ?gm ?hh ?F ?N ?r ?a ?b ?n ?_ ?_; (case gm => with_reducible assumption); (case hh => rfl); (case F => k_asm); (case N => k_asm); (case r => assumption); (case a => decide); (case n => with_reducible assumption); (case b => (constructor <;> (split <;> omega)))); (all_goals first | (intro g' ys' xs' hI' hx' hy'; unfold LCg.FinE; intro D' h' tk' F' N' l1; (have hX' := Nat.lt_succ_of_le hx'); (have hY' := Nat.lt_succ_of_le hy'); clear hx' hy'; (try simp only [LCg.Off1, and_true] at l1); (repeat (obtain ⟨_, l1⟩ := l1)); (try dsimp only); (try k_fold); (try k_sweep)) | (intro g' k' t' I' oI' C' oC' D' m' ys' h' tk' E' hlo' hhi' hC' hx' F' N' off' ne'; (try simp only [LCg.Off3, and_true] at off'); (try k_fold)))))
local macro_rules | `(tactic| walk_at "KCfEl") => `(tactic| (exact kcf_el rfl rfl rfl))
local macro_rules | `(tactic| walk_at "eval ListComp") => `(tactic| (k_here; (with_reducible show wpAny _ _ (eval (PySem.Expr.ListComp _ [⟨PySem.Expr.Tuple _ _ _, PySem.Expr.Call _ _ _ _, _, _⟩] _ _) _) _ _ _); k_dflt (refine ListComp_Z (by k_asm) (by with_unfolding_all rfl) (by decide) (by rfl) (by decide) (by rfl) (by rfl) (by decide) ?_)))
local macro_rules | `(tactic| walk_at "ZEnd") => `(tactic| (refine zend (by assumption) (by assumption) ?_; rfl))
local macro_rules | `(tactic| walk_at "call type:zip") => `(tactic| (k_here; k_dflt (refine' zip_srcB (n := 256) ?gm ?hh ?F ?N ?l1 ?l2 ?i1 ?i2 ?n1 ?n2 ?sz ?_ ?_; (case gm => with_reducible assumption); (case hh => rfl); (case F => k_asm); (case N => k_asm); (case l1 => k_memK); (case l2 => k_memK); (case i1 => with_reducible assumption); (case i2 => with_reducible assumption); (case n1 => assumption); (case n2 => assumption); (case sz => (rw [PySem.sizeLine_eq]; omega)); (all_goals first | (intro g' ys' hI'; unfold ZFinE; intro D' h' tk' F' N' l1; (have hYs := zlenP hI' (by assumption) (by assumption)); (try k_lt l1); (try dsimp only); (try k_fold); (try k_sweep)) | (intro a' b' ta' tb' z' oz' C' oC' D' ys' b1' o1' b2' o2' b3' o3' b4' o4' m' h' tk' E' ha' hb' hC' hx' hx2' F' N')))))
local macro_rules | `(tactic| walk_at "binaryOp Mult int int") => `(tactic| (refine mul_int ?_ (mul_bnd2 (by with_reducible assumption) (by with_reducible assumption) (by with_reducible assumption) (by with_reducible assumption))))
local macro_rules | `(tactic| walk_at "call ref") => `(tactic| (k_here; (with_reducible show wpAny _ _ (call (Value.ref 589) _ _) _ _ _); k_dflt (show wpAny _ _ (call (Value.ref 589) [Value.ref _, Value.ref _]) _ _ _); k_dflt (refine' mulp_C ?k1 ?k2 ?k3 ?k4 ?k5 ?kK ?kd ?ku ?m1 ?m2 ?m3 ?m4 ?m5 ?m6 ?m7 ?m8 ?v1 ?v2 ?n1 ?n2 ?i1 ?i2 ?B1 ?B2 ?x ?_; (case k1 => k_asm); (case k2 => k_asm); (case k3 => k_asm); (case k4 => k_asm); (case k5 => k_asm); (case kK => first | exact rfl | assumption); (case kd => k_room); (case ku => k_units); (case m1 => k_memK); (case m2 => k_memK); (case m3 => k_memK); (case m4 => k_memK); (case m5 => k_memK); (case m6 => k_memK); (case m7 => k_memK); (case m8 => k_memK); (case i1 => with_reducible assumption); (case i2 => with_reducible assumption); (case v1 => assumption); (case v2 => assumption); (case n1 => assumption); (case n2 => assumption); (case B1 => with_reducible assumption); (case B2 => with_reducible assumption); (case x => assumption)); intro p9 q9 l9 w9 v1 v2 h10 tk10 i10 F10 N10 o1 o2 o3 n1 n2 n3; kts_tail; (have hYs := zlenP i10 (by assumption) (by assumption)); (have hZs := i10.length.symm.trans hYs); (try simp only [off_cons, off_nil_iff, and_true] at o1); (repeat (obtain ⟨_, o1⟩ := o1)); (try simp only [off_cons, off_nil_iff, and_true] at o2); (repeat (obtain ⟨_, o2⟩ := o2)); (try simp only [off_cons, off_nil_iff, and_true] at o3); (repeat (obtain ⟨_, o3⟩ := o3)); (try dsimp only); (try k_fold)))
local macro_rules | `(tactic| walk_at "call ref") => `(tactic| (k_here; (with_reducible show wpAny _ _ (call (Value.ref 630) _ _) _ _ _); k_dflt (show wpAny _ _ (call (Value.ref 630) [Value.ref _, Value.ref _]) _ _ _); k_dflt (refine' ref1_C ?k1 ?k2 ?k3 ?k4 ?k5 ?kK ?kd ?ku ?m1 ?m2 ?m3 ?m4 ?_; (case k1 => k_asm); (case k2 => k_asm); (case k3 => k_asm); (case k4 => k_asm); (case k5 => k_asm); (case kK => first | exact rfl | assumption); (case kd => k_room); (case ku => k_units); (case m1 => k_memK); (case m2 => k_memK); (case m3 => k_memK); (case m4 => k_memK)); intro h12 tk12 F12 N12; (try dsimp only); (try k_fold)))
local macro_rules | `(tactic| walk_at "eval ListComp") => `(tactic| (k_here; (with_reducible show wpAny _ _ (eval (PySem.Expr.ListComp (PySem.Expr.Call _ _ _ _) [⟨PySem.Expr.Name _ _, PySem.Expr.Subscript _ _ _, _, _⟩] _ _) _) _ _ _); k_dflt (refine LCg.ListComp_U (F₀ := by k_asm) (by with_unfolding_all rfl) (by decide) (by rfl) (by decide) (by rfl) ?_)))
local macro_rules | `(tactic| walk_at "binaryOp Add ref ref") => `(tactic| (k_here; k_dflt (refine' add_script ?F ?N ?a ?b ?i ?j ?n ?m ?_; (case F => k_asm); (case N => k_asm); (case a => kmk_list); (case b => k_memK); (case i => with_reducible assumption); (case j => with_reducible assumption); (case n => with_reducible assumption); (case m => rfl)); intro D' us' xs' h' F' N' l1 hI' ha' hb'; (try k_lt l1); (try k_sweep)))
local macro_rules | `(tactic| walk_at "subscriptTail Name Slice ref ref") => `(tactic| (k_here; k_dflt (refine' slice_six ?F ?N ?l ?i ?a ?b ?_ ?s ?t; (case F => k_asm); (case N => k_asm); (case l => k_memK); (case i => with_reducible assumption); (case a => assumption); (case b => assumption); (case s => with_unfolding_all rfl); (case t => kmk_pure)); intro D' ws' xs' h' F' N' l1 hI' hc' hd'; (try k_lt l1); (try k_sweep)))
local macro_rules | `(tactic| walk_at "subscriptTail BinOp") => `(tactic| (k_here; k_dflt (refine kba_turn (value' := PySem.Expr.Name (PySem.Str.ofString "_") ⟨0, 0, 0, 0⟩) (fun _ => rfl) ?_)))
local macro_rules | `(tactic| walk_at "CompSrc") => `(tactic| (k_here; k_dflt (refine LCg.CompSrc.ledger (by rfl) (by k_asm) (by k_asm) (by k_memK) (by rw [List.size_toArray, PySem.sizeLine_eq]; omega) ?_; intro g'; (refine' kcf_list less (by with_reducible assumption) (fun k' t' I' oI' C' oC' D' m' ys' h' tk' E' hk' hC' hx' F' N' off' ne' hMark' => ?_) ?_); (all_goals (try (simp only [LCg.Off3, and_true] at off'))); kcf_last)))
local macro_rules | `(tactic| walk_at "assign") => `(tactic| ((rename IntsAre _ (List.map less _) => hI6); obtain ⟨v1', v2', v3', v4', v5', v6', t1', t2', t3', t4', t5', t6', e6'⟩ := six_of hI6 (by assumption); subst e6'; clear hI6; (have z1' := less_sz v1'); (have z2' := less_sz v2'); (have z3' := less_sz v3'); (have z4' := less_sz v4'); (have z5' := less_sz v5'); (have z6' := less_sz v6'); (generalize less v1' = w1' at *); (generalize less v2' = w2' at *); (generalize less v3' = w3' at *); (generalize less v4' = w4' at *); (generalize less v5' = w5' at *); (generalize less v6' = w6' at *)))
local macro_rules | `(tactic| walk_at "binaryOp Mod int int") => `(tactic| (refine mod256 ?_; intro e9 m9 b9 c9))
local macro_rules | `(tactic| walk_at "call builtin:pow") => `(tactic| (refine pw_callL ?_ (by with_reducible assumption); intro r9 p9 b9))
local macro_rules | `(tactic| walk_at "binaryOp Mult int int") => `(tactic| (refine mul_int ?_ (mul_right (by with_reducible assumption))))
local macro_rules | `(tactic| walk_at "call type:range") => `(tactic| (k_here; k_dflt (refine' range8_new ?F ?N ?_; (case F => k_asm); (case N => k_asm)); intro r9 t9 u9 h9 tk9 F9 N9 l9; (try k_lt l9); (try dsimp only); (try k_fold)))
local macro_rules | `(tactic| walk_at "call ref") => `(tactic| (k_here; (with_reducible show wpAny _ _ (call (Value.ref 618) _ _) _ _ _); k_dflt (show wpAny _ _ (call (Value.ref 618) [Value.int _ _, Value.int _ _, Value.ref _]) _ _ _); k_dflt (refine' pw8_C ?k1 ?k2 ?k3 ?k4 ?k5 ?kK ?kd ?ku ?m1 ?m2 ?m3 ?_; (case k1 => k_asm); (case k2 => k_asm); (case k3 => k_asm); (case k4 => k_asm); (case k5 => k_asm); (case kK => first | exact rfl | assumption); (case kd => k_room); (case ku => k_units); (case m1 => k_memK); (case m2 => exact fmq _); (case m3 => exact ⟨by with_reducible assumption, by with_reducible assumption⟩)); intro l9 w9 n9 h9 tk9 i9 e9 r9 p9 F9 N9 o9; (have hv9 := i9.length.trans e9); (have B9 := rng_bnd r9); (try simp only [off_cons, off_nil_iff, and_true] at o9); (repeat (obtain ⟨_, o9⟩ := o9)); (try dsimp only); (try k_fold); (try k_sweep)))
local macro_rules | `(tactic| walk_at "call ref") => `(tactic| (k_here; (with_reducible show wpAny _ _ (call (Value.ref 623) _ _) _ _ _); k_dflt (show wpAny _ _ (call (Value.ref 623) [Value.ref _]) _ _ _); k_dflt (refine' runs_C ?k1 ?k2 ?k3 ?k4 ?k5 ?kK ?kd ?ku ?m1 ?_; (case k1 => k_asm); (case k2 => k_asm); (case k3 => k_asm); (case k4 => k_asm); (case k5 => k_asm); (case kK => first | exact rfl | assumption); (case kd => k_room); (case ku => k_units); (case m1 => k_memK)); intro l9 w9 n9 h9 tk9 i9 e9 r9 p9 F9 N9 o9; (have hv9 := i9.length.trans e9); (have B9 := rng_bnd r9); (try simp only [off_cons, off_nil_iff, and_true] at o9); (repeat (obtain ⟨_, o9⟩ := o9)); (try dsimp only); (try k_fold); (try k_sweep)))
theorem join_term {M : Model} {A : Around} {E : Value → Shared → Prop} {s : Shared} {h₀ : Heap} {L : Addr} {m : Str → Option Value} {news : List (Addr × Obj)} {tree : Sem Value} {Q : Value → Shared → Prop} {G : Addr} {a sp k g0 g1 g2 g3 : Int} {ta ts tk b0 b1 b2 b3 : Tok} {nn : Nat}
    (_F : Fr h₀ L s.heap m) (_N : News h₀ L s.heap news) (_ha : m (Str.ofString "a") = some (.int a ta)) (_hs : m (Str.ofString "spot") = some (.int sp ts)) (_hk : m (Str.ofString "m") = some (.int k tk)) (_hg : m (Str.ofString "g") = some (.ref G)) (_hG : (G, listOf #[Value.int g0 b0, .int g1 b1, .int g2 b2, .int g3 b3] nn) ∈ news)
    (h1 : wpAny M A tree (JInt h₀ L m news s (TermIs a (pick4 k g0 g1 g2 g3) sp)) E s) (h2 : ∀ n t h' tk', TermIs a (pick4 k g0 g1 g2 g3) sp n → Fr h₀ L h' m → News h₀ L h' news → Q (.int n t) { s with heap := h', toks := tk' }) : wpAny M A tree Q E s :=
  join_int _ _F _N h1 h2
local macro_rules | `(tactic| walk_at "eval IfExp") => `(tactic| (k_here; (fail_if_success (with_reducible show wpAny _ _ _ (JInt _ _ _ _ _ _) _ _)); (with_reducible show wpAny _ _ (eval (PySem.Expr.IfExp _ (PySem.Expr.BinOp _ _ _ _) (PySem.Expr.BinOp _ _ _ _) _) _) _ _ _); k_dflt (refine' join_term ?F ?N ?a ?s ?k ?g ?G ?_ ?_; (case F => k_asm); (case N => k_asm); (case a => exact rfl); (case s => exact rfl); (case k => exact rfl); (case g => exact rfl); (case G => k_memK)); (all_goals (first | (intro n9 t9 h9 tk9 p9 F9 N9; (try dsimp only); (try k_fold)) | skip))))
local macro_rules | `(tactic| walk_at "JInt") => `(tactic| (refine jint (by assumption) (by assumption) ?_; (with_reducible show TermIs _ _ _ _); first | exact term_lo (by first | assumption | omega) (by assumption) | exact term_hi (by first | assumption | omega) (by assumption)))
local macro_rules | `(tactic| walk_at "subscriptTail Name Name ref int") => `(tactic| (k_here; (with_reducible show wpAny _ _ (subscriptTail _ _ (Value.ref _) (Value.int _ _)) _ _ _); k_dflt (refine' sub_pick ?k1 ?k2 ?a ?b ?s0 ?s1 ?s2 ?s3 ?_ ?k7; (case k1 => k_asm); (case k2 => k_memK); (case a => decide); (case b => decide); (case s0 => exact sz0 (by with_reducible assumption)); (case s1 => exact sz1 (by with_reducible assumption)); (case s2 => exact sz0 (by with_reducible assumption)); (case s3 => exact sz0 (by with_reducible assumption)); (case k7 => (intro k9 u9; with_unfolding_all rfl))); intro v9 t9 e9 b9))
local macro_rules | `(tactic| walk_at "binaryOp Mult int int") => `(tactic| (refine mul_int ?_ (mul_sz (by first | exact sz1 (by with_reducible assumption) | exact szn (by with_reducible assumption)) (by with_reducible assumption))))
local macro_rules | `(tactic| walk_at "binaryOp Mult ref int") => `(tactic| (k_here; (with_reducible show wpAny _ _ (binaryOp _ (Value.ref _) (Value.int 256 _)) _ _ _); k_dflt (refine' zeros256 ?F ?N ?l ?_; (case F => k_asm); (case N => k_asm); (case l => k_memK)); intro D' ws' zs' h' F' N' l1 hI' hZ' hl' hw'; (try k_lt l1); (try k_sweep)))
local macro_rules | `(tactic| walk_at "setItem ref int") => `(tactic| (k_here; (with_reducible show wpAny _ _ (setItem (Value.ref _) (Value.int _ _) (Value.int _ _)) _ _ _); k_dflt (refine' set_any ?F ?N ?U ?i ?a ?b ?l ?_; (case F => k_asm); (case N => k_asm); (case U => (intro ws9; k_upd)); (case i => with_reducible assumption); (case a => with_reducible assumption); (case b => with_reducible assumption); (case l => with_reducible assumption)); intro h' ws' xs' F' N' hI' hS' hl' hw'; (try dsimp only at N'); (try dsimp only); (try k_fold); (try k_sweep)))
local macro_rules | `(tactic| walk_at "compareOp Eq ref ref") => `(tactic| (k_here; (with_reducible show wpAny _ _ (compareOp CmpOp.Eq (Value.ref _) (Value.ref _)) _ _ _); (rename SetAt _ _ _ _ => hM9); k_dflt (refine' eq_lists ?k1 ?k2 ?k3 ?i1 ?i2 ?k5 ?e ?_; (case k1 => k_asm); (case k2 => k_memK); (case k3 => k_memK); (case i1 => with_reducible assumption); (case i2 => with_reducible assumption); (case k5 => units_room); (case e => first | (refine' end1 ?he ?hp ?P ?R ?hl ?hr ?Z ?m0 ?m1 ?m2 ?m3 ?s0 ?s1 ?s2 ?s3 ?T0 ?T1 ?T2 ?T3 ?hN; (case P => with_reducible assumption); (case R => with_reducible assumption); (case hN => with_reducible assumption); (case s3 => with_reducible assumption); (case s2 => with_reducible assumption); (case s1 => with_reducible assumption); (case s0 => with_reducible assumption); (case Z => with_reducible assumption); (case m0 => assumption); (case m1 => assumption); (case m2 => assumption); (case m3 => assumption); (case T0 => assumption); (case T1 => assumption); (case T2 => assumption); (case T3 => assumption); (case hp => with_reducible assumption); (case he => exact ⟨by with_reducible assumption, by with_reducible assumption⟩); (case hl => with_reducible assumption); (case hr => with_reducible assumption)) | (refine' end0 ?he ?hp ?P ?R ?hl ?hr ?Z ?m0 ?m1 ?m2 ?m3 ?s0 ?s1 ?s2 ?s3 ?T0 ?T1 ?T2 ?T3 ?hN; (case hN => with_reducible assumption); (case P => with_reducible assumption); (case R => with_reducible assumption); (case s3 => with_reducible assumption); (case s2 => with_reducible assumption); (case s1 => with_reducible assumption); (case s0 => with_reducible assumption); (case Z => with_reducible assumption); (case m0 => assumption); (case m1 => assumption); (case m2 => assumption); (case m3 => assumption); (case T0 => assumption); (case T1 => assumption); (case T2 => assumption); (case T3 => assumption); (case hp => with_reducible assumption); (case he => exact ⟨by with_reducible assumption, by with_reducible assumption⟩); (case hl => with_reducible assumption); (case hr => with_reducible assumption))))))
theorem ways {n : Int} (h : PWay n) : n = 0 ∨ n = 1 ∨ n = 2 ∨ n = 3 := by
  obtain ⟨h1, h2⟩ := h
  omega
section
local macro_rules | `(tactic| walk_at "exec If") => `(tactic| (k_here; (rename PWay _ => hW9); refine stop_here ?_))
set_option maxHeartbeats 16000000 in
theorem law1 : PySem.Challenge.rw_bn0015_01.Holds := Mine.hd1 (by
  w_strict (
    k_go0
    all_goals (try k_fold)
    rename IntsAre _ _ => hI
    obtain ⟨ns, hns⟩ := gen_ns hI
    subst hns
    have hMk := kstMark
    k_steps
    refine stop_go ?_
    rename PWay _ => hW
    have hn63 : ns.length ≤ 63 := by omega
    have gm1 : GMark1 (fun k => ns.getD k.toNat 0) := .mk
    have gm : GMark (fun a b => (a * b).fmod 8380417) := .mk
    rcases ways hW with e | e | e | e
    · subst e
      clear hW
      k_steps
      all_goals (try k_data)
    · subst e
      clear hW
      k_steps
      all_goals (try k_data)
    · subst e
      clear hW
      k_steps
      all_goals (try k_data)
    · subst e
      clear hW
      k_steps
      all_goals (try k_data)))
end
end Mine
end
set_option maxRecDepth 100000 in
theorem PySem.Challenge.cw_bn0015_01_holds : PySem.Challenge.rw_bn0015_01.Holds := by
  exact Mine.law1
