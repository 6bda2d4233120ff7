import PyProof.Rows.All
import Wide.All
import OpenK.AllK
import Wide.FinOn
import PySem.Challenge.RW_am6027_01
section
open PySem PySem.W PyProof.Rows
set_option Elab.async false
namespace Mine
set_option maxRecDepth 100000 in
set_option maxHeartbeats 8000000 in
open_top hd for PySem.Challenge.rw_am6027_01
end Mine
end
section
open PySem PySem.W PyProof.Rows
set_option Elab.async false
set_option maxRecDepth 100000
namespace Mine
open PySem.EqNone
theorem g_bytes_eq_none (a : Array UInt8) (t : Tok) : Gives (Builtin.«bytes.__eq__» ⟨[.bytes a t, .none], []⟩) (.val (Value.notImplemented)) :=
  .of_wp fun M A E s Q h => by obtain ⟨hp, g, d, tk, os⟩ := s; have f1 := F.sub_NoneType_bytes; wp_walk; exact ⟨_, rfl, h⟩
theorem g_none_eq_bytes (a : Array UInt8) (t : Tok) : Gives (Builtin.«NoneType.__eq__» ⟨[.none, .bytes a t], []⟩) (.val (Value.notImplemented)) :=
  .of_wp fun M A E s Q h => by obtain ⟨hp, g, d, tk, os⟩ := s; wp_walk; exact ⟨_, rfl, h⟩
theorem g_none_ne_ref (l : Addr) : Gives (Builtin.«NoneType.__ne__» ⟨[.none, .ref l], []⟩) (.val (Value.notImplemented)) :=
  .of_wp fun M A E s Q h => by obtain ⟨hp, g, d, tk, os⟩ := s; wp_walk; exact ⟨_, rfl, h⟩
section
variable {prog : Program} {w : World} {A : Around} {E : Value → Shared → Prop} {s : Shared} {Q : Value → Shared → Prop}
theorem eq_bytes_none {a : Array UInt8} {t : Tok} (h : Q (.bool false) s) : wpAny (model prog w) A (compareOp .Eq (.bytes a t) .none) Q E s := by
  show wpAny _ A (richCompare .Eq _ _) Q E s
  exact wpAny_richCompare_eq_decline (k := false) (fun s' => typeIs_bytes s' a t) (fun _ => rfl) (by decide) F.sub_NoneType_bytes FB.slot_bytes_eq F.slot_NoneType_eq_refl rfl
    (call_gives FB.slot_bytes_eq (typeIs_bytes s a t) FB.entry_bytes_eq (FB.args_bytes_eq_2 _ _) (g_bytes_eq_none a t)
      ⟨rfl, call_gives F.slot_NoneType_eq_refl rfl F.entry_NoneType_eq (F.args_NoneType_eq_2 _ _) (g_none_eq_bytes a t) ⟨rfl, h⟩⟩)

/-- a builtin slot found on an own class, called through the special look -/
theorem ifBound_slot {M : Model} {K : Frag} {x C : Addr} {ox : Obj} {od : Option Obj} {name : Str} {T id : String} {args : List Value} {Q : Option Value → Shared → Prop} (S : Slot T name id)
    (X : K.In s.heap) (I : InstAt s.heap x ox C od) (hs : findIn K (.ref C) name = some (some (.builtin id)))
    (h : wpAny M A (call (.builtin id) (.ref x :: args)) (fun v => Q (some v)) E s) : wpAny M A (callSpecialIfBound? (.ref x) name args) Q E s := by
  simp only [callSpecialIfBound?, bindSpecialIfBound?]
  refine wpAny_holding (wpAny_bind (wpAny_bind (wpAny_bind (I.type.here ((looks_findIn X hs).here ?_)))))
  simp only [S.bind]
  refine wpAny_bind (wpAny_askSetting (wpAny_ite ?_))
  have fin : wpAny M A (call (.builtin id) ([.ref x] ++ args) >>= fun v => pure (some v)) Q E s := wpAny_bind (wpAny_mono h (fun v s' h' => wpAny_pure h') fun _ _ h' => h')
  split
  · exact wpAny_bind (wpAny_pure (wpAny_pure fin))
  · exact wpAny_tryCatch (wpAny_bind (wpAny_pure (wpAny_pure fin)))

theorem check_inst {M : Model} {K : Frag} {x C : Addr} {ox : Obj} {od : Option Obj} {id owner n : String} {rest : List Value} {Q : Unit → Shared → Prop} (hk : builtinKind id = some .slot) (hs : splitId id = some (owner, n))
    (ha : argsOk id ⟨.ref x :: rest, []⟩) (X : K.In s.heap) (I : InstAt s.heap x ox C od) (ho : subIn K (.ref C) (.type owner) = some true) (hq : Q () s) :
    wpAny M A (checkBuiltinCall id ⟨.ref x :: rest, []⟩) Q E s := by
  simp only [checkBuiltinCall, hk, hs]
  have L : Looks M s.heap (isInstance (.ref x) (.type owner)) true := I.type.andThen (looks_subIn X ho)
  refine wpAny_bind (L.here ?_)
  cases hsig : Manifest.signature? id with
  | none => exact wpAny_pure hq
  | some sig =>
    simp only [argsOk, hsig] at ha
    have h2 : Bind.checkArgs id sig ⟨.ref x :: rest, []⟩ = pure () := ha
    show wpAny M A (Bind.checkArgs id sig ⟨.ref x :: rest, []⟩) Q E _
    rw [h2]; exact wpAny_pure hq

theorem same_ref_none {x : Addr} : isSame (.ref x) .none = pure false := rfl
theorem same_none_ref {x : Addr} : isSame .none (.ref x) = pure false := rfl

theorem call_eq_inst {K : Frag} {x C : Addr} {ox : Obj} {od : Option Obj} (X : K.In s.heap) (I : InstAt s.heap x ox C od) (ho : subIn K (.ref C) (.type "object") = some true)
    (h : Q .notImplemented s) : wpAny (model prog w) A (call (.builtin "object.__eq__") [.ref x, .none]) Q E s := by
  refine wpAny_call (codeAny_call_builtin F.cmp_object.eq.plain F.cmpEntry_eq (check_inst (id := "object.__eq__") (owner := "object") (n := "__eq__") F.cmpKind_eq F.cmpSplit_eq (F.cmpArgs_eq _ _) X I ho ?_))
  unfold Builtin.«object.__eq__»
  refine wpAny_bind (m := slotArgs "__eq__" 1 _) (wpAny_pure ?_)
  show wpAny _ _ (isSame (.ref x) .none >>= fun b => if b then ret (.bool true) else ret .notImplemented) _ _ _
  rw [same_ref_none]
  exact wpAny_bind (wpAny_pure (wpAny_pure h))

theorem call_ne_inst {K : Frag} {x C : Addr} {ox : Obj} {od : Option Obj} (hu : A.units + 1 < cLine) (X : K.In s.heap) (I : InstAt s.heap x ox C od) (he : findIn K (.ref C) "__eq__" = some (some (.builtin "object.__eq__"))) (ho : subIn K (.ref C) (.type "object") = some true)
    (h : Q .notImplemented s) : wpAny (model prog w) A (call (.builtin "object.__ne__") [.ref x, .none]) Q E s := by
  refine wpAny_call (codeAny_call_builtin F.cmp_object.ne.plain F.cmpEntry_ne (check_inst (id := "object.__ne__") (owner := "object") (n := "__ne__") F.cmpKind_ne F.cmpSplit_ne (F.cmpArgs_ne _ _) X I ho ?_))
  unfold Builtin.«object.__ne__»
  refine wpAny_bind (m := slotArgs "__ne__" 1 _) (wpAny_pure ?_)
  refine wpAny_bind (wpAny_cRoomFor (A := A.in1) (by show A.units + 1 < cLine; exact hu) ?_)
  refine wpAny_bind (m := callSpecialIfBound? (.ref x) (Str.ofString "__eq__") [.none]) (ifBound_slot F.cmp_object.eq X I he (call_eq_inst X I ho ?_))
  exact wpAny_pure h

theorem try_ne_inst {K : Frag} {x C : Addr} {ox : Obj} {od : Option Obj} {Q : Option Value → Shared → Prop} (hu : A.units + 1 < cLine) (X : K.In s.heap) (I : InstAt s.heap x ox C od) (he : findIn K (.ref C) "__eq__" = some (some (.builtin "object.__eq__")))
    (hn : findIn K (.ref C) "__ne__" = some (some (.builtin "object.__ne__"))) (ho : subIn K (.ref C) (.type "object") = some true)
    (h : Q none s) : wpAny (model prog w) A (tryCompare (.ref x) "__ne__" .none) Q E s := by
  unfold tryCompare
  exact wpAny_bind (ifBound_slot F.cmp_object.ne X I hn (call_ne_inst hu X I he ho (wpAny_pure h)))

theorem try_ne_none {x : Addr} {Q : Option Value → Shared → Prop} (h : Q none s) : wpAny (model prog w) A (tryCompare .none "__ne__" (.ref x)) Q E s := by
  refine wpAny_tryCompare_declines (T := "NoneType") rfl F.slot_NoneType_ne ?_
  exact call_gives F.slot_NoneType_ne rfl F.entry_NoneType_ne (F.args_NoneType_ne_2 _ _) (g_none_ne_ref x) ⟨rfl, h⟩

theorem ne_none_inst {K : Frag} {x C : Addr} {ox : Obj} {od : Option Obj} (hu : A.units + 1 < cLine) (X : K.In s.heap) (I : InstAt s.heap x ox C od) (he : findIn K (.ref C) "__eq__" = some (some (.builtin "object.__eq__")))
    (hn : findIn K (.ref C) "__ne__" = some (some (.builtin "object.__ne__"))) (ho : subIn K (.ref C) (.type "object") = some true) (hs : subIn K (.ref C) (.type "NoneType") = some false)
    (h : Q (.bool true) s) : wpAny (model prog w) A (compareOp .NotEq .none (.ref x)) Q E s := by
  show wpAny _ A (richCompare .NotEq _ _) Q E s
  unfold richCompare
  have h1 : oneThing? .NotEq .none (.ref x) = none := rfl
  simp only [h1]
  refine wpAny_holding ?_
  refine wpAny_bind (wpAny_cRoomFor (Nat.lt_of_succ_lt hu) ?_)
  rw [cmpInfo_NotEq]
  dsimp only
  refine wpAny_bind (wpAny_typeOf (T := "NoneType") rfl ?_)
  refine wpAny_bind (I.type.here ?_)
  rw [if_pos (by rfl)]
  refine wpAny_bind ((looks_subIn X hs).here ?_)
  simp only [Bool.false_eq_true, if_false]
  refine wpAny_bind (try_ne_none ?_)
  simp only [Bool.not_false, if_true]
  refine wpAny_bind (try_ne_inst hu X I he hn ho ?_)
  refine wpAny_bind (wpAny_rule ?_)
  rw [same_none_ref]
  exact wpAny_bind (wpAny_pure (wpAny_pure h))
end
end Mine
end
section
open PySem PySem.W PyProof.Rows PySem.Calls
set_option Elab.async false
set_option maxRecDepth 100000
namespace Mine
abbrev frs (l : List Env) : List Addr := l.filterMap (·.frame)
theorem frs_mem {env : Env} {outer : List Env} {L b : Addr} (hf : env.frame = some L) (hm : b ∈ frs (env :: outer)) : b = L ∨ b ∈ frs outer := by
  simp only [frs, List.filterMap_cons, hf, List.mem_cons] at hm; exact hm
theorem mem_frs {env : Env} {outer : List Env} {L : Addr} (hf : env.frame = some L) : L ∈ frs (env :: outer) := by simp [frs, hf]

/-- back in the caller: the objects of the frames below it may have turned their slots -/
theorem back_of {A₀ : Around} {base h₀ g g' h' : Heap} {outer : List Env} {env : Env} {L : Addr} {m : Str → Option Value} {news' : List (Addr × Obj)} (hf : env.frame = some L) (FG : Fr h₀ L g m) (B : Below A₀ base outer h₀) (D : KtsDicts (frs outer) h₀)
    (T : KtsTurn (frs (env :: outer)) g g') (k : ∀ b o, g'.get? b = some o → h'.get? b = some o) (N' : ∀ p ∈ news', h'.get? p.1 = some p.2 ∧ g'.get? p.1 = none) :
    ∃ h₀', KtsTurn (frs outer) h₀ h₀' ∧ Fr h₀' L h' m ∧ News h₀' L h' news' ∧ Below A₀ base outer h₀' ∧ KtsDicts (frs outer) h₀' := by
  have nL : h₀.get? L = none := kts_self FG
  obtain ⟨T1, S⟩ := kts_turn_at (h := h') (fs := frs outer) (g := h₀)
    (fun b hb => by obtain ⟨_, o, ho, _⟩ := B.frames.mem hb; exact ⟨o, ho⟩)
    (fun b o e nm => k b o (T.other b o (FG.keep b o e) (fun hm => by
      rcases frs_mem hf hm with rfl | hm
      · rw [nL] at e; cases e
      · exact nm hm)))
    (fun b o e _ => by obtain ⟨sl, hs⟩ := T.up (FG.keep b o e); exact ⟨sl, k _ _ hs⟩)
  obtain ⟨o, es, ep, ho, hd, r⟩ := FG.ns
  obtain ⟨sl, hs⟩ := T.up ho
  refine ⟨_, T1, ⟨⟨_, es, ep, k _ _ hs, hd, r⟩, S, by rw [T1.size]; exact FG.above⟩, fun p hp => ⟨(N' p hp).1, fun q => ?_, ?_⟩,
    ⟨B.stack, fun b o e => T1.other b o (B.stays b o e) (fun hm => by rw [(B.frames.mem hm).1] at e; cases e), B.frames.of_keeps (fun b o e _ => by obtain ⟨sl, hs⟩ := T1.up e; exact ⟨_, hs, rfl⟩)⟩, D.turn T1⟩
  · have z := (N' p hp).2
    rw [q, hs] at z; cases z
  · refine T1.none_ _ ?_
    cases q : h₀.get? p.1 with
    | none => rfl
    | some o =>
      obtain ⟨sl, hs⟩ := T.up (FG.keep _ _ q)
      rw [(N' p hp).2] at hs; cases hs

def LeaveT (A₀ : Around) (base : Heap) (outer : List Env) (env : Env) (g₀ : Heap) (L : Addr) (m : Str → Option Value) (g : Heap) (R : Result → Shared → Prop) (v : Value) (s' : Shared) : Prop :=
  ∃ g' L' m' news', KtsTurn (frs (env :: outer)) g g' ∧ Fr g' L' s'.heap m' ∧ News g' L' s'.heap news' ∧
    ∀ h₀', KtsTurn (frs outer) g₀ h₀' → Fr h₀' L s'.heap m → News h₀' L s'.heap news' → Below A₀ base outer h₀' → KtsDicts (frs outer) h₀' → R (.ok (.ret v)) s'
theorem leaveT_ {A₀ : Around} {base : Heap} {outer : List Env} {env : Env} {g₀ : Heap} {L : Addr} {m : Str → Option Value} {g : Heap} {R : Result → Shared → Prop} {v : Value} {s' : Shared} {g' : Heap} {L' : Addr} {m' : Str → Option Value} {news' : List (Addr × Obj)}
    (F' : Fr g' L' s'.heap m') (N' : News g' L' s'.heap news') (T : KtsTurn (frs (env :: outer)) g g')
    (k : ∀ h₀', KtsTurn (frs outer) g₀ h₀' → Fr h₀' L s'.heap m → News h₀' L s'.heap news' → Below A₀ base outer h₀' → KtsDicts (frs outer) h₀' → R (.ok (.ret v)) s') : LeaveT A₀ base outer env g₀ L m g R v s' := ⟨g', L', m', news', T, F', N', k⟩

section
variable {prog : Program} {w : World} {A₀ A : Around} {s : Shared} {base h₀ g₀ : Heap} {outer : List Env} {L : Addr} {m : Str → Option Value} {env : Env} {news : List (Addr × Obj)} {K : Frag} {p : Program} {loose : List Str} {mean : ExcName → Option Value} {mg mb : Str → Option Value}
  {R : Result → Shared → Prop}
theorem dicts_push {g : Heap} (hf : env.frame = some L) (FG : Fr h₀ L g m) (D : KtsDicts (frs outer) h₀) : KtsDicts (frs (env :: outer)) g := fun b hb => by
  rcases frs_mem hf hb with rfl | hb
  · obtain ⟨o, es, ep, ho, hd, _⟩ := FG.ns
    exact ⟨o, es, _, ho, hd⟩
  · obtain ⟨o, es, n, ho, hd⟩ := D b hb
    exact ⟨o, es, n, FG.keep _ _ ho, hd⟩

theorem enterT {name qual : Str} {params : Arguments} {body : List Stmt} {scope : Scope} {dV kV doc pm cdv ct oc : Value} {an od : Option Addr} {osl : Array (Option Value)} {f : Addr} {args : Args} {binds : List (Str × Value)}
    (B : Below A₀ base outer h₀) (D : KtsDicts (frs outer) h₀) (T0 : KtsTurn (frs outer) g₀ h₀) (F : Fr h₀ L s.heap m) (N : News h₀ L s.heap news) (XB : K.In base) (TB : Top p loose mean mg mb base)
    (hA : A.frames = some (env :: outer)) (hf : env.frame = some L) (hke : env.scope.kind = .function)
    (ho : K.lookup f = some ⟨oc, od, .func (fnOf name qual params body scope dV kV doc pm an cdv ct), osl⟩) (hcd : codeIn K cdv qual = true) (hroom : A.depth < recursionLimit)
    (hbind : BindsTo s (fnOf name qual params body scope dV kV doc pm an cdv ct) args binds) (hloc : ∀ y ∈ binds, scope.names.lookup y.1 = some .local)
    (h : ∀ g L' h₁, Fr h₀ L g m → Fr g L' h₁ (fun y => binds.reverse.lookup y) → News g L' h₁ news → Below A base (env :: outer) g → KtsDicts (frs (env :: outer)) g → K.In g → Top p loose mean mg mb g →
      wpAny (model prog w) (A.deeper (envOf qual scope L' f cdv)) (execs body (envOf qual scope L' f cdv))
        (fun fl s' => LeaveT A₀ base outer env g₀ L m g R (match fl with | .ret v => v | _ => .none) s')
        (fun e s' => wpAny (model prog w) (A.deeper (envOf qual scope L' f cdv)) (leaving (envOf qual scope L' f cdv) e) (fun _ s'' => R (.error e) s'') (fun e' s'' => R (.error e') s'') s')
        { s with heap := h₁, toks := s.toks + binds.length })
    (hco : scope.isCoroutine = false) (hgen : scope.isGenerator = false) (hk : scope.kind = .function)
    (hcell : ∀ x ∈ scope.names, x.2 ≠ .cell) : codeAny (model prog w) A (.call (.ref f) args) R s := by
  have st0 : base.StaysIn s.heap := fun b o e => F.keep b o (B.stays b o e)
  have X := XB.keeps st0
  obtain ⟨FG, BG, st, _⟩ := groundX (R := R) B F N hA hf hke
  refine codeAny_call_def (fd := fnOf name qual params body scope dV kV doc pm an cdv ct) (body := body) (binds := binds) hroom (X _ _ ho) rfl (TB.nolimit.keeps st0) (codeRec_of X hcd) rfl hbind hcell hloc (fun h₁ hns hk₁ => ?_) hco hgen hk
  refine wpAny_mono (h _ s.heap.objs.size h₁ FG ⟨hns, fun b o e => hk₁ b o (of_hideAll _ e), Nat.le_of_eq (hideAll_size _ _)⟩
    (fun p hp => ⟨hk₁ _ _ (N p hp).1, Nat.ne_of_lt (Heap.lt_size (N p hp).1), hideAll_none _ (List.mem_map_of_mem hp)⟩) BG (dicts_push hf FG D) (XB.keeps BG.stays) (TB.keeps BG.stays)) (fun fl s' hl => ?_) fun _ _ y => y
  obtain ⟨g', L', m', news', T', F', N', k⟩ := hl
  obtain ⟨h₀', T1, F1, N1, B1, D1⟩ := back_of hf FG B D T' F'.keep fun p hp => ⟨(N' p hp).1, (N' p hp).2.2⟩
  exact k h₀' (T0.trans T1) F1 N1 B1 D1

theorem enterTL {name qual : Str} {params : Arguments} {body : Expr} {scope : Scope} {cl : List (Str × Addr)} {pm ctv : Value} {c' : Addr} {f : Addr} {args : Args} {binds : List (Str × Value)}
    (B : Below A₀ base outer h₀) (D : KtsDicts (frs outer) h₀) (T0 : KtsTurn (frs outer) g₀ h₀) (F : Fr h₀ L s.heap m) (N : News h₀ L s.heap news) (XB : K.In base) (TB : Top p loose mean mg mb base)
    (hA : A.frames = some (env :: outer)) (hf : env.frame = some L) (hke : env.scope.kind = .function)
    (ho : (f, kla_obj name qual params body scope cl pm c' ctv) ∈ news) (hcd : s.heap.CodeRec (.ref c') qual) (hroom : A.depth < recursionLimit)
    (hbind : bindArgs (kla_fn name qual params body scope cl pm (.ref c') ctv) args = pure binds) (hloc : ∀ y ∈ binds, scope.names.lookup y.1 = some .local)
    (h : ∀ g L' h₁, Fr h₀ L g m → Fr g L' h₁ (fun y => binds.reverse.lookup y) → News g L' h₁ news → Below A base (env :: outer) g → KtsDicts (frs (env :: outer)) g → K.In g → Top p loose mean mg mb g →
      wpAny (model prog w) (A.deeper (envX qual scope L' f (.ref c') cl)) (eval body (envX qual scope L' f (.ref c') cl))
        (fun v s' => LeaveT A₀ base outer env g₀ L m g R v s')
        (fun e s' => wpAny (model prog w) (A.deeper (envX qual scope L' f (.ref c') cl)) (leaving (envX qual scope L' f (.ref c') cl) e) (fun _ s'' => R (.error e) s'') (fun e' s'' => R (.error e') s'') s')
        { s with heap := h₁, toks := s.toks + binds.length })
    (hco : scope.isCoroutine = false) (hgen : scope.isGenerator = false) (hk : scope.kind = .function)
    (hcell : ∀ x ∈ scope.names, x.2 ≠ .cell) : codeAny (model prog w) A (.call (.ref f) args) R s := by
  have st0 : base.StaysIn s.heap := fun b o e => F.keep b o (B.stays b o e)
  obtain ⟨FG, BG, st, _⟩ := groundX (R := R) B F N hA hf hke
  refine kla_callFunE hroom (N _ ho).1 rfl hco hgen rfl hcd ?_
  rw [hbind]
  refine wpAny_pure (wpAny_newFunctionEnv hcell hloc (fun h₁ hns hsb => ⟨((TB.nolimit).keeps st0).fresh _ hsb, ?_⟩) hk)
  show codeAny _ _ (.expr body (envX qual scope s.heap.objs.size f (.ref c') cl)) _ _
  have hk₁ : ∀ b o, s.heap.get? b = some o → h₁.get? b = some o := fun b o e => hsb.extBut b o (Nat.ne_of_lt (Heap.lt_size e)) (Heap.get?_push_of_some _ e)
  refine kla_codeExpr (wpAny_mono (h _ s.heap.objs.size h₁ FG ⟨hns, fun b o e => hk₁ b o (of_hideAll _ e), Nat.le_of_eq (hideAll_size _ _)⟩
    (fun p hp => ⟨hk₁ _ _ (N p hp).1, Nat.ne_of_lt (Heap.lt_size (N p hp).1), hideAll_none _ (List.mem_map_of_mem hp)⟩) BG (dicts_push hf FG D) (XB.keeps BG.stays) (TB.keeps BG.stays)) (fun v s' hl => ?_) fun _ _ y => y)
  obtain ⟨g', L', m', news', T', F', N', k⟩ := hl
  obtain ⟨h₀', T1, F1, N1, B1, D1⟩ := back_of hf FG B D T' F'.keep fun p hp => ⟨(N' p hp).1, (N' p hp).2.2⟩
  exact k h₀' (T0.trans T1) F1 N1 B1 D1
end

section
variable {M : Model} {A : Around} {E : Value → Shared → Prop} {s' : Shared} {base g g₂ : Heap} {outer : List Env} {L e : Addr} {m : Str → Option Value} {env : Env} {Q : Unit → Shared → Prop} {news : List (Addr × Obj)} {cls : Value}
/-- an exception passes through a frame -/
theorem passX (hf : env.frame = some L) (K : Below A base outer g) (F : Fr g L g₂ m) (R : RaisedSN base g₂ (env :: outer) e cls news s'.heap) (hsm : g₂.UpToSlots s'.heap)
    (hQ : ∀ h', RaisedSN base g outer e cls news h' → g.UpToSlots h' → Q () { s' with heap := h' }) : wpAny M (A.deeper env) (leaving env (.ref e)) Q E s' := by
  obtain ⟨B, a0, hB, hBG, hl, hfl⟩ := R
  exact wpAny_leaves_onW (Around.frames_deeper K.stack) hf hfl fun h' x1 x2 =>
    hQ h' ⟨B, a0, hB, fun b o q nm => hBG b o (F.keep b o q) (fun hm => by
      rcases frs_mem hf hm with z | z
      · rw [z, kts_self F] at q; cases q
      · exact nm z), fun q hq => ⟨(hl q hq).1, kts_none F.keep (hl q hq).2.1, (hl q hq).2.2⟩, x1⟩ ((Heap.UpToSlots.of_keeps F.keep).trans (hsm.trans x2))
end

/-- the exception as the caller meets it -/
theorem exc_of {A₀ : Around} {base h₀ g₀ g g' : Heap} {outer : List Env} {env : Env} {L e : Addr} {m : Str → Option Value} {news' : List (Addr × Obj)} {cls : Value} {h' : Heap} {P : Prop} (hf : env.frame = some L) (FG : Fr h₀ L g m) (B : Below A₀ base outer h₀) (D : KtsDicts (frs outer) h₀) (T0 : KtsTurn (frs outer) g₀ h₀)
    (T : KtsTurn (frs (env :: outer)) g g') (R : RaisedSN base g' (env :: outer) e cls news' h') (U : g'.UpToSlots h')
    (k : ∀ h₀' g₁, KtsTurn (frs outer) g₀ h₀' → Fr h₀' L g₁ m → Below A₀ base outer h₀' → KtsDicts (frs outer) h₀' → RaisedSN base g₁ (env :: outer) e cls news' h' → g₁.UpToSlots h' → P) : P := by
  obtain ⟨h₀', T1, F1, _, B1, D1⟩ := back_of (news' := []) hf FG B D T (fun _ _ e => e) fun _ hp => nomatch hp
  exact k h₀' g' (T0.trans T1) F1 B1 D1 R U
end Mine
end
section
open PySem PySem.W PyProof.Rows PySem.Calls
set_option Elab.async false
set_option maxRecDepth 100000
namespace Mine
theorem toSN {base G h : Heap} {l : List Env} {e t : Addr} {cls : Value} {vs : List Value} {news : List (Addr × Obj)} (R : RaisedS base G l e cls t vs news h) : RaisedSN base G l e cls news h := by
  obtain ⟨⟨B, hB, hBG, hl, hfl, _⟩, _⟩ := R
  exact ⟨B, .ref t, hB, hBG, hl, hfl⟩

/-- an exception of a built-in class that has just been made -/
structure NewX (h h' : Heap) (e : Addr) (cls : String) : Prop where
  keeps : ∀ b o, h.get? b = some o → h'.get? b = some o
  new : h.get? e = none
  there : ∃ ob vs a0, h'.get? e = some ob ∧ ob.cls = .type cls ∧ ob.data = .fields vs ∧ vs[0]? = some a0 ∧ vs[1]? = some .none

/-- the exception's own object and its trace's head, as they lie in the heap -/
structure ExcAt (e T : Addr) (oe oT : Obj) (cls : Value) : Prop where
  cls : oe.cls = cls
  data : ∃ vs ts a0, oe.data = .fields vs ∧ vs[0]? = some a0 ∧ vs[1]? = some (.ref T) ∧ oT.data = .fields ts ∧ ts[3]? = some .none
  ne : T ≠ e

section
variable {prog : Program} {w : World} {A₀ : Around} {E : Value → Shared → Prop} {s' : Shared} {base g g₀ G B : Heap} {outer : List Env} {L a e : Addr} {m : Str → Option Value} {name : Str} {scope : Scope} {cd a0 : Value}
  {b₀ : Stmt} {suite : List Stmt} {pos np : Pos} {rest : List ExceptHandler} {Q : Flow → Shared → Prop} {news : List (Addr × Obj)} {KF : Frag}
  {p : Program} {loose : List Str} {mean : ExcName → Option Value} {mg mb : Str → Option Value} {x : Str} {X T' : String}

theorem catchCore (hBG : ∀ b o, G.get? b = some o → b ∉ frs (envOf name scope L a cd :: outer) → B.get? b = some o) (hl : ∀ q ∈ news, B.get? q.1 = some q.2 ∧ G.get? q.1 = none ∧ base.get? q.1 = none)
    (hheld : Heap.HeldW B (envOf name scope L a cd :: outer) e (.type X) a0 L s'.heap) (hsm : G.UpToSlots s'.heap)
    (F : Fr g L G m) (K : Below A₀ base outer g) (XB : KF.In base) (TB : Top p loose mean mg mb base) (D : KtsDicts (frs outer) g) (T0 : KtsTurn (frs outer) g₀ g)
    (ex : nsIn KF mainGlobals x = some none) (hv : bootBuiltins x = some (.type T')) (hn' : x ≠ "__name__")
    (hexc : isSubtype (.type T') (.type "BaseException") = pure true) (hnt : isSubtype (.type ((Manifest.find? T').elim "type" fun y => y.metatype)) (.type "tuple") = pure false) (hsub : isSubtype (.type X) (.type T') = pure true)
    (k : ∀ h' g' oe T oT, KtsTurn (frs outer) g₀ g' → Fr g' L h' m → News g' L h' ((e, oe) :: (T, oT) :: news) → ExcAt e T oe oT (.type X) → (∀ q ∈ news, q.1 ≠ e ∧ q.1 ≠ T) → Below A₀ base outer g' → KtsDicts (frs outer) g' → KF.In g' → Top p loose mean mg mb g' →
      wpAny (model prog w) ((A₀.deeper (envOf name scope L a cd)).mark (some (.ref e))) (execs (b₀ :: suite) (envOf name scope L a cd)) Q E { s' with heap := h' })
    (hk : scope.kind = .function) (hx : (envOf name scope L a cd).kindOf x = some .globalImplicit) (hd : (x == ("__debug__" : Str)) = false)
    (hE : PassesOwnAt (model prog w) ((A₀.deeper (envOf name scope L a cd)).mark (some (.ref e))) (A₀.deeper (envOf name scope L a cd)) (envOf name scope L a cd) E) :
    wpAny (model prog w) (A₀.deeper (envOf name scope L a cd)) (setFlight (.ref e) none) (fun _ s₃ =>
      wpAny (model prog w) (A₀.deeper (envOf name scope L a cd)) (handleBy (.ref e) (envOf name scope L a cd) (.ExceptHandler (some (.Name x np)) none (b₀ :: suite) pos :: rest)) Q E s₃) E s' := by
  have hL : B.get? L = none := by
    obtain ⟨_, ⟨L', _, hf, hnn, _⟩, _⟩ := hheld.2.2.1
    obtain rfl : L = L' := Option.some.inj hf
    exact hnn
  refine wpAny_landsW hheld fun h₅ hfl₅ hsm₅ => ?_
  obtain ⟨g₅, T₅, F₅, K₅⟩ := kts_ground K F hBG hfl₅.1 (hsm.trans hsm₅)
  have X₅ : KF.In g₅ := XB.keeps K₅.stays
  have P₅ : TopRead p loose mg mb g₅ := topRead_of (TB.keeps K₅.stays)
  obtain ⟨ob, hob, hobc⟩ := hfl₅.there
  refine wpAny_handleBy_builtin (X := X) (T := T') (b := true) hexc hnt hsub (name_B F₅ X₅ P₅ ex hv hn' ⟨rfl, ⟨ob, hob, hobc⟩, ?_⟩ hk hx hd)
  refine lands_againW hfl₅ fun h₆ hfl₆ hsm₆ => ?_
  have U : G.UpToSlots h₆ := (hsm.trans hsm₅).trans hsm₆
  obtain ⟨g₆, T₆, F₆, K₆⟩ := kts_ground K F hBG hfl₆.1 U
  obtain ⟨_, f2, _, oe, vs, T, oT, ts, he, ⟨hcls, h0⟩, hd', h1, hnT, hTe, hT, hdT, h3⟩ := hfl₆
  have off : ∀ {b : Addr} {o : Obj} {us : Array Value}, B.get? b = none → h₆.get? b = some o → o.data = .fields us → g₆.get? b = none := fun {b o us} hb ho hu =>
    T₆.none_ _ (kts_fresh F hBG hb fun o' ho' hm => by
      obtain ⟨_, o'', ho'', hnf⟩ := K.frames.mem hm
      rw [ho'] at ho''
      cases ho''
      obtain ⟨sl, hs⟩ := U _ _ (F.keep _ _ ho') hnf
      rw [ho] at hs
      cases hs
      exact hnf _ hu)
  have Nl : News g₆ L h₆ news := fun q hq => ⟨‹Heap.StaysIn B h₆› _ _ (hl q hq).1, (fun z => by have z2 := (hl q hq).1; rw [z, hL] at z2; cases z2), T₆.none_ _ (kts_none F.keep (hl q hq).2.1)⟩
  have N₆ := News.more F₆ (News.more F₆ Nl hT (fun es n q => by rw [hdT] at q; cases q) (off hnT hT hdT)) he (fun es n q => by rw [hd'] at q; cases q) (off f2 he hd')
  have hne : ∀ q ∈ news, q.1 ≠ e ∧ q.1 ≠ T := fun q hq => ⟨fun z => (by have z2 := (hl q hq).1; rw [z, f2] at z2; cases z2), fun z => (by have z2 := (hl q hq).1; rw [z, hnT] at z2; cases z2)⟩
  exact wpAny_passesOwnAt hE (k h₆ g₆ oe T oT (T0.trans T₆) F₆ N₆ ⟨hcls, ⟨vs, ts, a0, hd', h0, h1, hdT, h3⟩, hTe⟩ hne K₆ (D.turn T₆) (XB.keeps K₆.stays) (TB.keeps K₆.stays))

/-- caught in the frame: it came from a call -/
theorem caughtT (R : RaisedSN base G (envOf name scope L a cd :: outer) e (.type X) news s'.heap) (F : Fr g L G m) (K : Below A₀ base outer g) (hsm : G.UpToSlots s'.heap) (XB : KF.In base) (TB : Top p loose mean mg mb base) (D : KtsDicts (frs outer) g) (T0 : KtsTurn (frs outer) g₀ g)
    (ex : nsIn KF mainGlobals x = some none) (hv : bootBuiltins x = some (.type T')) (hn' : x ≠ "__name__")
    (hexc : isSubtype (.type T') (.type "BaseException") = pure true) (hnt : isSubtype (.type ((Manifest.find? T').elim "type" fun y => y.metatype)) (.type "tuple") = pure false) (hsub : isSubtype (.type X) (.type T') = pure true)
    (k : ∀ h' g' oe T oT, KtsTurn (frs outer) g₀ g' → Fr g' L h' m → News g' L h' ((e, oe) :: (T, oT) :: news) → ExcAt e T oe oT (.type X) → (∀ q ∈ news, q.1 ≠ e ∧ q.1 ≠ T) → Below A₀ base outer g' → KtsDicts (frs outer) g' → KF.In g' → Top p loose mean mg mb g' →
      wpAny (model prog w) ((A₀.deeper (envOf name scope L a cd)).mark (some (.ref e))) (execs (b₀ :: suite) (envOf name scope L a cd)) Q E { s' with heap := h' })
    (hk : scope.kind = .function := by rfl) (hx : (envOf name scope L a cd).kindOf x = some .globalImplicit := by rfl) (hd : (x == ("__debug__" : Str)) = false := by decide)
    (hE : PassesOwnAt (model prog w) ((A₀.deeper (envOf name scope L a cd)).mark (some (.ref e))) (A₀.deeper (envOf name scope L a cd)) (envOf name scope L a cd) E := by passes_own) :
    wpAny (model prog w) (A₀.deeper (envOf name scope L a cd)) (noteFrame (.ref e) (envOf name scope L a cd))
      (fun _ s₂ => wpAny (model prog w) (A₀.deeper (envOf name scope L a cd)) (setFlight (.ref e) none) (fun _ s₃ =>
        wpAny (model prog w) (A₀.deeper (envOf name scope L a cd)) (handleBy (.ref e) (envOf name scope L a cd) (.ExceptHandler (some (.Name x np)) none (b₀ :: suite) pos :: rest)) Q E s₃) E s₂) E s' := by
  obtain ⟨B, a0, hB, hBG, hl, hfl⟩ := R
  exact wpAny_looks_onW (Around.frames_deeper K.stack) rfl hfl fun h₄ hheld₄ hsm₄ =>
    catchCore (s' := { s' with heap := h₄ }) hBG hl hheld₄ (hsm.trans hsm₄) F K XB TB D T0 ex hv hn' hexc hnt hsub k hk hx hd hE

/-- caught in the frame: it rose in the frame itself -/
theorem caughtN {h : Heap} (hx' : NewX h s'.heap e X) (F : Fr g L h m) (N : News g L h news) (K : Below A₀ base outer g) (XB : KF.In base) (TB : Top p loose mean mg mb base) (D : KtsDicts (frs outer) g) (T0 : KtsTurn (frs outer) g₀ g)
    (ex : nsIn KF mainGlobals x = some none) (hv : bootBuiltins x = some (.type T')) (hn' : x ≠ "__name__")
    (hexc : isSubtype (.type T') (.type "BaseException") = pure true) (hnt : isSubtype (.type ((Manifest.find? T').elim "type" fun y => y.metatype)) (.type "tuple") = pure false) (hsub : isSubtype (.type X) (.type T') = pure true)
    (k : ∀ h' g' oe T oT, KtsTurn (frs outer) g₀ g' → Fr g' L h' m → News g' L h' ((e, oe) :: (T, oT) :: news) → ExcAt e T oe oT (.type X) → (∀ q ∈ news, q.1 ≠ e ∧ q.1 ≠ T) → Below A₀ base outer g' → KtsDicts (frs outer) g' → KF.In g' → Top p loose mean mg mb g' →
      wpAny (model prog w) ((A₀.deeper (envOf name scope L a cd)).mark (some (.ref e))) (execs (b₀ :: suite) (envOf name scope L a cd)) Q E { s' with heap := h' })
    (hk : scope.kind = .function := by rfl) (hx : (envOf name scope L a cd).kindOf x = some .globalImplicit := by rfl) (hd : (x == ("__debug__" : Str)) = false := by decide)
    (hE : PassesOwnAt (model prog w) ((A₀.deeper (envOf name scope L a cd)).mark (some (.ref e))) (A₀.deeper (envOf name scope L a cd)) (envOf name scope L a cd) E := by passes_own) :
    wpAny (model prog w) (A₀.deeper (envOf name scope L a cd)) (noteFrame (.ref e) (envOf name scope L a cd))
      (fun _ s₂ => wpAny (model prog w) (A₀.deeper (envOf name scope L a cd)) (setFlight (.ref e) none) (fun _ s₃ =>
        wpAny (model prog w) (A₀.deeper (envOf name scope L a cd)) (handleBy (.ref e) (envOf name scope L a cd) (.ExceptHandler (some (.Name x np)) none (b₀ :: suite) pos :: rest)) Q E s₃) E s₂) E s' := by
  obtain ⟨hkeep, hnew, ob, us, tp, he, hcls, hd0, hu0, hu1⟩ := hx'
  have K' := K.push (name := name) (a := a) (cd := cd) F hk
  have hf : (envOf name scope L a cd).frame = some L := rfl
  have hin : ∀ env ∈ (envOf name scope L a cd :: outer), ∀ b, env.frame = some b → b ∈ frs (envOf name scope L a cd :: outer) := fun env he b hb => List.mem_filterMap.mpr ⟨env, he, hb⟩
  have hfr := Around.frames_deeper (env := envOf name scope L a cd) K.stack
  obtain ⟨FG, _, _, _⟩ := groundX (R := fun _ _ => True) (s := { s' with heap := h }) (A := A₀.deeper (envOf name scope L a cd)) (env := envOf name scope L a cd) K F N hfr hf hk
  have hen : (hideAll h (frs (envOf name scope L a cd :: outer))).get? e = none := by
    cases q : (hideAll h (frs (envOf name scope L a cd :: outer))).get? e with
    | none => rfl
    | some o => have z := of_hideAll _ q; rw [hnew] at z; cases z
  have hl : ∀ q ∈ news, (hideAll h (frs (envOf name scope L a cd :: outer))).get? q.1 = some q.2 ∧ (hideAll h (news.map (·.1))).get? q.1 = none ∧ base.get? q.1 = none := fun q hq => by
    refine ⟨hideAll_get _ (N q hq).1 fun hm => ?_, hideAll_none _ (List.mem_map_of_mem hq), fresh_of_stays K.stays (N q hq).2.2⟩
    rcases frs_mem hf hm with z | z
    · exact (N q hq).2.1 z
    · obtain ⟨_, o, ho, _⟩ := K.frames.mem z
      rw [(N q hq).2.2] at ho; cases ho
  unfold noteFrame
  simp only [hf]
  refine wpAny_bind (wpAny_field he hd0 hu1 ?_)
  rw [if_neg (by decide)]
  refine wpAny_entryW hfr ((funFrames_hide K'.frames hin).of_keeps fun b o hb _ => ⟨o, hkeep b o hb, rfl⟩) hf he (fun b o hb => hkeep b o (of_hideAll _ hb)) hen hd0 (Array.getElem?_eq_some_iff.mp hu1).1 hu0 fun h' hN => ?_
  obtain ⟨k1, k2, k3, k4⟩ := hN
  rw [hcls] at k3
  exact catchCore (s' := { s' with heap := h' }) (B := hideAll h (frs (envOf name scope L a cd :: outer))) (fun b o hb hm => hideAll_get _ (of_hideAll _ hb) hm) hl ⟨k1, hen, k2, k3⟩
    ((Heap.UpToSlots.of_keeps fun b o hb => hkeep b o (of_hideAll _ hb)).trans k4) FG K XB TB D T0 ex hv hn' hexc hnt hsub k hk hx hd hE
end

section
variable {prog : Program} {w : World} {A A₀ : Around} {E : Value → Shared → Prop} {s : Shared} {base g : Heap} {outer : List Env} {L e T : Addr} {m : Str → Option Value} {env : Env} {cls : Value} {Q : Flow → Shared → Prop} {news led : List (Addr × Obj)} {oe oT : Obj} {pos : Pos}
/-- a bare raise in a handler: the handled exception goes on -/
theorem bareT (F : Fr g L s.heap m) (N : News g L s.heap led) (he : (e, oe) ∈ led) (hT : (T, oT) ∈ led) (hn : ∀ q ∈ news, q ∈ led) (hx : ExcAt e T oe oT cls) (hne : ∀ q ∈ news, q.1 ≠ e ∧ q.1 ≠ T) (K : Below A₀ base outer g)
    (hf : env.frame = some L) (hke : env.scope.kind = .function) (hh : A.handled = some (.ref e))
    (hQ : ∀ G h', Fr g L G m → RaisedHN base G (env :: outer) L e cls news h' → G.UpToSlots h' → E (.ref e) { s with heap := h' }) :
    wpAny (model prog w) A (exec (.Raise none none pos) env) Q E s := by
  obtain ⟨hcls, ⟨vs, ts, a0, hd, h0, h1, hdT, h3⟩, hTe⟩ := hx
  have K' := pushX K F hf hke
  have hfr := Around.frames_deeper (env := env) K.stack
  obtain ⟨FG, _, _, _⟩ := groundX (R := fun _ _ => True) (A := A₀.deeper env) (env := env) K F N hfr hf hke
  have hin : ∀ env' ∈ (env :: outer), ∀ b, env'.frame = some b → b ∈ e :: T :: frs (env :: outer) := fun env' he b hb => .tail _ (.tail _ (List.mem_filterMap.mpr ⟨env', he, hb⟩))
  have offF : ∀ {q : Addr × Obj}, q ∈ led → q.1 ∉ frs (env :: outer) := fun {q} hq hm => by
    rcases frs_mem hf hm with z | z
    · exact (N q hq).2.1 z
    · obtain ⟨_, o, ho, _⟩ := K.frames.mem z
      rw [(N q hq).2.2] at ho; cases ho
  have nb : ∀ {q : Addr × Obj}, q ∈ led → base.get? q.1 = none := fun {q} hq => fresh_of_stays K.stays (N q hq).2.2
  have hB : base.StaysIn (hideAll s.heap (e :: T :: frs (env :: outer))) := fun b o hb => hideAll_get _ (F.keep b o (K.stays b o hb)) fun hm => by
    rcases List.mem_cons.mp hm with z | hm
    · rw [z, nb he] at hb; cases hb
    · rcases List.mem_cons.mp hm with z | hm
      · rw [z, nb hT] at hb; cases hb
      · rw [(K'.frames.mem hm).1] at hb; cases hb
  have hBG : ∀ b o, (hideAll s.heap (led.map (·.1))).get? b = some o → b ∉ frs (env :: outer) → (hideAll s.heap (e :: T :: frs (env :: outer))).get? b = some o := fun b o hb hm => hideAll_get _ (of_hideAll _ hb) fun hm2 => by
    rcases List.mem_cons.mp hm2 with z | hm2
    · rw [z, hideAll_none _ (List.mem_map_of_mem he)] at hb; cases hb
    · rcases List.mem_cons.mp hm2 with z | hm2
      · rw [z, hideAll_none _ (List.mem_map_of_mem hT)] at hb; cases hb
      · exact hm hm2
  have hl : ∀ q ∈ news, (hideAll s.heap (e :: T :: frs (env :: outer))).get? q.1 = some q.2 ∧ (hideAll s.heap (led.map (·.1))).get? q.1 = none ∧ base.get? q.1 = none := fun q hq => by
    refine ⟨hideAll_get _ (N q (hn q hq)).1 fun hm => ?_, hideAll_none _ (List.mem_map_of_mem (hn q hq)), nb (hn q hq)⟩
    rcases List.mem_cons.mp hm with z | hm
    · exact (hne q hq).1 z
    · rcases List.mem_cons.mp hm with z | hm
      · exact (hne q hq).2 z
      · exact offF (hn q hq) hm
  have hfl : Heap.FlyingW (hideAll s.heap (e :: T :: frs (env :: outer))) (env :: outer) e cls a0 s.heap :=
    ⟨fun b o hb => of_hideAll _ hb, hideAll_none _ (.head _), funFrames_hide K'.frames hin, oe, vs, T, oT, ts, (N _ he).1, ⟨hcls, h0⟩, hd, h1, hideAll_none _ (.tail _ (.head _)), hTe, (N _ hT).1, hdT, h3⟩
  rw [arm_exec_Raise]
  refine wpAny_bind (wpAny_standAt ?_)
  show wpAny _ _ (raiseStmt env none none) _ _ _
  unfold raiseStmt
  refine wpAny_bind (wpAny_handled ?_)
  rw [hh]
  refine wpAny_bind (wpAny_rule ?_)
  refine wpAny_bind (wpAny_field (N _ he).1 hd h1 ?_)
  rw [if_neg (show ¬ ((Value.ref T == Value.none) = true) from by simp)]
  rw [hf]
  refine wpAny_bind (setFlight_onW hfl fun h' hh' hs => wpAny_throw ?_)
  exact hQ _ h' FG ⟨_, a0, hB, hBG, hl, hh'⟩ ((Heap.UpToSlots.of_keeps fun b o hb => of_hideAll _ hb).trans hs)
end
end Mine
end
section
open PySem PySem.W PyProof.Rows PySem.Calls
set_option Elab.async false
set_option maxRecDepth 100000
namespace Mine
abbrev top (hd : Option Value) (dp un : Nat) (gd : Option (List Code)) (cn : Str) (cs : Scope) (L a : Addr) (ccd : Value) (cl : List (Str × Addr)) (outer : List Env) : Around :=
  { handled := hd, depth := dp, frames := some (envX cn cs L a ccd cl :: outer), guards := gd, units := un }
/-- the six entries of the object's own dict: the hashes, the keys' marks, the values -/
structure Keys where
  h1 : Int
  h2 : Int
  h3 : Int
  h4 : Int
  h5 : Int
  h6 : Int
  t1 : Tok
  t2 : Tok
  t3 : Tok
  t4 : Tok
  t5 : Tok
  t6 : Tok
abbrev oneD (k : Keys) (j o se f si r : Value) : List DictEntry :=
  [⟨k.h1, .str "_Persistent__jar" k.t1, j⟩, ⟨k.h2, .str "_Persistent__oid" k.t2, o⟩, ⟨k.h3, .str "_Persistent__serial" k.t3, se⟩, ⟨k.h4, .str "_Persistent__flags" k.t4, f⟩, ⟨k.h5, .str "_Persistent__size" k.t5, si⟩, ⟨k.h6, .str "_Persistent__ring" k.t6, r⟩]
structure JKeys where
  h1 : Int
  h2 : Int
  h3 : Int
  h4 : Int
  t1 : Tok
  t2 : Tok
  t3 : Tok
  t4 : Tok
abbrev jarD (k : JKeys) (l c s r : Value) : List DictEntry :=
  [⟨k.h1, .str "loaded" k.t1, l⟩, ⟨k.h2, .str "changed" k.t2, c⟩, ⟨k.h3, .str "setstate" k.t3, s⟩, ⟨k.h4, .str "register" k.t4, r⟩]
abbrev lamArgs (n : Nat) : Arguments := { posonlyargs := [], args := [{ arg := "one", annotation := none, pos := ⟨n, 26, n, 29⟩ }], vararg := none, kwonlyargs := [], kw_defaults := [], kwarg := none, defaults := [] }
abbrev lamBody (f : Str) (n : Nat) : Expr := .Call (.Name f ⟨n, 31, n, 40⟩) [.Name "one" ⟨n, 41, n, 44⟩, .Name "jar" ⟨n, 46, n, 49⟩, .Name "fails" ⟨n, 51, n, 56⟩] [] ⟨n, 31, n, 57⟩
abbrev lamScope (f : Str) : Scope := { kind := .function, names := [("one", .local), ("fails", .free), ("jar", .free), (f, .globalImplicit)], isGenerator := false, isCoroutine := false }
/-- what stands in the ledger: the addresses, the marks, the parts that turn -/
structure V where
  x : Addr
  dx : Addr
  y : Addr
  dy : Addr
  ll : Addr
  lc : Addr
  fs : Addr
  cs : Addr
  fr : Addr
  cr : Addr
  cf : Addr
  cj : Addr
  fl : Addr
  ks : Keys
  jk : JKeys
  t0 : Tok
  tz : Tok
  F : Value
  vl : List Value
  vc : List Value
  nl : Nat
  nc : Nat
  nf : Nat
  f0 : Bool
  f1 : Bool
  qs : Str
  qr : Str
  ps : Value
  pr : Value
  us : Value
  ur : Value
  os : Obj
  or : Obj
  ocf : Obj
  ocj : Obj
structure Jars (news : List (Addr × Obj)) (v : V) : Prop where
  x : (v.x, instObj 293 v.dx) ∈ news
  dx : (v.dx, dictOf (oneD v.ks (.ref v.y) (.bytes #[109] v.t0) .none v.F (.int 0 v.tz) .none) 6) ∈ news
  y : (v.y, instObj 73 v.dy) ∈ news
  dy : (v.dy, dictOf (jarD v.jk (.ref v.ll) (.ref v.lc) (.ref v.fs) (.ref v.fr)) 4) ∈ news
  ll : (v.ll, PySem.W.listOf v.vl.toArray v.nl) ∈ news
  lc : (v.lc, PySem.W.listOf v.vc.toArray v.nc) ∈ news
  fs : (v.fs, kla_obj "<lambda>" v.qs (lamArgs 298) (lamBody "_law_load" 298) (lamScope "_law_load") [("jar", v.cj), ("fails", v.cf)] v.ps v.cs v.us) ∈ news
  cs : (v.cs, v.os) ∈ news
  fr : (v.fr, kla_obj "<lambda>" v.qr (lamArgs 299) (lamBody "_law_tell" 299) (lamScope "_law_tell") [("jar", v.cj), ("fails", v.cf)] v.pr v.cr v.ur) ∈ news
  cr : (v.cr, v.or) ∈ news
  cf : (v.cf, v.ocf) ∈ news
  cj : (v.cj, v.ocj) ∈ news
  fl : (v.fl, PySem.W.listOf #[.bool v.f0, .bool v.f1] v.nf) ∈ news
  os : ∃ vs t, v.os.data = .fields vs ∧ vs[1]? = some (.str v.qs t)
  or : ∃ vs t, v.or.data = .fields vs ∧ vs[1]? = some (.str v.qr t)
  ocf : v.ocf.data = .cell (some (.ref v.fl))
  ocj : v.ocj.data = .cell (some (.ref v.y))
  ne1 : v.ll ≠ v.lc
  ne2 : v.ll ≠ v.fl
  ne3 : v.lc ≠ v.fl

theorem Jars.x' {news : List (Addr × Obj)} {v : V} {a : Addr} (J : Jars news v) (h : v.x = a) : (a, instObj 293 v.dx) ∈ news := h ▸ J.x
theorem Jars.dx' {news : List (Addr × Obj)} {v : V} {a : Addr} (J : Jars news v) (h : v.dx = a) : (a, dictOf (oneD v.ks (.ref v.y) (.bytes #[109] v.t0) .none v.F (.int 0 v.tz) .none) 6) ∈ news := h ▸ J.dx
theorem Jars.y' {news : List (Addr × Obj)} {v : V} {a : Addr} (J : Jars news v) (h : v.y = a) : (a, instObj 73 v.dy) ∈ news := h ▸ J.y
theorem Jars.dy' {news : List (Addr × Obj)} {v : V} {a : Addr} (J : Jars news v) (h : v.dy = a) : (a, dictOf (jarD v.jk (.ref v.ll) (.ref v.lc) (.ref v.fs) (.ref v.fr)) 4) ∈ news := h ▸ J.dy
theorem Jars.ll' {news : List (Addr × Obj)} {v : V} {a : Addr} (J : Jars news v) (h : v.ll = a) : (a, PySem.W.listOf v.vl.toArray v.nl) ∈ news := h ▸ J.ll
theorem Jars.lc' {news : List (Addr × Obj)} {v : V} {a : Addr} (J : Jars news v) (h : v.lc = a) : (a, PySem.W.listOf v.vc.toArray v.nc) ∈ news := h ▸ J.lc
theorem Jars.fs' {news : List (Addr × Obj)} {v : V} {a : Addr} (J : Jars news v) (h : v.fs = a) : (a, kla_obj "<lambda>" v.qs (lamArgs 298) (lamBody "_law_load" 298) (lamScope "_law_load") [("jar", v.cj), ("fails", v.cf)] v.ps v.cs v.us) ∈ news := h ▸ J.fs
theorem Jars.cs' {news : List (Addr × Obj)} {v : V} {a : Addr} (J : Jars news v) (h : v.cs = a) : (a, v.os) ∈ news := h ▸ J.cs
theorem Jars.fr' {news : List (Addr × Obj)} {v : V} {a : Addr} (J : Jars news v) (h : v.fr = a) : (a, kla_obj "<lambda>" v.qr (lamArgs 299) (lamBody "_law_tell" 299) (lamScope "_law_tell") [("jar", v.cj), ("fails", v.cf)] v.pr v.cr v.ur) ∈ news := h ▸ J.fr
theorem Jars.cr' {news : List (Addr × Obj)} {v : V} {a : Addr} (J : Jars news v) (h : v.cr = a) : (a, v.or) ∈ news := h ▸ J.cr
theorem Jars.cf' {news : List (Addr × Obj)} {v : V} {a : Addr} (J : Jars news v) (h : v.cf = a) : (a, v.ocf) ∈ news := h ▸ J.cf
theorem Jars.cj' {news : List (Addr × Obj)} {v : V} {a : Addr} (J : Jars news v) (h : v.cj = a) : (a, v.ocj) ∈ news := h ▸ J.cj
theorem Jars.fl' {news : List (Addr × Obj)} {v : V} {a : Addr} (J : Jars news v) (h : v.fl = a) : (a, PySem.W.listOf #[.bool v.f0, .bool v.f1] v.nf) ∈ news := h ▸ J.fl

theorem upd_keep {d a : Addr} {o o' oa : Obj} {l l' : List (Addr × Obj)} (U : Upd d o o' l l') (h : (a, oa) ∈ l) (hn : a ≠ d) : (a, oa) ∈ l' := by
  induction U with
  | head _ =>
    rcases List.mem_cons.mp h with e | h
    · injection e with e1 _; exact absurd e1 hn
    · exact .tail _ h
  | tail _ _ ih =>
    rcases List.mem_cons.mp h with e | h
    · rw [e]; exact .head _
    · exact .tail _ (ih h)
theorem upd_here {d : Addr} {o o' : Obj} {l l' : List (Addr × Obj)} (U : Upd d o o' l l') : (d, o') ∈ l' := by
  induction U with
  | head _ => exact .head _
  | tail _ _ ih => exact .tail _ ih
theorem upd_old {d : Addr} {o o' : Obj} {l l' : List (Addr × Obj)} (U : Upd d o o' l l') : (d, o) ∈ l := by
  induction U with
  | head _ => exact .head _
  | tail _ _ ih => exact .tail _ ih
/-- at that address stands the one object alone -/
theorem upd_one {d : Addr} {o o' oa : Obj} {l l' : List (Addr × Obj)} (U : Upd d o o' l l') (h : (d, oa) ∈ l) : oa = o := by
  induction U with
  | head hr =>
    rcases List.mem_cons.mp h with e | h
    · injection e
    · exact absurd rfl (hr _ h)
  | tail hn _ ih =>
    rcases List.mem_cons.mp h with e | h
    · rw [← e] at hn; exact absurd rfl hn
    · exact ih h
theorem upd_other {d a : Addr} {o o' oa : Obj} {l l' : List (Addr × Obj)} (U : Upd d o o' l l') (h : (a, oa) ∈ l) (hn : oa ≠ o) : (a, oa) ∈ l' :=
  upd_keep U h fun e => hn (upd_one U (e ▸ h))
theorem upd_keys {d : Addr} {o o' : Obj} {l l' : List (Addr × Obj)} (U : Upd d o o' l l') : l'.map (·.1) = l.map (·.1) := by
  induction U with
  | head _ => rfl
  | tail _ _ ih => simp only [List.map_cons, ih]
theorem keys_all {l l' : List (Addr × Obj)} {P : Addr → Prop} (e : l'.map (·.1) = l.map (·.1)) (h : ∀ q ∈ l, P q.1) : ∀ q ∈ l', P q.1 := fun q hq => by
  have z : q.1 ∈ l'.map (·.1) := List.mem_map_of_mem hq
  rw [e] at z
  obtain ⟨q', hq', e'⟩ := List.mem_map.mp z
  exact e' ▸ h q' hq'

/-- the kinds of object that stand there, told apart -/
def tagO (o : Obj) : Nat := match o.data with
  | .plain => 0
  | .dict _ n => 1 + n
  | .seq _ _ => 100
  | .func _ => 101
  | .fields _ => 102
  | .cell _ => 103
  | _ => 104
theorem ne_of_tag {o o' : Obj} (h : tagO o ≠ tagO o') : o ≠ o' := fun e => h (by rw [e])
theorem tag_fields {o : Obj} {vs : Array Value} (h : o.data = .fields vs) : tagO o = 102 := by unfold tagO; rw [h]
theorem tag_cell {o : Obj} {c : Option Value} (h : o.data = .cell c) : tagO o = 103 := by unfold tagO; rw [h]

theorem Jars.setF {news news' : List (Addr × Obj)} {v : V} {F' : Value} (J : Jars news v) (U : Upd v.dx (dictOf (oneD v.ks (.ref v.y) (.bytes #[109] v.t0) .none v.F (.int 0 v.tz) .none) 6) (dictOf (oneD v.ks (.ref v.y) (.bytes #[109] v.t0) .none F' (.int 0 v.tz) .none) 6) news news') :
    Jars news' { v with F := F' } := by
  obtain ⟨j1, j2, j3, j4, j5, j6, j7, j8, j9, j10, j11, j12, j13, ⟨vs, t, d1, d2⟩, ⟨vs', t', d3, d4⟩, d5, d6, n1, n2, n3⟩ := J
  exact ⟨upd_other U j1 (ne_of_tag (Nat.ne_of_beq_eq_false rfl)), upd_here U, upd_other U j3 (ne_of_tag (Nat.ne_of_beq_eq_false rfl)), upd_other U j4 (ne_of_tag (Nat.ne_of_beq_eq_false rfl)), upd_other U j5 (ne_of_tag (Nat.ne_of_beq_eq_false rfl)), upd_other U j6 (ne_of_tag (Nat.ne_of_beq_eq_false rfl)),
    upd_other U j7 (ne_of_tag (Nat.ne_of_beq_eq_false rfl)), upd_other U j8 (ne_of_tag (by rw [tag_fields d1]; exact Nat.ne_of_beq_eq_false rfl)), upd_other U j9 (ne_of_tag (Nat.ne_of_beq_eq_false rfl)), upd_other U j10 (ne_of_tag (by rw [tag_fields d3]; exact Nat.ne_of_beq_eq_false rfl)),
    upd_other U j11 (ne_of_tag (by rw [tag_cell d5]; exact Nat.ne_of_beq_eq_false rfl)), upd_other U j12 (ne_of_tag (by rw [tag_cell d6]; exact Nat.ne_of_beq_eq_false rfl)), upd_other U j13 (ne_of_tag (Nat.ne_of_beq_eq_false rfl)), ⟨vs, t, d1, d2⟩, ⟨vs', t', d3, d4⟩, d5, d6, n1, n2, n3⟩

theorem Jars.setL {news news' : List (Addr × Obj)} {v : V} {vl' : List Value} {n' : Nat} (J : Jars news v) (U : Upd v.ll (PySem.W.listOf v.vl.toArray v.nl) (PySem.W.listOf vl'.toArray n') news news') :
    Jars news' { v with vl := vl', nl := n' } := by
  obtain ⟨j1, j2, j3, j4, j5, j6, j7, j8, j9, j10, j11, j12, j13, ⟨vs, t, d1, d2⟩, ⟨vs', t', d3, d4⟩, d5, d6, n1, n2, n3⟩ := J
  exact ⟨upd_other U j1 (ne_of_tag (Nat.ne_of_beq_eq_false rfl)), upd_other U j2 (ne_of_tag (Nat.ne_of_beq_eq_false rfl)), upd_other U j3 (ne_of_tag (Nat.ne_of_beq_eq_false rfl)), upd_other U j4 (ne_of_tag (Nat.ne_of_beq_eq_false rfl)), upd_here U, upd_keep U j6 (Ne.symm n1),
    upd_other U j7 (ne_of_tag (Nat.ne_of_beq_eq_false rfl)), upd_other U j8 (ne_of_tag (by rw [tag_fields d1]; exact Nat.ne_of_beq_eq_false rfl)), upd_other U j9 (ne_of_tag (Nat.ne_of_beq_eq_false rfl)), upd_other U j10 (ne_of_tag (by rw [tag_fields d3]; exact Nat.ne_of_beq_eq_false rfl)),
    upd_other U j11 (ne_of_tag (by rw [tag_cell d5]; exact Nat.ne_of_beq_eq_false rfl)), upd_other U j12 (ne_of_tag (by rw [tag_cell d6]; exact Nat.ne_of_beq_eq_false rfl)), upd_keep U j13 (Ne.symm n2), ⟨vs, t, d1, d2⟩, ⟨vs', t', d3, d4⟩, d5, d6, n1, n2, n3⟩

theorem Jars.setC {news news' : List (Addr × Obj)} {v : V} {vc' : List Value} {n' : Nat} (J : Jars news v) (U : Upd v.lc (PySem.W.listOf v.vc.toArray v.nc) (PySem.W.listOf vc'.toArray n') news news') :
    Jars news' { v with vc := vc', nc := n' } := by
  obtain ⟨j1, j2, j3, j4, j5, j6, j7, j8, j9, j10, j11, j12, j13, ⟨vs, t, d1, d2⟩, ⟨vs', t', d3, d4⟩, d5, d6, n1, n2, n3⟩ := J
  exact ⟨upd_other U j1 (ne_of_tag (Nat.ne_of_beq_eq_false rfl)), upd_other U j2 (ne_of_tag (Nat.ne_of_beq_eq_false rfl)), upd_other U j3 (ne_of_tag (Nat.ne_of_beq_eq_false rfl)), upd_other U j4 (ne_of_tag (Nat.ne_of_beq_eq_false rfl)), upd_keep U j5 n1, upd_here U,
    upd_other U j7 (ne_of_tag (Nat.ne_of_beq_eq_false rfl)), upd_other U j8 (ne_of_tag (by rw [tag_fields d1]; exact Nat.ne_of_beq_eq_false rfl)), upd_other U j9 (ne_of_tag (Nat.ne_of_beq_eq_false rfl)), upd_other U j10 (ne_of_tag (by rw [tag_fields d3]; exact Nat.ne_of_beq_eq_false rfl)),
    upd_other U j11 (ne_of_tag (by rw [tag_cell d5]; exact Nat.ne_of_beq_eq_false rfl)), upd_other U j12 (ne_of_tag (by rw [tag_cell d6]; exact Nat.ne_of_beq_eq_false rfl)), upd_keep U j13 (Ne.symm n3), ⟨vs, t, d1, d2⟩, ⟨vs', t', d3, d4⟩, d5, d6, n1, n2, n3⟩

theorem Jars.pushC {news news' : List (Addr × Obj)} {v : V} {b : Value} (J : Jars news v) (U : Upd v.lc (PySem.W.listOf v.vc.toArray v.nc) (PySem.W.listOf (v.vc.toArray.push b) (v.nc + 1)) news news') :
    Jars news' { v with vc := v.vc ++ [b], nc := v.nc + 1 } := J.setC (by rw [← List.push_toArray]; exact U)
theorem Jars.pushL {news news' : List (Addr × Obj)} {v : V} {b : Value} (J : Jars news v) (U : Upd v.ll (PySem.W.listOf v.vl.toArray v.nl) (PySem.W.listOf (v.vl.toArray.push b) (v.nl + 1)) news news') :
    Jars news' { v with vl := v.vl ++ [b], nl := v.nl + 1 } := J.setL (by rw [← List.push_toArray]; exact U)
theorem Jars.mono {news news' : List (Addr × Obj)} {v : V} (J : Jars news v) (h : ∀ p ∈ news, p ∈ news') : Jars news' v := by
  obtain ⟨j1, j2, j3, j4, j5, j6, j7, j8, j9, j10, j11, j12, j13, d1, d2, d3, d4, n1, n2, n3⟩ := J
  exact ⟨h _ j1, h _ j2, h _ j3, h _ j4, h _ j5, h _ j6, h _ j7, h _ j8, h _ j9, h _ j10, h _ j11, h _ j12, h _ j13, d1, d2, d3, d4, n1, n2, n3⟩
end Mine
end
section
open PySem PySem.W PyProof.Rows PySem.Calls
set_option Elab.async false
set_option maxRecDepth 100000
namespace Mine
/-- a word and its truth -/
inductive Word (news : List (Addr × Obj)) : Bool → Value → Prop
  | bool (b : Bool) : Word news b (.bool b)
  | int (i : Int) (t : Tok) : Word news (i != 0) (.int i t)
  | str (x : Str) (t : Tok) (h : x.length ≤ 100) : Word news ((x.length : Int) != 0) (.str x t)
  | bytes (x : Array UInt8) (t : Tok) (h : x.size ≤ 100) : Word news ((x.size : Int) != 0) (.bytes x t)
  | tup (a : Addr) (items : Array Value) (n : Nat) (hm : (a, ({ cls := .type "tuple", data := .seq items n } : Obj)) ∈ news) (h : items.size ≤ 100) : Word news (!items.isEmpty) (.ref a)

theorem Word.mono {news news' : List (Addr × Obj)} {b : Bool} {u : Value} (W : Word news b u) (h : ∀ p ∈ news, p ∈ news') : Word news' b u := by
  cases W with
  | bool b => exact .bool b
  | int i t => exact .int i t
  | str x t h => exact .str x t h
  | bytes x t h => exact .bytes x t h
  | tup a items n hm h2 => exact .tup a items n (h _ hm) h2
theorem Word.upd {news news' : List (Addr × Obj)} {b : Bool} {u : Value} {d : Addr} {o o' : Obj} (W : Word news b u) (U : Upd d o o' news news') (h : o.cls ≠ .type "tuple") : Word news' b u := by
  cases W with
  | bool b => exact .bool b
  | int i t => exact .int i t
  | str x t h => exact .str x t h
  | bytes x t h => exact .bytes x t h
  | tup a items n hm h2 => exact .tup a items n (upd_other U hm (fun e => h (by rw [← e]))) h2

section
variable {prog : Program} {w : World} {A : Around} {E : Value → Shared → Prop} {s : Shared} {h₀ : Heap} {L : Addr} {news : List (Addr × Obj)} {b : Bool} {u : Value}
theorem Word.truthy {Q : Bool → Shared → Prop} (W : Word news b u) (N : News h₀ L s.heap news) (h : ∀ tk, Q b { s with toks := tk }) : wpAny (model prog w) A (truthy u) Q E s := by
  cases W with
  | bool b => exact wpAny_truthy_bool (h s.toks)
  | int i t => exact P.truthy_int (h s.toks)
  | str x t hs => exact P.truthy_str (by omega) (h _)
  | bytes x t hs => exact truthy_bytes (by omega) (h _)
  | tup a items n hm hs => exact ktl_truthy (N _ hm).1 (by omega) (h _)
theorem Word.notNone {Q : Value → Shared → Prop} (W : Word news b u) (h : Q (.bool false) s) : wpAny (model prog w) A (compareOp .Is u .none) Q E s := by
  cases W <;> exact wpAny_is_other (by rfl) (by intro x; cases x) h
end
end Mine
end
section
open PySem PySem.W PyProof.Rows PySem.Calls
set_option Elab.async false
set_option maxRecDepth 100000
namespace Mine
section
variable {prog : Program} {w : World} {A : Around} {E : Value → Shared → Prop} {s : Shared} {K : Frag} {x C L : Addr} {h₀ : Heap} {m : Str → Option Value} {ox : Obj} {es : List DictEntry} {n : Nat} {name : Str} {v g a : Value}
theorem findObj_shadow {od : Obj} (hh : hasDictIn K C = true) (ha : findIn K (.ref C) name = some (some a)) (hg : specialIn K a "__get__" = some (some g)) (ht : takesIn K a = some false) (hl : lookIn name od = some (some v)) :
    findObj K C (some od) name = some (.value v) := by
  obtain ⟨cd, hc, hd⟩ := any_some hh
  unfold findObj
  rw [hc, Option.bind_some, ha, Option.bind_some]
  have ho : PySem.W.ownOf cd (some od) name = some (some v) := by unfold PySem.W.ownOf; rw [if_pos hd]; exact hl
  simp [hg, ht, ho]

/-- a name of the object's own dict that shadows a def of its class, called -/
theorem method_shadow {pl : Sem Bool} {Q : Value × List Value → Shared → Prop} {f : Addr} (F : Fr h₀ L s.heap m) (X₀ : K.In h₀) (I : InstAt s.heap x ox C (some (dictOf es n))) (hg : plainGet K C name = true) (hh : hasDictIn K C = true)
    (hf : findIn K (.ref C) name = some (some (.ref f))) (ht : isFn K (.ref f) = true) (hgf : specialIn K (.ref f) "__get__" = some (some g)) (htk : takesIn K (.ref f) = some false) (hl : getL name es = some (some v)) (hv : handedIn v = true)
    (h : Q (v, []) { s with toks := s.toks + 1 }) : wpAny (model prog w) A (getMethod (.ref x) name pl) Q E s := by
  have X := X₀.keeps F.keep
  have hcan := PySem.F.canon_object_ga
  have u : wpAny (model prog w) A (do return (← getAttr (.ref x) name, ([] : List Value))) Q E s :=
    wpAny_bind (get_value X I (plainGet_of hg).1 (findObj_shadow hh hf hgf htk (by show lookIn name (dictOf es n) = _; rw [lookIn_dict, hl])) hv (wpAny_pure h))
  unfold getMethod specialOf
  refine wpAny_bind (wpAny_bind (I.type.here ((looks_findIn X (plainGet_of hg).1).here ?_)))
  dsimp only
  rw [hcan, if_neg (by decide)]
  refine wpAny_bind (wpAny_bind (I.type.here ((looks_findIn X (plainGet_of hg).2).here ?_)))
  refine wpAny_bind (wpAny_bind (I.type.here ((looks_findIn X hf).here (wpAny_bind ((looks_typeIn X (beq_iff_eq.mp ht)).here ?_)))))
  rw [if_neg (by decide +kernel)]
  refine wpAny_bind (wpAny_loadPart I.at_ ?_)
  have hd := I.dict
  cases e : ox.dict with
  | none => rw [e] at hd; exact hd.elim
  | some dx =>
    rw [e] at hd
    refine wpAny_bind (wpAny_bind (wpAny_loadPart hd ?_))
    rw [nsLook_of (r := some v) (by rw [lookIn_dict, hl])]
    exact wpAny_pure u

theorem item_fl {l : Addr} {news : List (Addr × Obj)} {value slice : PySem.Expr} {vs : List Value} {k : Int} {u : Tok} {Q : Value → Shared → Prop} (N : News h₀ L s.heap news) (hm : (l, PySem.W.listOf vs.toArray n) ∈ news)
    (h0 : 0 ≤ k) (hhi : k < 2 ^ 63) (hx : vs[k.toNat]? = some v) (h : Q v s)
    (hs : subscripted slice false (.ref l) (.int k u) = operate [.ref l, .int k u] (getItem (.ref l) (.int k u)) := by with_unfolding_all rfl) :
    wpAny (model prog w) A (subscriptTail value slice (.ref l) (.int k u)) Q E s :=
  have hl : s.heap.IsList l vs.toArray := ⟨_, (N _ hm).1, rfl, n, rfl⟩
  tail_any hl.typeIs slot_list_getitem.lookup (wpAny_getItem_list hl h0 hhi (by simpa using hx) h) hs

end
end Mine
end
section
open PySem PySem.W PyProof.Rows PySem.Calls Builtin Builtin.ObjectAttr
set_option Elab.async false
set_option maxRecDepth 100000
namespace Mine
def missMsg (cn name : Str) : Str := ((s!"'{cn.toString}' object has no attribute '" : String) : Str) ++ name ++ ("'" : Str)
def missShort (cd : ClassData) (name : Str) : Bool := decide (cd.name.cps.foldl (fun k c => k + (Str.utf8Of c).length) 0 ≤ 100) && decide ((missMsg cd.name name).length ≤ sizeLine)
section
variable {prog : Program} {w : World} {A : Around} {E : Value → Shared → Prop} {s : Shared} {K : Frag} {x C : Addr} {ox : Obj} {od : Option Obj} {name : Str} {expr : Bool} {Q : Value → Shared → Prop} {cd : ClassData}

theorem get_missing (X : K.In s.heap) (I : InstAt s.heap x ox C od) (hga : findIn K (.ref C) "__getattribute__" = some (some (.builtin "object.__getattribute__")))
    (hf : findObj K C od name = some .missing) (hk : findIn K (.ref C) "__getattr__" = some none) (hc : clsIn K C = some cd) (hs : missShort cd name = true) (hA : A.handled = none)
    (h : ∀ h' tk e, NewX s.heap h' e "AttributeError" → E (.ref e) { s with heap := h', toks := tk }) :
    wpAny (model prog w) A (getAttr (.ref x) name expr) Q E s := by
  have hC : ∃ oc odd sl, s.heap.get? C = some ⟨oc, odd, .cls cd, sl⟩ := by
    unfold clsIn at hc
    split at hc
    · rename_i q
      cases hc
      exact ⟨_, _, _, X _ _ q⟩
    · cases hc
  obtain ⟨oc, odd, sl, hC⟩ := hC
  unfold missShort at hs
  rw [Bool.and_eq_true, decide_eq_true_eq, decide_eq_true_eq] at hs
  refine get_open X I hga ?_
  obtain ⟨hh', gg, d, t, os⟩ := s
  have L0 := I.type (M := model prog w)
  have L1 := looks_find (M := model prog w) X I hf
  have L2 := looks_findIn (M := model prog w) X hk
  refine wpAny_bind (wpAny_pure (wpAny_bind (L0.at (wpAny_bind (L1.at (wpAny_bind (L2.at ?_)))))))
  show wpAny _ _ (noSuchAttribute (.ref x) name) _ _ _
  unfold noSuchAttribute typeNameOfCut shownTypeOf
  refine wpAny_bind (wpAny_bind (wpAny_bind (L0.at ?_)))
  rw [if_neg (by simp)]
  refine wpAny_pure ?_
  unfold typeNameCut classData
  refine wpAny_bind (wpAny_bind (wpAny_load hC (wpAny_pure ?_)))
  rw [if_pos hs.1]
  refine wpAny_pure ?_
  refine wpAny_raiseAttrError (A := A.in1) hA ?_ hs.2
  intro h' tk e hx'
  show wpAny _ _ (noteIf true (.ref x) _ (.ref e)) _ _ _
  obtain ⟨k1, k2, t', u', he⟩ := id hx'
  have f1 := sub_AttributeError
  unfold noteIf noteAttr
  rw [if_pos rfl]
  repeat (any_goals (first | assumption | wp_step))
  exact h _ _ _ ⟨k1, k2, _, _, t', he, rfl, rfl, rfl, rfl⟩
end
end Mine
end
section
open PySem PySem.W PyProof.Rows PySem.Calls Builtin Builtin.ObjectAttr
set_option Elab.async false
set_option maxRecDepth 100000
namespace Mine
theorem slot_da : Slot "object" "__delattr__" "object.__delattr__" :=
  .of (owner := "object") (n := "__delattr__") (by rw [typeLookup_type, builtinLookup_eq_fast]; kernel_rfl) (by decide +kernel) (by decide +kernel) (by decide +kernel)
    (by first | exact .inl (by decide +kernel) | exact .inr (by decide +kernel)) (by rw [isSubtype_type]; kernel_rfl)
theorem entry_da : entryFor table "object.__delattr__" = some Builtin.«object.__delattr__» := entryFor_of_tree (by kernel_rfl)
theorem kind_da : builtinKind "object.__delattr__" = some .slot := by decide +kernel
theorem split_da : splitId "object.__delattr__" = some ("object", "__delattr__") := by decide +kernel
theorem args_da (a b : Value) : argsOk "object.__delattr__" ⟨[a, b], []⟩ := by unfold argsOk; kernel_rfl
theorem passes_da (self : Value) : refuseLoop self "__delattr__" [.type "object"] = pure () := by kernel_rfl
theorem slot_pdel : Slot "property" "__delete__" "property.__delete__" :=
  .of (owner := "property") (n := "__delete__") (by rw [typeLookup_type, builtinLookup_eq_fast]; kernel_rfl) (by decide +kernel) (by decide +kernel) (by decide +kernel)
    (by first | exact .inl (by decide +kernel) | exact .inr (by decide +kernel)) (by rw [isSubtype_type]; kernel_rfl)
theorem entry_pdel : entryFor table "property.__delete__" = some Builtin.«property.__delete__» := entryFor_of_tree (by kernel_rfl)
theorem args_pdel (a b : Value) : argsOk "property.__delete__" ⟨[a, b], []⟩ := by unfold argsOk; kernel_rfl
theorem refuse_da (self : Value) : ∀ {l : List Value}, onlyObject l = true → refuseLoop self "__delattr__" l = pure ()
  | [.type n], e => by rw [show n = "object" from beq_iff_eq.mp e]; exact passes_da self
  | .ref c :: r, e => by rw [refuseLoop_ref]; exact refuse_da self (by cases r <;> first | exact e | cases e)
theorem oda_eq (self : Value) (name : Str) (tk : Tok) : Builtin.«object.__delattr__» ⟨[self, .str name tk], []⟩ = (refuseIfOverridden self "__delattr__" >>= fun _ => typeOf self >>= fun tp => typeLookup tp name >>= fun attr => storeTaker? attr >>= fun r =>
    match r with | some a => deleteByDescriptor a self | none => deleteInOwnDict self tp name attr.isSome) := by kernel_rfl
section
variable {prog : Program} {w : World} {A : Around} {E : Value → Shared → Prop} {s : Shared} {K : Frag} {x C L p : Addr} {h₀ : Heap} {m : Str → Option Value} {ox : Obj} {od : Option Obj} {name : Str} {R : Result → Shared → Prop}
theorem oda_descr {tk : Tok} {T i : String} (S : Slot T "__delete__" i) (X : K.In s.heap) (I : InstAt s.heap x ox C od) (hp : plainOver K C = true) (ht : takerIn K C name = some (some (.ref p)))
    (hT : typeIn K (.ref p) = some (.type T)) (h : codeAny (model prog w) A.in1 (.call (.builtin i) ⟨[.ref p, .ref x], []⟩) (fun r s' => match r with | .ok (.ret _) => R (.ok (.ret .none)) s' | .ok _ => False | .error e => R (.error e) s') s) :
    codeAny (model prog w) A (.call (.builtin "object.__delattr__") ⟨[.ref x, .str name tk], []⟩) R s := by
  obtain ⟨cd, hc, ho⟩ := any_some hp
  have ne : cd.mro.isEmpty = false := by cases q : cd.mro with | nil => rw [q] at ho; cases ho | cons _ _ => rfl
  have sub : Looks (model prog w) s.heap (isInstance (.ref x) (.type "object")) true := I.type.andThen (looks_mroIn X (by unfold mroIn; rw [hc, Option.bind_some, if_neg (by rw [ne]; decide), only_has ho]))
  refine codeAny_call_builtin slot_da.plain entry_da (@check_slot (model prog w) _ _ s "object.__delattr__" "object" "__delattr__" (.ref x) [.str name tk] [] _ kind_da split_da sub (args_da (.ref x) (.str name tk)) ?_)
  obtain ⟨attr, ha, hr⟩ := Option.bind_eq_some_iff.mp ht
  have hm : Looks (model prog w) s.heap (mroOf (.ref C)) cd.mro := (looks_clsIn X hc).andThen .now
  have L3 : Looks (model prog w) s.heap (storeTaker? attr) (some (.ref p)) := by
    cases attr with
    | none => cases hr
    | some a =>
      obtain ⟨b, hb, e⟩ := Option.map_eq_some_iff.mp hr
      refine (looks_takesIn X hb).andThen ?_
      cases b
      · cases e
      · simp only [if_true] at e ⊢; rw [e]; exact .now
  rw [oda_eq, refuse_eq]
  refine wpAny_bind (wpAny_bind (I.type.here (wpAny_bind (hm.here ?_))))
  rw [refuse_da _ ho]
  refine wpAny_pure (wpAny_bind (I.type.here (wpAny_bind ((looks_findIn X ha).here (wpAny_bind (L3.here ?_))))))
  refine wpAny_bind (wpAny_rule (wpAny_bind (wpAny_holding (wpAny_bind (wpAny_bind ((looks_typeIn X hT).here ((Looks.of_pure S.lookup).here (wpAny_holding ?_))))))))
  rw [S.bind]
  refine wpAny_bind (wpAny_pure (wpAny_bind (wpAny_call (codeAny_mono h fun r s' z => ?_))))
  rcases r with e | (v | _ | _ | _) <;> first | exact z | exact wpAny_pure (wpAny_pure z)

theorem prop_del {fdel : Addr} {a b : Value} {rest : List Value} (X : K.In s.heap) (hp : recIn K p "property" = some (a :: b :: .ref fdel :: rest))
    (h : codeAny (model prog w) A.in1 (.call (.ref fdel) ⟨[.ref x], []⟩) (fun r s' => match r with | .ok (.ret _) => R (.ok (.ret .none)) s' | .ok _ => False | .error e => R (.error e) s') s) :
    codeAny (model prog w) A (.call (.builtin "property.__delete__") ⟨[.ref p, .ref x], []⟩) R s := by
  obtain ⟨d, sl, ho⟩ := rec_of X hp
  refine codeAny_call_builtin slot_pdel.plain entry_pdel (slot_pdel.check _ _ _ _ _ _ _ _ ⟨_, ho, rfl⟩ (args_pdel _ _) ?_)
  refine wpAny_bind (m := slotArgs "__delete__" 1 _) (wpAny_pure ?_)
  refine wpAny_bind ((looks_field ho 2 (v := .ref fdel) rfl).here (wpAny_bind (wpAny_call (codeAny_mono h fun r s' z => ?_))))
  rcases r with e | (v | _ | _ | _) <;> first | exact z | exact wpAny_pure z

theorem del_prop {Q : Unit → Shared → Prop} {fdel : Addr} {a b : Value} {rest : List Value} (F : Fr h₀ L s.heap m) (X₀ : K.In h₀) (I : InstAt s.heap x ox C od)
    (hs : findIn K (.ref C) "__delattr__" = some (some (.builtin "object.__delattr__"))) (hp : plainOver K C = true) (ht : takerIn K C name = some (some (.ref p))) (hT : typeIn K (.ref p) = some (.type "property")) (hr : recIn K p "property" = some (a :: b :: .ref fdel :: rest))
    (h : codeAny (model prog w) A.in1.in1 (.call (.ref fdel) ⟨[.ref x], []⟩) (fun r s' => match r with | .ok (.ret _) => Q () s' | .ok _ => False | .error e => E e s') { s with toks := s.toks + 1 }) : wpAny (model prog w) A (delAttr (.ref x) name) Q E s := by
  have X := X₀.keeps F.keep
  refine wpAny_bind (wpAny_mkText (wpAny_bind (wpAny_bind (wpAny_bind (I.type _ _ _ _ (fun _ _ e => e) (looks_findIn X hs _ _ _ _ (fun _ _ e => e) (wpAny_holding ?_)))))))
  rw [slot_da.bind]
  refine wpAny_bind (wpAny_pure (wpAny_bind (wpAny_call (codeAny_mono (R := fun r s' => match r with | .ok (.ret _) => Q () s' | .ok _ => False | .error e => E e s') ?_ fun r s' z => ?_))))
  · exact oda_descr (s := { s with toks := s.toks + 1 }) slot_pdel X I hp ht hT (prop_del (s := { s with toks := s.toks + 1 }) X hr (codeAny_mono h fun r s' z => by rcases r with e | (v | _ | _ | _) <;> exact z))
  · rcases r with e | (v | _ | _ | _) <;> first | exact z | exact wpAny_pure (wpAny_pure z)

/-- `del name.attr` -/
theorem Delete_prop {env : Env} {id attr : Str} {np ap pos : Pos} {Q : Flow → Shared → Prop}
    (h : wpAny (model prog w) A (eval (.Name id np) env) (fun ov s' => wpAny (model prog w) A (delAttr ov attr) (fun _ => Q .next) E s') E s) :
    wpAny (model prog w) A (exec (.Delete [.Attribute (.Name id np) attr ap] pos) env) Q E s := by
  rw [arm_exec_Delete]
  refine wpAny_bind (wpAny_standAt (wpAny_bind ?_))
  unfold deleteEach
  refine wpAny_bind ?_
  unfold delete
  refine wpAny_bind (wpAny_mono h (fun ov s' z => ?_) fun _ _ z => z)
  refine wpAny_bind (wpAny_standAt (wpAny_holding (wpAny_mono z (fun _ s'' y => ?_) fun _ _ y => y)))
  exact wpAny_pure (wpAny_pure y)
end
end Mine
end
section
open PySem PySem.W PyProof.Rows PySem.Calls PySem.SeqAt
set_option Elab.async false
set_option maxRecDepth 100000
namespace Mine
def Marks (l : List Value) : Prop := ∀ x ∈ l, ∃ t, x = .bytes #[109] t
theorem Marks.push {l : List Value} {t : Tok} (h : Marks l) : Marks (l ++ [.bytes #[109] t]) := fun x hx => by
  rcases List.mem_append.mp hx with hx | hx
  · exact h x hx
  · exact ⟨t, List.mem_singleton.mp hx⟩
theorem eqAt_bytes {A : Around} {s : Shared} {b : Array UInt8} {t u : Tok} : EqAt A s (.bytes b t) (.bytes b u) true := fun prog w E Q h => by
  unfold eqBool
  refine wpAny_holding ?_
  refine wpAny_ite_split (fun _ => wpAny_bind (wpAny_rule (wpAny_pure h))) (fun _ => ?_)
  exact wpAny_bind (eq_bytes (by rw [beq_self_eq_true]; exact wpAny_truthy_bool h))
theorem ne_marks {prog : Program} {w : World} {A : Around} {E : Value → Shared → Prop} {s : Shared} {Q : Value → Shared → Prop} {a b : Addr} {xs ys : List Value} (hl : s.heap.IsList a xs.toArray) (hb : s.heap.IsList b ys.toArray)
    (hx : Marks xs) (hy : Marks ys) (hz : xs.length = ys.length) (hu : A.units < cLine) (h : Q (.bool false) s) : wpAny (model prog w) A (compareOp .NotEq (.ref a) (.ref b)) Q E s := by
  show wpAny _ A (richCompare .NotEq _ _) Q E s
  refine RcNeAt.lists (e := fun _ => true) hl hb (by simpa using hz) hu (fun j h1 h2 => ?_) prog w E Q ?_
  · obtain ⟨t, e⟩ := hx _ (List.getElem_mem (by simpa using h1))
    obtain ⟨u, e'⟩ := hy _ (List.getElem_mem (by simpa using h2))
    rw [show xs.toArray[j] = _ from (List.getElem_toArray h1).trans e, show ys.toArray[j] = _ from (List.getElem_toArray h2).trans e']
    exact eqAt_bytes
  · have e : (List.range xs.toArray.size).all (fun _ => true) = true := List.all_eq_true.mpr fun _ _ => rfl
    rw [e]; exact h
end Mine
end
section
open PySem PySem.W PyProof.Rows PySem.Calls
set_option Elab.async false
set_option maxRecDepth 100000
namespace Mine

local macro_rules | `(tactic| k_room) => `(tactic| ((try simp only [depth_mark, depth_under_make, depth_under_kw, depth_in1, depth_deeper, depth_caller]); (try dsimp only [top]); omega))
local macro_rules | `(tactic| k_units) => `(tactic| ((try simp only [units_in1, units_deeper, Around.mark_units, units_caller]); (try dsimp only [top]); (have hcL9 := cLine_is); omega))
local macro_rules | `(tactic| k_handed) => `(tactic| assumption)
local macro_rules | `(tactic| k_upd) => `(tactic| assumption)
local macro_rules | `(tactic| k_mem) => `(tactic| first | (refine' Jars.x' ?J ?h; (case J => assumption); (case h => exact rfl)) | (refine' Jars.dx' ?J ?h; (case J => assumption); (case h => exact rfl)) | (refine' Jars.y' ?J ?h; (case J => assumption); (case h => exact rfl)) | (refine' Jars.dy' ?J ?h; (case J => assumption); (case h => exact rfl)) | (refine' Jars.ll' ?J ?h; (case J => assumption); (case h => exact rfl)) | (refine' Jars.lc' ?J ?h; (case J => assumption); (case h => exact rfl)) | (refine' Jars.fs' ?J ?h; (case J => assumption); (case h => exact rfl)) | (refine' Jars.fr' ?J ?h; (case J => assumption); (case h => exact rfl)) | (refine' Jars.cf' ?J ?h; (case J => assumption); (case h => exact rfl)) | (refine' Jars.cj' ?J ?h; (case J => assumption); (case h => exact rfl)) | (refine' Jars.fl' ?J ?h; (case J => assumption); (case h => exact rfl)) | (refine' Jars.cs' ?J ?h; (case J => assumption); (case h => exact rfl)) | (refine' Jars.cr' ?J ?h; (case J => assumption); (case h => exact rfl)))
local macro_rules | `(tactic| size_fits) => `(tactic| (simp only [List.size_toArray, PySem.sizeLine_eq]; omega))

set_option maxHeartbeats 8000000 in
theorem oga_flags {w : World} {loose : List Str} {mean : ExcName → Option Value} {mg mb : Str → Option Value} {hd : Option Value} {dp un : Nat} {gd : Option (List Code)} {cn : Str} {cs : Scope} {a : Addr} {ccd : Value} {cl : List (Str × Addr)} {outer : List Env} {A₀ : Around} {base h₀ : Heap} {L : Addr} {m : Str → Option Value}
    {news : List (Addr × Obj)} {s : Shared} {Q E : Value → Shared → Prop} {v : V} {x : Addr} {t : Tok} {fv : Value}
    (X : (Mine.hd.heap_39 w.params).In h₀) (B : Below A₀ base outer h₀) (F : Fr h₀ L s.heap m) (N : News h₀ L s.heap news) (T : Top topProg loose mean mg mb h₀) (hk : cs.kind = .function) (J : Jars news v) (hx : v.x = x) (hdp : dp + 10 < recursionLimit) (hun : un + 40 < cLine) (hF : v.F = fv) (hh : handedIn fv = true)
    (ret : ∀ h' tk', Fr h₀ L h' m → News h₀ L h' news → Q fv { s with heap := h', toks := tk' }) :
    wpAny (model PySem.Challenge.rw_am6027_01.row.prog w) (top hd dp un gd cn cs L a ccd cl outer) (PySem.call (.ref 35) [.ref x, .str "_Persistent__flags" t]) Q E s := by
  w_top off
  w_strict (
    revert X
    k_fill
    intro X
    subst hx hF
    refine wpAny_call ?_
    k_dflt ktr_enter
    k_steps
    exact ret _ _ (by k_asm) (by k_asm))

set_option maxHeartbeats 8000000 in
theorem oga_jar {w : World} {loose : List Str} {mean : ExcName → Option Value} {mg mb : Str → Option Value} {hd : Option Value} {dp un : Nat} {gd : Option (List Code)} {cn : Str} {cs : Scope} {a : Addr} {ccd : Value} {cl : List (Str × Addr)} {outer : List Env} {A₀ : Around} {base h₀ : Heap} {L : Addr} {m : Str → Option Value}
    {news : List (Addr × Obj)} {s : Shared} {Q E : Value → Shared → Prop} {v : V} {x : Addr} {t : Tok}
    (X : (Mine.hd.heap_39 w.params).In h₀) (B : Below A₀ base outer h₀) (F : Fr h₀ L s.heap m) (N : News h₀ L s.heap news) (T : Top topProg loose mean mg mb h₀) (hk : cs.kind = .function) (J : Jars news v) (hx : v.x = x) (hdp : dp + 10 < recursionLimit) (hun : un + 40 < cLine) 
    (ret : ∀ h' tk', Fr h₀ L h' m → News h₀ L h' news → Q (.ref v.y) { s with heap := h', toks := tk' }) :
    wpAny (model PySem.Challenge.rw_am6027_01.row.prog w) (top hd dp un gd cn cs L a ccd cl outer) (PySem.call (.ref 35) [.ref x, .str "_Persistent__jar" t]) Q E s := by
  w_top off
  w_strict (
    revert X
    k_fill
    intro X
    subst hx
    refine wpAny_call ?_
    k_dflt ktr_enter
    k_steps
    exact ret _ _ (by k_asm) (by k_asm))

set_option maxHeartbeats 8000000 in
theorem oga_oid {w : World} {loose : List Str} {mean : ExcName → Option Value} {mg mb : Str → Option Value} {hd : Option Value} {dp un : Nat} {gd : Option (List Code)} {cn : Str} {cs : Scope} {a : Addr} {ccd : Value} {cl : List (Str × Addr)} {outer : List Env} {A₀ : Around} {base h₀ : Heap} {L : Addr} {m : Str → Option Value}
    {news : List (Addr × Obj)} {s : Shared} {Q E : Value → Shared → Prop} {v : V} {x : Addr} {t : Tok}
    (X : (Mine.hd.heap_39 w.params).In h₀) (B : Below A₀ base outer h₀) (F : Fr h₀ L s.heap m) (N : News h₀ L s.heap news) (T : Top topProg loose mean mg mb h₀) (hk : cs.kind = .function) (J : Jars news v) (hx : v.x = x) (hdp : dp + 10 < recursionLimit) (hun : un + 40 < cLine) 
    (ret : ∀ h' tk', Fr h₀ L h' m → News h₀ L h' news → Q (.bytes #[109] v.t0) { s with heap := h', toks := tk' }) :
    wpAny (model PySem.Challenge.rw_am6027_01.row.prog w) (top hd dp un gd cn cs L a ccd cl outer) (PySem.call (.ref 35) [.ref x, .str "_Persistent__oid" t]) Q E s := by
  w_top off
  w_strict (
    revert X
    k_fill
    intro X
    subst hx
    refine wpAny_call ?_
    k_dflt ktr_enter
    k_steps
    exact ret _ _ (by k_asm) (by k_asm))

set_option maxHeartbeats 8000000 in
theorem osa_flags {w : World} {loose : List Str} {mean : ExcName → Option Value} {mg mb : Str → Option Value} {hd : Option Value} {dp un : Nat} {gd : Option (List Code)} {cn : Str} {cs : Scope} {a : Addr} {ccd : Value} {cl : List (Str × Addr)} {outer : List Env} {A₀ : Around} {base h₀ : Heap} {L : Addr} {m : Str → Option Value}
    {news : List (Addr × Obj)} {s : Shared} {Q E : Value → Shared → Prop} {v : V} {x : Addr} {t : Tok} {F' : Value} {news' : List (Addr × Obj)}
    (X : (Mine.hd.heap_39 w.params).In h₀) (B : Below A₀ base outer h₀) (F : Fr h₀ L s.heap m) (N : News h₀ L s.heap news) (T : Top topProg loose mean mg mb h₀) (hk : cs.kind = .function) (J : Jars news v) (hx : v.x = x) (hdp : dp + 10 < recursionLimit) (hun : un + 40 < cLine) (U : Upd v.dx (dictOf (oneD v.ks (.ref v.y) (.bytes #[109] v.t0) .none v.F (.int 0 v.tz) .none) 6) (dictOf (oneD v.ks (.ref v.y) (.bytes #[109] v.t0) .none F' (.int 0 v.tz) .none) 6) news news')
    (ret : ∀ h' tk', Fr h₀ L h' m → News h₀ L h' news' → Q .none { s with heap := h', toks := tk' }) :
    wpAny (model PySem.Challenge.rw_am6027_01.row.prog w) (top hd dp un gd cn cs L a ccd cl outer) (PySem.call (.ref 42) [.ref x, .str "_Persistent__flags" t, F']) Q E s := by
  w_top off
  w_strict (
    revert X
    k_fill
    intro X
    subst hx
    refine wpAny_call ?_
    k_dflt ktr_enter
    k_steps
    exact ret _ _ (by k_asm) (by k_asm))
end Mine
end
section
open PySem PySem.W PyProof.Rows PySem.Calls
set_option Elab.async false
set_option maxRecDepth 100000
namespace Mine

local macro_rules | `(tactic| k_room) => `(tactic| ((try simp only [depth_mark, depth_under_make, depth_under_kw, depth_in1, depth_deeper, depth_caller]); (try dsimp only [top]); omega))
local macro_rules | `(tactic| k_units) => `(tactic| ((try simp only [units_in1, units_deeper, Around.mark_units, units_caller]); (try dsimp only [top]); (have hcL9 := cLine_is); omega))
local macro_rules | `(tactic| k_handed) => `(tactic| assumption)
local macro_rules | `(tactic| k_upd) => `(tactic| assumption)
local macro_rules | `(tactic| k_mem) => `(tactic| first | (refine' Jars.x' ?J ?h; (case J => assumption); (case h => exact rfl)) | (refine' Jars.dx' ?J ?h; (case J => assumption); (case h => exact rfl)) | (refine' Jars.y' ?J ?h; (case J => assumption); (case h => exact rfl)) | (refine' Jars.dy' ?J ?h; (case J => assumption); (case h => exact rfl)) | (refine' Jars.ll' ?J ?h; (case J => assumption); (case h => exact rfl)) | (refine' Jars.lc' ?J ?h; (case J => assumption); (case h => exact rfl)) | (refine' Jars.fs' ?J ?h; (case J => assumption); (case h => exact rfl)) | (refine' Jars.fr' ?J ?h; (case J => assumption); (case h => exact rfl)) | (refine' Jars.cf' ?J ?h; (case J => assumption); (case h => exact rfl)) | (refine' Jars.cj' ?J ?h; (case J => assumption); (case h => exact rfl)) | (refine' Jars.fl' ?J ?h; (case J => assumption); (case h => exact rfl)) | (refine' Jars.cs' ?J ?h; (case J => assumption); (case h => exact rfl)) | (refine' Jars.cr' ?J ?h; (case J => assumption); (case h => exact rfl)))
local macro_rules | `(tactic| size_fits) => `(tactic| (simp only [List.size_toArray, PySem.sizeLine_eq]; omega))

theorem jars_codeS {news : List (Addr × Obj)} {v : V} {h₀ h : Heap} {L : Addr} (J : Jars news v) (N : News h₀ L h news) : h.CodeRec (.ref v.cs) v.qs := by
  obtain ⟨vs, t, d1, d2⟩ := J.os
  exact codeRec_news N J.cs d1 d2
theorem jars_codeR {news : List (Addr × Obj)} {v : V} {h₀ h : Heap} {L : Addr} (J : Jars news v) (N : News h₀ L h news) : h.CodeRec (.ref v.cr) v.qr := by
  obtain ⟨vs, t, d1, d2⟩ := J.or
  exact codeRec_news N J.cr d1 d2

local macro_rules | `(tactic| walk_at "eval Name") => `(tactic| (k_here; k_dflt (refine' nameX_F ?N ?c ?m ?d ?_ ?a ?b; (case a => rfl); (case b => rfl); (case N => k_asm); (case c => rfl); (case m => k_mem); (case d => k_asm); k_whole)))
local macro_rules | `(tactic| ktr_room) => `(tactic| ((try simp only [depth_mark, depth_under_make, depth_under_kw, depth_in1, depth_deeper, depth_caller, units_in1, units_deeper, Around.mark_units, units_caller]); (try dsimp only [top]); (try simp only [cLine_is]); first | omega | decide))
local macro_rules | `(tactic| ktr_enter) => `(tactic| (refine' enterT ?B ?D ?T0 ?F ?N ?XB ?TB ?kA ?kF ?kK ?ho ?hcd ?hroom ?hbind ?hloc ?_ ?c1 ?c2 ?c3 ?c4; (case kA => exact rfl); (case kF => exact rfl); (case kK => first | assumption | exact rfl); (case B => k_asm); (case D => k_asm); (case T0 => first | assumption | exact KtsTurn.refl); (case F => k_asm); (case N => k_asm); (case XB => k_asm); (case TB => k_asm); (case ho => k_is); (case hcd => k_is); (case hroom => k_room); (case hbind => first | exact BindsTo.of_eq rfl | exact binds_K (by k_in) rfl (by k_is) rfl rfl rfl); (case hloc => exact locs rfl); (case c1 => exact rfl); (case c2 => exact rfl); (case c3 => exact rfl); (case c4 => decide); k_whole; intro g' L' h' FG' F' N' B' D' X' T'; (try dsimp only); (try k_fold)))
local macro_rules | `(tactic| kla_enter) => `(tactic| (refine' enterTL ?B ?D ?T0 ?F ?N ?XB ?TB ?kA ?kF ?kK ?ho ?hcd ?hroom ?hbind ?hloc ?_ ?c1 ?c2 ?c3 ?c4; (case kA => exact rfl); (case kF => exact rfl); (case kK => first | assumption | exact rfl); (case B => k_asm); (case D => k_asm); (case T0 => first | assumption | exact KtsTurn.refl); (case F => k_asm); (case N => k_asm); (case XB => k_asm); (case TB => k_asm); (case ho => k_mem); (case hcd => first | exact jars_codeS (by k_asm) (by k_asm) | exact jars_codeR (by k_asm) (by k_asm)); (case hroom => k_room); (case hbind => exact rfl); (case hloc => exact locs rfl); (case c1 => exact rfl); (case c2 => exact rfl); (case c3 => exact rfl); (case c4 => decide); k_whole; intro g' L' h' FG' F' N' B' D' X' T'; (try dsimp only); (try k_fold)))
local macro_rules | `(tactic| walk_at "LeaveT") => `(tactic| (k_dflt (refine' leaveT_ ?F ?N ?T ?_; (case F => k_asm); (case N => k_asm); (case T => first | assumption | exact KtsTurn.refl); k_whole); intro h₀' T' F' N' B' D'; (try dsimp only)))
local macro_rules | `(tactic| walk_at "subscriptTail Name Constant ref int") => `(tactic| ((with_reducible show wpAny _ _ (subscriptTail _ _ (Value.ref _) (Value.int _ _)) _ _ _); k_dflt (refine' item_fl ?N ?m ?a ?b ?x ?_; (case N => k_asm); (case m => k_mem); (case a => decide); (case b => decide); (case x => rfl); k_whole)))
local macro_rules | `(tactic| walk_at "callWith ref") => `(tactic| (k_here; (show wpAny _ _ (callWith _ (Value.ref (V.fr _)) _ _ _) _ _ _); k_dflt (first
  | (refine' callWith_F ?k1 ?_; (case k1 => exact FnAt.of (by k_asm) (by k_mem)); k_whole)
  | (refine' callWith_F0 ?k1 ?_; (case k1 => exact FnAt.of (by k_asm) (by k_mem)); k_whole; try dsimp only [List.nil_append, List.cons_append]))))
local macro_rules | `(tactic| walk_at "callWith ref") => `(tactic| (k_here; (show wpAny _ _ (callWith _ (Value.ref (V.fs _)) _ _ _) _ _ _); k_dflt (first
  | (refine' callWith_F ?k1 ?_; (case k1 => exact FnAt.of (by k_asm) (by k_mem)); k_whole)
  | (refine' callWith_F0 ?k1 ?_; (case k1 => exact FnAt.of (by k_asm) (by k_mem)); k_whole; try dsimp only [List.nil_append, List.cons_append]))))
local macro_rules | `(tactic| walk_at "getMethod ref") => `(tactic| (k_here; k_dflt (refine' method_shadow ?k1 ?k2 ?k3 ?k4 ?k5 ?k6 ?k7 ?k8 ?k9 ?k10 ?k11 ?_; (case k1 => k_asm); (case k2 => k_asm); (case k3 => k_inst); (case k4 => k_is); (case k5 => k_is); (case k6 => k_is); (case k7 => k_is); (case k8 => k_is); (case k9 => k_is); (case k10 => k_get); (case k11 => first | rfl | k_handed); k_whole)))
local macro_rules | `(tactic| walk_at "leaving ref") => `(tactic| (k_here; first
  | (with_reducible rename RaisedSN _ _ _ _ _ _ _ => rsX; k_dflt (refine' passX ?f ?K ?F ?R ?U ?_; (case R => exact rsX); (case f => exact rfl); (case K => k_asm); (case F => k_asm); (case U => k_asm); k_whole); clear rsX; intro h' R' U'; (try dsimp only at R' U' ⊢))
  | (k_dflt (refine' leave_raiseS ?k1 ?k0 ?k2 ?k3 ?_; (case k0 => first | assumption | exact Heap.MadeExc.of (by assumption)); (case k2 => assumption); (case k1 => assumption); (case k3 => k_asm); k_whole); intro h' t' S' R' U'; (try dsimp only at S' R' U' ⊢); (replace S' := toSN S'); clear R')))
local macro_rules | `(tactic| walk_at "call ref") => `(tactic| (k_here; (show wpAny _ _ (PySem.call (Value.ref 35) [_, Value.str (PySem.Str.ofString "_Persistent__flags") _]) _ _ _); k_dflt (refine' oga_flags ?X ?B ?F ?N ?T ?hk ?J ?hx ?dp ?un ?hF ?hh ?_; (case X => k_asm); (case B => k_asm); (case F => k_asm); (case N => k_asm); (case T => k_asm); (case hk => first | assumption | exact rfl); (case J => k_asm); (case hx => exact rfl); (case dp => ktr_room); (case un => ktr_room); (case hF => first | assumption | exact rfl); (case hh => first | rfl | assumption); k_whole); intro h' tk' F' N'; (try dsimp only); (try k_sweep)))
local macro_rules | `(tactic| walk_at "call ref") => `(tactic| (k_here; (show wpAny _ _ (PySem.call (Value.ref 35) [_, Value.str (PySem.Str.ofString "_Persistent__jar") _]) _ _ _); k_dflt (refine' oga_jar ?X ?B ?F ?N ?T ?hk ?J ?hx ?dp ?un ?_; (case X => k_asm); (case B => k_asm); (case F => k_asm); (case N => k_asm); (case T => k_asm); (case hk => first | assumption | exact rfl); (case J => k_asm); (case hx => exact rfl); (case dp => ktr_room); (case un => ktr_room); k_whole); intro h' tk' F' N'; (try dsimp only); (try k_sweep)))
local macro_rules | `(tactic| walk_at "call ref") => `(tactic| (k_here; (show wpAny _ _ (PySem.call (Value.ref 35) [_, Value.str (PySem.Str.ofString "_Persistent__oid") _]) _ _ _); k_dflt (refine' oga_oid ?X ?B ?F ?N ?T ?hk ?J ?hx ?dp ?un ?_; (case X => k_asm); (case B => k_asm); (case F => k_asm); (case N => k_asm); (case T => k_asm); (case hk => first | assumption | exact rfl); (case J => k_asm); (case hx => exact rfl); (case dp => ktr_room); (case un => ktr_room); k_whole); intro h' tk' F' N'; (try dsimp only); (try k_sweep)))
local macro_rules | `(tactic| walk_at "call ref") => `(tactic| (k_here; (show wpAny _ _ (PySem.call (Value.ref 42) [_, Value.str (PySem.Str.ofString "_Persistent__flags") _, _]) _ _ _); k_dflt (refine' osa_flags ?X ?B ?F ?N ?T ?hk ?J ?hx ?dp ?un ?U ?_; (case X => k_asm); (case B => k_asm); (case F => k_asm); (case N => k_asm); (case T => k_asm); (case hk => first | assumption | exact rfl); (case J => k_asm); (case hx => exact rfl); (case dp => ktr_room); (case un => ktr_room); (case U => first | assumption | apply_assumption); k_whole); intro h' tk' F' N'; (try dsimp only); (try k_sweep)))

set_option maxHeartbeats 8000000 in
theorem tell_ok {w : World} {loose : List Str} {mean : ExcName → Option Value} {mg mb : Str → Option Value} {dp un : Nat} {gd : Option (List Code)} {cn : Str} {cs : Scope} {a : Addr} {ccd : Value} {cl : List (Str × Addr)} {outer : List Env} {A₀ : Around} {base h₀ g₀ : Heap} {L : Addr} {m : Str → Option Value}
    {news : List (Addr × Obj)} {s : Shared} {Q E : Value → Shared → Prop} {v : V} {x : Addr} {n' : List (Addr × Obj)} {f : Addr}
    (XB : (Mine.hd.heap_39 w.params).In base) (TB : Top topProg loose mean mg mb base) (B : Below A₀ base outer h₀) (D : KtsDicts (frs outer) h₀) (T0 : KtsTurn (frs outer) g₀ h₀) (F : Fr h₀ L s.heap m) (N : News h₀ L s.heap news) (hk : cs.kind = .function) (J : Jars news v) (hx : v.x = x) (hdp : dp + 20 < recursionLimit) (hun : un + 100 < cLine) (hfn : v.fr = f) (hf : v.f1 = false) (hz : v.vc.length ≤ 1000) (U : Upd v.lc (PySem.W.listOf v.vc.toArray v.nc) (PySem.W.listOf (v.vc.toArray.push (.bytes #[109] v.t0)) (v.nc + 1)) news n')
    (ret : ∀ h₀' h' tk', KtsTurn (frs outer) g₀ h₀' → Fr h₀' L h' m → News h₀' L h' n' → Below A₀ base outer h₀' → KtsDicts (frs outer) h₀' → (Mine.hd.heap_39 w.params).In h₀' → Top topProg loose mean mg mb h₀' → Q .none { s with heap := h', toks := tk' }) :
    wpAny (model PySem.Challenge.rw_am6027_01.row.prog w) (top none dp un gd cn cs L a ccd cl outer) (PySem.call (.ref f) [.ref x]) Q E s := by
  w_top off
  w_strict (
    revert XB
    k_fill
    intro XB
    subst hx hfn
    have X := XB.keeps B.stays
    have T := TB.keeps B.stays
    have dcf := J.ocf
    have dcj := J.ocj
    refine wpAny_call ?_
    k_dflt kla_enter
    k_steps
    exact ret _ _ _ (by k_asm) (by k_asm) (by k_asm) (by k_asm) (by k_asm) (XB.keeps (Below.stays (by k_asm))) (TB.keeps (Below.stays (by k_asm))))

set_option maxHeartbeats 8000000 in
theorem tell_no {w : World} {loose : List Str} {mean : ExcName → Option Value} {mg mb : Str → Option Value} {dp un : Nat} {gd : Option (List Code)} {cn : Str} {cs : Scope} {a : Addr} {ccd : Value} {cl : List (Str × Addr)} {outer : List Env} {A₀ : Around} {base h₀ g₀ : Heap} {L : Addr} {m : Str → Option Value}
    {news : List (Addr × Obj)} {s : Shared} {Q E : Value → Shared → Prop} {v : V} {x : Addr} {f : Addr}
    (XB : (Mine.hd.heap_39 w.params).In base) (TB : Top topProg loose mean mg mb base) (B : Below A₀ base outer h₀) (D : KtsDicts (frs outer) h₀) (T0 : KtsTurn (frs outer) g₀ h₀) (F : Fr h₀ L s.heap m) (N : News h₀ L s.heap news) (hk : cs.kind = .function) (J : Jars news v) (hx : v.x = x) (hdp : dp + 20 < recursionLimit) (hun : un + 100 < cLine) (hfn : v.fr = f) (hf : v.f1 = true)
    (exc : ∀ h₀' g₁ h' tk' e, KtsTurn (frs outer) g₀ h₀' → Fr h₀' L g₁ m → Below A₀ base outer h₀' → KtsDicts (frs outer) h₀' → RaisedSN base g₁ (envX cn cs L a ccd cl :: outer) e (.type "ArithmeticError") news h' → g₁.UpToSlots h' → E (.ref e) { s with heap := h', toks := tk' }) :
    wpAny (model PySem.Challenge.rw_am6027_01.row.prog w) (top none dp un gd cn cs L a ccd cl outer) (PySem.call (.ref f) [.ref x]) Q E s := by
  w_top off
  w_strict (
    revert XB
    k_fill
    intro XB
    subst hx hfn
    have X := XB.keeps B.stays
    have T := TB.keeps B.stays
    have dcf := J.ocf
    have dcj := J.ocj
    refine wpAny_call ?_
    k_dflt kla_enter
    k_steps
    (with_reducible rename RaisedSN _ _ _ _ _ _ _ => rsX; with_reducible rename Heap.UpToSlots _ _ => rsU; exact exc_of rfl (by k_asm) B D T0 (by first | assumption | exact KtsTurn.refl) rsX rsU (fun _ _ a b c d e f => exc _ _ _ _ _ a b c d e f)))

set_option maxHeartbeats 8000000 in
theorem load_ok {w : World} {loose : List Str} {mean : ExcName → Option Value} {mg mb : Str → Option Value} {dp un : Nat} {gd : Option (List Code)} {cn : Str} {cs : Scope} {a : Addr} {ccd : Value} {cl : List (Str × Addr)} {outer : List Env} {A₀ : Around} {base h₀ g₀ : Heap} {L : Addr} {m : Str → Option Value}
    {news : List (Addr × Obj)} {s : Shared} {Q E : Value → Shared → Prop} {v : V} {x : Addr} {n' : List (Addr × Obj)} {f : Addr}
    (XB : (Mine.hd.heap_39 w.params).In base) (TB : Top topProg loose mean mg mb base) (B : Below A₀ base outer h₀) (D : KtsDicts (frs outer) h₀) (T0 : KtsTurn (frs outer) g₀ h₀) (F : Fr h₀ L s.heap m) (N : News h₀ L s.heap news) (hk : cs.kind = .function) (J : Jars news v) (hx : v.x = x) (hdp : dp + 20 < recursionLimit) (hun : un + 100 < cLine) (hfn : v.fs = f) (hf : v.f0 = false) (hz : v.vl.length ≤ 1000) (U : Upd v.ll (PySem.W.listOf v.vl.toArray v.nl) (PySem.W.listOf (v.vl.toArray.push (.bytes #[109] v.t0)) (v.nl + 1)) news n')
    (ret : ∀ h₀' h' tk', KtsTurn (frs outer) g₀ h₀' → Fr h₀' L h' m → News h₀' L h' n' → Below A₀ base outer h₀' → KtsDicts (frs outer) h₀' → (Mine.hd.heap_39 w.params).In h₀' → Top topProg loose mean mg mb h₀' → Q .none { s with heap := h', toks := tk' }) :
    wpAny (model PySem.Challenge.rw_am6027_01.row.prog w) (top none dp un gd cn cs L a ccd cl outer) (PySem.call (.ref f) [.ref x]) Q E s := by
  w_top off
  w_strict (
    revert XB
    k_fill
    intro XB
    subst hx hfn
    have X := XB.keeps B.stays
    have T := TB.keeps B.stays
    have dcf := J.ocf
    have dcj := J.ocj
    refine wpAny_call ?_
    k_dflt kla_enter
    k_steps
    exact ret _ _ _ (by k_asm) (by k_asm) (by k_asm) (by k_asm) (by k_asm) (XB.keeps (Below.stays (by k_asm))) (TB.keeps (Below.stays (by k_asm))))

set_option maxHeartbeats 8000000 in
theorem load_no {w : World} {loose : List Str} {mean : ExcName → Option Value} {mg mb : Str → Option Value} {dp un : Nat} {gd : Option (List Code)} {cn : Str} {cs : Scope} {a : Addr} {ccd : Value} {cl : List (Str × Addr)} {outer : List Env} {A₀ : Around} {base h₀ g₀ : Heap} {L : Addr} {m : Str → Option Value}
    {news : List (Addr × Obj)} {s : Shared} {Q E : Value → Shared → Prop} {v : V} {x : Addr} {f : Addr}
    (XB : (Mine.hd.heap_39 w.params).In base) (TB : Top topProg loose mean mg mb base) (B : Below A₀ base outer h₀) (D : KtsDicts (frs outer) h₀) (T0 : KtsTurn (frs outer) g₀ h₀) (F : Fr h₀ L s.heap m) (N : News h₀ L s.heap news) (hk : cs.kind = .function) (J : Jars news v) (hx : v.x = x) (hdp : dp + 20 < recursionLimit) (hun : un + 100 < cLine) (hfn : v.fs = f) (hf : v.f0 = true)
    (exc : ∀ h₀' g₁ h' tk' e, KtsTurn (frs outer) g₀ h₀' → Fr h₀' L g₁ m → Below A₀ base outer h₀' → KtsDicts (frs outer) h₀' → RaisedSN base g₁ (envX cn cs L a ccd cl :: outer) e (.type "ArithmeticError") news h' → g₁.UpToSlots h' → E (.ref e) { s with heap := h', toks := tk' }) :
    wpAny (model PySem.Challenge.rw_am6027_01.row.prog w) (top none dp un gd cn cs L a ccd cl outer) (PySem.call (.ref f) [.ref x]) Q E s := by
  w_top off
  w_strict (
    revert XB
    k_fill
    intro XB
    subst hx hfn
    have X := XB.keeps B.stays
    have T := TB.keeps B.stays
    have dcf := J.ocf
    have dcj := J.ocj
    refine wpAny_call ?_
    k_dflt kla_enter
    k_steps
    (with_reducible rename RaisedSN _ _ _ _ _ _ _ => rsX; with_reducible rename Heap.UpToSlots _ _ => rsU; exact exc_of rfl (by k_asm) B D T0 (by first | assumption | exact KtsTurn.refl) rsX rsU (fun _ _ a b c d e f => exc _ _ _ _ _ a b c d e f)))
end Mine
end
section
open PySem PySem.W PyProof.Rows PySem.Calls
set_option Elab.async false
set_option maxRecDepth 100000
namespace Mine

local macro_rules | `(tactic| k_room) => `(tactic| ((try simp only [depth_mark, depth_under_make, depth_under_kw, depth_in1, depth_deeper, depth_caller]); (try dsimp only [top]); omega))
local macro_rules | `(tactic| k_units) => `(tactic| ((try simp only [units_in1, units_deeper, Around.mark_units, units_caller]); (try dsimp only [top]); (have hcL9 := cLine_is); omega))
local macro_rules | `(tactic| k_handed) => `(tactic| assumption)
local macro_rules | `(tactic| k_upd) => `(tactic| assumption)
local macro_rules | `(tactic| k_mem) => `(tactic| first | (refine' Jars.x' ?J ?h; (case J => assumption); (case h => exact rfl)) | (refine' Jars.dx' ?J ?h; (case J => assumption); (case h => exact rfl)) | (refine' Jars.y' ?J ?h; (case J => assumption); (case h => exact rfl)) | (refine' Jars.dy' ?J ?h; (case J => assumption); (case h => exact rfl)) | (refine' Jars.ll' ?J ?h; (case J => assumption); (case h => exact rfl)) | (refine' Jars.lc' ?J ?h; (case J => assumption); (case h => exact rfl)) | (refine' Jars.fs' ?J ?h; (case J => assumption); (case h => exact rfl)) | (refine' Jars.fr' ?J ?h; (case J => assumption); (case h => exact rfl)) | (refine' Jars.cf' ?J ?h; (case J => assumption); (case h => exact rfl)) | (refine' Jars.cj' ?J ?h; (case J => assumption); (case h => exact rfl)) | (refine' Jars.fl' ?J ?h; (case J => assumption); (case h => exact rfl)) | (refine' Jars.cs' ?J ?h; (case J => assumption); (case h => exact rfl)) | (refine' Jars.cr' ?J ?h; (case J => assumption); (case h => exact rfl)))
local macro_rules | `(tactic| size_fits) => `(tactic| (simp only [List.size_toArray, PySem.sizeLine_eq]; omega))

local macro_rules | `(tactic| walk_at "eval Name") => `(tactic| (k_here; k_dflt (refine' nameX_F ?N ?c ?m ?d ?_ ?a ?b; (case a => rfl); (case b => rfl); (case N => k_asm); (case c => rfl); (case m => k_mem); (case d => k_asm); k_whole)))
local macro_rules | `(tactic| ktr_room) => `(tactic| ((try simp only [depth_mark, depth_under_make, depth_under_kw, depth_in1, depth_deeper, depth_caller, units_in1, units_deeper, Around.mark_units, units_caller]); (try dsimp only [top]); (try simp only [cLine_is]); first | omega | decide))
local macro_rules | `(tactic| ktr_enter) => `(tactic| (refine' enterT ?B ?D ?T0 ?F ?N ?XB ?TB ?kA ?kF ?kK ?ho ?hcd ?hroom ?hbind ?hloc ?_ ?c1 ?c2 ?c3 ?c4; (case kA => exact rfl); (case kF => exact rfl); (case kK => first | assumption | exact rfl); (case B => k_asm); (case D => k_asm); (case T0 => first | assumption | exact KtsTurn.refl); (case F => k_asm); (case N => k_asm); (case XB => k_asm); (case TB => k_asm); (case ho => k_is); (case hcd => k_is); (case hroom => k_room); (case hbind => first | exact BindsTo.of_eq rfl | exact binds_K (by k_in) rfl (by k_is) rfl rfl rfl); (case hloc => exact locs rfl); (case c1 => exact rfl); (case c2 => exact rfl); (case c3 => exact rfl); (case c4 => decide); k_whole; intro g' L' h' FG' F' N' B' D' X' T'; (try dsimp only); (try k_fold)))
local macro_rules | `(tactic| kla_enter) => `(tactic| (refine' enterTL ?B ?D ?T0 ?F ?N ?XB ?TB ?kA ?kF ?kK ?ho ?hcd ?hroom ?hbind ?hloc ?_ ?c1 ?c2 ?c3 ?c4; (case kA => exact rfl); (case kF => exact rfl); (case kK => first | assumption | exact rfl); (case B => k_asm); (case D => k_asm); (case T0 => first | assumption | exact KtsTurn.refl); (case F => k_asm); (case N => k_asm); (case XB => k_asm); (case TB => k_asm); (case ho => k_mem); (case hcd => first | exact jars_codeS (by k_asm) (by k_asm) | exact jars_codeR (by k_asm) (by k_asm)); (case hroom => k_room); (case hbind => exact rfl); (case hloc => exact locs rfl); (case c1 => exact rfl); (case c2 => exact rfl); (case c3 => exact rfl); (case c4 => decide); k_whole; intro g' L' h' FG' F' N' B' D' X' T'; (try dsimp only); (try k_fold)))
local macro_rules | `(tactic| walk_at "LeaveT") => `(tactic| (k_dflt (refine' leaveT_ ?F ?N ?T ?_; (case F => k_asm); (case N => k_asm); (case T => first | assumption | exact KtsTurn.refl); k_whole); intro h₀' T' F' N' B' D'; (try dsimp only)))
local macro_rules | `(tactic| walk_at "subscriptTail Name Constant ref int") => `(tactic| ((with_reducible show wpAny _ _ (subscriptTail _ _ (Value.ref _) (Value.int _ _)) _ _ _); k_dflt (refine' item_fl ?N ?m ?a ?b ?x ?_; (case N => k_asm); (case m => k_mem); (case a => decide); (case b => decide); (case x => rfl); k_whole)))
local macro_rules | `(tactic| walk_at "callWith ref") => `(tactic| (k_here; (show wpAny _ _ (callWith _ (Value.ref (V.fr _)) _ _ _) _ _ _); k_dflt (first
  | (refine' callWith_F ?k1 ?_; (case k1 => exact FnAt.of (by k_asm) (by k_mem)); k_whole)
  | (refine' callWith_F0 ?k1 ?_; (case k1 => exact FnAt.of (by k_asm) (by k_mem)); k_whole; try dsimp only [List.nil_append, List.cons_append]))))
local macro_rules | `(tactic| walk_at "callWith ref") => `(tactic| (k_here; (show wpAny _ _ (callWith _ (Value.ref (V.fs _)) _ _ _) _ _ _); k_dflt (first
  | (refine' callWith_F ?k1 ?_; (case k1 => exact FnAt.of (by k_asm) (by k_mem)); k_whole)
  | (refine' callWith_F0 ?k1 ?_; (case k1 => exact FnAt.of (by k_asm) (by k_mem)); k_whole; try dsimp only [List.nil_append, List.cons_append]))))
local macro_rules | `(tactic| walk_at "getMethod ref") => `(tactic| (k_here; k_dflt (refine' method_shadow ?k1 ?k2 ?k3 ?k4 ?k5 ?k6 ?k7 ?k8 ?k9 ?k10 ?k11 ?_; (case k1 => k_asm); (case k2 => k_asm); (case k3 => k_inst); (case k4 => k_is); (case k5 => k_is); (case k6 => k_is); (case k7 => k_is); (case k8 => k_is); (case k9 => k_is); (case k10 => k_get); (case k11 => first | rfl | k_handed); k_whole)))
local macro_rules | `(tactic| walk_at "leaving ref") => `(tactic| (k_here; first
  | (with_reducible rename RaisedSN _ _ _ _ _ _ _ => rsX; k_dflt (refine' passX ?f ?K ?F ?R ?U ?_; (case R => exact rsX); (case f => exact rfl); (case K => k_asm); (case F => k_asm); (case U => k_asm); k_whole); clear rsX; intro h' R' U'; (try dsimp only at R' U' ⊢))
  | (k_dflt (refine' leave_raiseS ?k1 ?k0 ?k2 ?k3 ?_; (case k0 => first | assumption | exact Heap.MadeExc.of (by assumption)); (case k2 => assumption); (case k1 => assumption); (case k3 => k_asm); k_whole); intro h' t' S' R' U'; (try dsimp only at S' R' U' ⊢); (replace S' := toSN S'); clear R')))
local macro_rules | `(tactic| walk_at "call ref") => `(tactic| (k_here; (show wpAny _ _ (PySem.call (Value.ref 35) [_, Value.str (PySem.Str.ofString "_Persistent__flags") _]) _ _ _); k_dflt (refine' oga_flags ?X ?B ?F ?N ?T ?hk ?J ?hx ?dp ?un ?hF ?hh ?_; (case X => k_asm); (case B => k_asm); (case F => k_asm); (case N => k_asm); (case T => k_asm); (case hk => first | assumption | exact rfl); (case J => k_asm); (case hx => exact rfl); (case dp => ktr_room); (case un => ktr_room); (case hF => first | assumption | exact rfl); (case hh => first | rfl | assumption); k_whole); intro h' tk' F' N'; (try dsimp only); (try k_sweep)))
local macro_rules | `(tactic| walk_at "call ref") => `(tactic| (k_here; (show wpAny _ _ (PySem.call (Value.ref 35) [_, Value.str (PySem.Str.ofString "_Persistent__jar") _]) _ _ _); k_dflt (refine' oga_jar ?X ?B ?F ?N ?T ?hk ?J ?hx ?dp ?un ?_; (case X => k_asm); (case B => k_asm); (case F => k_asm); (case N => k_asm); (case T => k_asm); (case hk => first | assumption | exact rfl); (case J => k_asm); (case hx => exact rfl); (case dp => ktr_room); (case un => ktr_room); k_whole); intro h' tk' F' N'; (try dsimp only); (try k_sweep)))
local macro_rules | `(tactic| walk_at "call ref") => `(tactic| (k_here; (show wpAny _ _ (PySem.call (Value.ref 35) [_, Value.str (PySem.Str.ofString "_Persistent__oid") _]) _ _ _); k_dflt (refine' oga_oid ?X ?B ?F ?N ?T ?hk ?J ?hx ?dp ?un ?_; (case X => k_asm); (case B => k_asm); (case F => k_asm); (case N => k_asm); (case T => k_asm); (case hk => first | assumption | exact rfl); (case J => k_asm); (case hx => exact rfl); (case dp => ktr_room); (case un => ktr_room); k_whole); intro h' tk' F' N'; (try dsimp only); (try k_sweep)))
local macro_rules | `(tactic| walk_at "call ref") => `(tactic| (k_here; (show wpAny _ _ (PySem.call (Value.ref 42) [_, Value.str (PySem.Str.ofString "_Persistent__flags") _, _]) _ _ _); k_dflt (refine' osa_flags ?X ?B ?F ?N ?T ?hk ?J ?hx ?dp ?un ?U ?_; (case X => k_asm); (case B => k_asm); (case F => k_asm); (case N => k_asm); (case T => k_asm); (case hk => first | assumption | exact rfl); (case J => k_asm); (case hx => exact rfl); (case dp => ktr_room); (case un => ktr_room); (case U => first | assumption | apply_assumption); k_whole); intro h' tk' F' N'; (try dsimp only); (try k_sweep)))
local macro_rules | `(tactic| walk_at "call ref") => `(tactic| (k_here; k_dflt (show wpAny _ _ (PySem.call (Value.ref (V.fr _)) [_]) _ _ _); k_dflt (refine' tell_ok ?XB ?TB ?B ?D ?T0 ?F ?N ?hk ?J ?hx ?dp ?un ?hfn ?hf ?hz ?U ?_; (case B => k_asm); (case D => k_asm); (case T0 => first | assumption | exact KtsTurn.refl); (case F => k_asm); (case N => k_asm); (case XB => k_asm); (case TB => k_asm); (case hk => first | assumption | exact rfl); (case J => k_asm); (case hx => exact rfl); (case dp => ktr_room); (case un => ktr_room); (case hfn => exact rfl); (case hf => assumption); (case hz => assumption); (case U => assumption); k_whole); intro h₀' h' tk' T' F' N' B' D' X' T2'; (try dsimp only)))
local macro_rules | `(tactic| walk_at "call ref") => `(tactic| (k_here; k_dflt (show wpAny _ _ (PySem.call (Value.ref (V.fr _)) [_]) _ _ _); k_dflt (refine' tell_no ?XB ?TB ?B ?D ?T0 ?F ?N ?hk ?J ?hx ?dp ?un ?hfn ?hf ?_; (case B => k_asm); (case D => k_asm); (case T0 => first | assumption | exact KtsTurn.refl); (case F => k_asm); (case N => k_asm); (case XB => k_asm); (case TB => k_asm); (case hk => first | assumption | exact rfl); (case J => k_asm); (case hx => exact rfl); (case dp => ktr_room); (case un => ktr_room); (case hfn => exact rfl); (case hf => assumption); k_whole); intro h₀' g' h' tk' e' T' FG' B' D' R' U'; (try dsimp only); (try k_unfold); (try dsimp only)))

set_option maxHeartbeats 8000000 in
theorem reg_ok {w : World} {loose : List Str} {mean : ExcName → Option Value} {mg mb : Str → Option Value} {dp un : Nat} {gd : Option (List Code)} {cn : Str} {cs : Scope} {a : Addr} {ccd : Value} {cl : List (Str × Addr)} {outer : List Env} {A₀ : Around} {base h₀ g₀ : Heap} {L : Addr} {m : Str → Option Value}
    {news : List (Addr × Obj)} {s : Shared} {Q E : Value → Shared → Prop} {v : V} {x : Addr} {n' : List (Addr × Obj)}
    (XB : (Mine.hd.heap_39 w.params).In base) (TB : Top topProg loose mean mg mb base) (B : Below A₀ base outer h₀) (D : KtsDicts (frs outer) h₀) (T0 : KtsTurn (frs outer) g₀ h₀) (F : Fr h₀ L s.heap m) (N : News h₀ L s.heap news) (hk : cs.kind = .function) (J : Jars news v) (hx : v.x = x) (hdp : dp + 25 < recursionLimit) (hun : un + 120 < cLine) (hf : v.f1 = false) (hz : v.vc.length ≤ 1000) (U : Upd v.lc (PySem.W.listOf v.vc.toArray v.nc) (PySem.W.listOf (v.vc.toArray.push (.bytes #[109] v.t0)) (v.nc + 1)) news n')
    (ret : ∀ h₀' h' tk', KtsTurn (frs outer) g₀ h₀' → Fr h₀' L h' m → News h₀' L h' n' → Below A₀ base outer h₀' → KtsDicts (frs outer) h₀' → (Mine.hd.heap_39 w.params).In h₀' → Top topProg loose mean mg mb h₀' → Q .none { s with heap := h', toks := tk' }) :
    wpAny (model PySem.Challenge.rw_am6027_01.row.prog w) (top none dp un gd cn cs L a ccd cl outer) (PySem.call (.ref 268) [.ref x]) Q E s := by
  w_top off
  w_strict (
    revert XB
    k_fill
    intro XB
    subst hx
    have X := XB.keeps B.stays
    have T := TB.keeps B.stays
    have dcf := J.ocf
    have dcj := J.ocj
    refine wpAny_call ?_
    k_dflt ktr_enter
    k_steps
    exact ret _ _ _ (by k_asm) (by k_asm) (by k_asm) (by k_asm) (by k_asm) (XB.keeps (Below.stays (by k_asm))) (TB.keeps (Below.stays (by k_asm))))

set_option maxHeartbeats 8000000 in
theorem reg_no {w : World} {loose : List Str} {mean : ExcName → Option Value} {mg mb : Str → Option Value} {dp un : Nat} {gd : Option (List Code)} {cn : Str} {cs : Scope} {a : Addr} {ccd : Value} {cl : List (Str × Addr)} {outer : List Env} {A₀ : Around} {base h₀ g₀ : Heap} {L : Addr} {m : Str → Option Value}
    {news : List (Addr × Obj)} {s : Shared} {Q E : Value → Shared → Prop} {v : V} {x : Addr}
    (XB : (Mine.hd.heap_39 w.params).In base) (TB : Top topProg loose mean mg mb base) (B : Below A₀ base outer h₀) (D : KtsDicts (frs outer) h₀) (T0 : KtsTurn (frs outer) g₀ h₀) (F : Fr h₀ L s.heap m) (N : News h₀ L s.heap news) (hk : cs.kind = .function) (J : Jars news v) (hx : v.x = x) (hdp : dp + 25 < recursionLimit) (hun : un + 120 < cLine) (hf : v.f1 = true)
    (exc : ∀ h₀' g₁ h' tk' e, KtsTurn (frs outer) g₀ h₀' → Fr h₀' L g₁ m → Below A₀ base outer h₀' → KtsDicts (frs outer) h₀' → RaisedSN base g₁ (envX cn cs L a ccd cl :: outer) e (.type "ArithmeticError") news h' → g₁.UpToSlots h' → E (.ref e) { s with heap := h', toks := tk' }) :
    wpAny (model PySem.Challenge.rw_am6027_01.row.prog w) (top none dp un gd cn cs L a ccd cl outer) (PySem.call (.ref 268) [.ref x]) Q E s := by
  w_top off
  w_strict (
    revert XB
    k_fill
    intro XB
    subst hx
    have X := XB.keeps B.stays
    have T := TB.keeps B.stays
    have dcf := J.ocf
    have dcj := J.ocj
    refine wpAny_call ?_
    k_dflt ktr_enter
    k_steps
    (with_reducible rename RaisedSN _ _ _ _ _ _ _ => rsX; with_reducible rename Heap.UpToSlots _ _ => rsU; exact exc_of rfl (by k_asm) B D T0 (by first | assumption | exact KtsTurn.refl) rsX rsU (fun _ _ a b c d e f => exc _ _ _ _ _ a b c d e f)))
end Mine
end
section
open PySem PySem.W PyProof.Rows PySem.Calls
set_option Elab.async false
set_option maxRecDepth 100000
namespace Mine

local macro_rules | `(tactic| k_room) => `(tactic| ((try simp only [depth_mark, depth_under_make, depth_under_kw, depth_in1, depth_deeper, depth_caller]); (try dsimp only [top]); omega))
local macro_rules | `(tactic| k_units) => `(tactic| ((try simp only [units_in1, units_deeper, Around.mark_units, units_caller]); (try dsimp only [top]); (have hcL9 := cLine_is); omega))
local macro_rules | `(tactic| k_handed) => `(tactic| assumption)
local macro_rules | `(tactic| k_upd) => `(tactic| assumption)
local macro_rules | `(tactic| k_mem) => `(tactic| first | exact Jars.x (by assumption) | exact Jars.dx (by assumption) | exact Jars.y (by assumption) | exact Jars.dy (by assumption) | exact Jars.ll (by assumption) | exact Jars.lc (by assumption) | exact Jars.fs (by assumption) | exact Jars.fr (by assumption) | exact Jars.cf (by assumption) | exact Jars.cj (by assumption) | exact Jars.fl (by assumption) | exact Jars.cs (by assumption) | exact Jars.cr (by assumption))
local macro_rules | `(tactic| size_fits) => `(tactic| (simp only [List.size_toArray, PySem.sizeLine_eq]; omega))

local macro_rules | `(tactic| walk_at "eval Name") => `(tactic| (k_here; k_dflt (refine' nameX_F ?N ?c ?m ?d ?_ ?a ?b; (case a => rfl); (case b => rfl); (case N => k_asm); (case c => rfl); (case m => k_mem); (case d => k_asm); k_whole)))
local macro_rules | `(tactic| ktr_room) => `(tactic| ((try simp only [depth_mark, depth_under_make, depth_under_kw, depth_in1, depth_deeper, depth_caller, units_in1, units_deeper, Around.mark_units, units_caller]); (try dsimp only [top]); (try simp only [cLine_is]); first | omega | decide))
local macro_rules | `(tactic| ktr_enter) => `(tactic| (refine' enterT ?B ?D ?T0 ?F ?N ?XB ?TB ?kA ?kF ?kK ?ho ?hcd ?hroom ?hbind ?hloc ?_ ?c1 ?c2 ?c3 ?c4; (case kA => exact rfl); (case kF => exact rfl); (case kK => first | assumption | exact rfl); (case B => k_asm); (case D => k_asm); (case T0 => first | assumption | exact KtsTurn.refl); (case F => k_asm); (case N => k_asm); (case XB => k_asm); (case TB => k_asm); (case ho => k_is); (case hcd => k_is); (case hroom => k_room); (case hbind => first | exact BindsTo.of_eq rfl | exact binds_K (by k_in) rfl (by k_is) rfl rfl rfl); (case hloc => exact locs rfl); (case c1 => exact rfl); (case c2 => exact rfl); (case c3 => exact rfl); (case c4 => decide); k_whole; intro g' L' h' FG' F' N' B' D' X' T'; (try dsimp only); (try k_fold)))
local macro_rules | `(tactic| kla_enter) => `(tactic| (refine' enterTL ?B ?D ?T0 ?F ?N ?XB ?TB ?kA ?kF ?kK ?ho ?hcd ?hroom ?hbind ?hloc ?_ ?c1 ?c2 ?c3 ?c4; (case kA => exact rfl); (case kF => exact rfl); (case kK => first | assumption | exact rfl); (case B => k_asm); (case D => k_asm); (case T0 => first | assumption | exact KtsTurn.refl); (case F => k_asm); (case N => k_asm); (case XB => k_asm); (case TB => k_asm); (case ho => k_mem); (case hcd => first | exact jars_codeS (by k_asm) (by k_asm) | exact jars_codeR (by k_asm) (by k_asm)); (case hroom => k_room); (case hbind => exact rfl); (case hloc => exact locs rfl); (case c1 => exact rfl); (case c2 => exact rfl); (case c3 => exact rfl); (case c4 => decide); k_whole; intro g' L' h' FG' F' N' B' D' X' T'; (try dsimp only); (try k_fold)))
local macro_rules | `(tactic| walk_at "LeaveT") => `(tactic| (k_dflt (refine' leaveT_ ?F ?N ?T ?_; (case F => k_asm); (case N => k_asm); (case T => first | assumption | exact KtsTurn.refl); k_whole); intro h₀' T' F' N' B' D'; (try dsimp only)))
local macro_rules | `(tactic| walk_at "subscriptTail Name Constant ref int") => `(tactic| ((with_reducible show wpAny _ _ (subscriptTail _ _ (Value.ref _) (Value.int _ _)) _ _ _); k_dflt (refine' item_fl ?N ?m ?a ?b ?x ?_; (case N => k_asm); (case m => k_mem); (case a => decide); (case b => decide); (case x => rfl); k_whole)))
local macro_rules | `(tactic| walk_at "callWith ref") => `(tactic| (k_here; (show wpAny _ _ (callWith _ (Value.ref (V.fr _)) _ _ _) _ _ _); k_dflt (first
  | (refine' callWith_F ?k1 ?_; (case k1 => exact FnAt.of (by k_asm) (by k_mem)); k_whole)
  | (refine' callWith_F0 ?k1 ?_; (case k1 => exact FnAt.of (by k_asm) (by k_mem)); k_whole; try dsimp only [List.nil_append, List.cons_append]))))
local macro_rules | `(tactic| walk_at "callWith ref") => `(tactic| (k_here; (show wpAny _ _ (callWith _ (Value.ref (V.fs _)) _ _ _) _ _ _); k_dflt (first
  | (refine' callWith_F ?k1 ?_; (case k1 => exact FnAt.of (by k_asm) (by k_mem)); k_whole)
  | (refine' callWith_F0 ?k1 ?_; (case k1 => exact FnAt.of (by k_asm) (by k_mem)); k_whole; try dsimp only [List.nil_append, List.cons_append]))))
local macro_rules | `(tactic| walk_at "getMethod ref") => `(tactic| (k_here; k_dflt (refine' method_shadow ?k1 ?k2 ?k3 ?k4 ?k5 ?k6 ?k7 ?k8 ?k9 ?k10 ?k11 ?_; (case k1 => k_asm); (case k2 => k_asm); (case k3 => k_inst); (case k4 => k_is); (case k5 => k_is); (case k6 => k_is); (case k7 => k_is); (case k8 => k_is); (case k9 => k_is); (case k10 => k_get); (case k11 => first | rfl | k_handed); k_whole)))
local macro_rules | `(tactic| walk_at "leaving ref") => `(tactic| (k_here; first
  | (with_reducible rename RaisedSN _ _ _ _ _ _ _ => rsX; k_dflt (refine' passX ?f ?K ?F ?R ?U ?_; (case R => exact rsX); (case f => exact rfl); (case K => k_asm); (case F => k_asm); (case U => k_asm); k_whole); clear rsX; intro h' R' U'; (try dsimp only at R' U' ⊢))
  | (k_dflt (refine' leave_raiseS ?k1 ?k0 ?k2 ?k3 ?_; (case k0 => first | assumption | exact Heap.MadeExc.of (by assumption)); (case k2 => assumption); (case k1 => assumption); (case k3 => k_asm); k_whole); intro h' t' S' R' U'; (try dsimp only at S' R' U' ⊢); (replace S' := toSN S'); clear R')))
local macro_rules | `(tactic| walk_at "call ref") => `(tactic| (k_here; (show wpAny _ _ (PySem.call (Value.ref 35) [_, Value.str (PySem.Str.ofString "_Persistent__flags") _]) _ _ _); k_dflt (refine' oga_flags ?X ?B ?F ?N ?T ?hk ?J ?hx ?dp ?un ?hF ?hh ?_; (case X => k_asm); (case B => k_asm); (case F => k_asm); (case N => k_asm); (case T => k_asm); (case hk => first | assumption | exact rfl); (case J => k_asm); (case hx => exact rfl); (case dp => ktr_room); (case un => ktr_room); (case hF => first | assumption | exact rfl); (case hh => first | rfl | assumption); k_whole); intro h' tk' F' N'; (try dsimp only); (try k_sweep)))
local macro_rules | `(tactic| walk_at "call ref") => `(tactic| (k_here; (show wpAny _ _ (PySem.call (Value.ref 35) [_, Value.str (PySem.Str.ofString "_Persistent__jar") _]) _ _ _); k_dflt (refine' oga_jar ?X ?B ?F ?N ?T ?hk ?J ?hx ?dp ?un ?_; (case X => k_asm); (case B => k_asm); (case F => k_asm); (case N => k_asm); (case T => k_asm); (case hk => first | assumption | exact rfl); (case J => k_asm); (case hx => exact rfl); (case dp => ktr_room); (case un => ktr_room); k_whole); intro h' tk' F' N'; (try dsimp only); (try k_sweep)))
local macro_rules | `(tactic| walk_at "call ref") => `(tactic| (k_here; (show wpAny _ _ (PySem.call (Value.ref 35) [_, Value.str (PySem.Str.ofString "_Persistent__oid") _]) _ _ _); k_dflt (refine' oga_oid ?X ?B ?F ?N ?T ?hk ?J ?hx ?dp ?un ?_; (case X => k_asm); (case B => k_asm); (case F => k_asm); (case N => k_asm); (case T => k_asm); (case hk => first | assumption | exact rfl); (case J => k_asm); (case hx => exact rfl); (case dp => ktr_room); (case un => ktr_room); k_whole); intro h' tk' F' N'; (try dsimp only); (try k_sweep)))
local macro_rules | `(tactic| walk_at "call ref") => `(tactic| (k_here; (show wpAny _ _ (PySem.call (Value.ref 42) [_, Value.str (PySem.Str.ofString "_Persistent__flags") _, _]) _ _ _); k_dflt (refine' osa_flags ?X ?B ?F ?N ?T ?hk ?J ?hx ?dp ?un ?U ?_; (case X => k_asm); (case B => k_asm); (case F => k_asm); (case N => k_asm); (case T => k_asm); (case hk => first | assumption | exact rfl); (case J => k_asm); (case hx => exact rfl); (case dp => ktr_room); (case un => ktr_room); (case U => first | assumption | apply_assumption); k_whole); intro h' tk' F' N'; (try dsimp only); (try k_sweep)))

local macro_rules | `(tactic| walk_at "truthy") => `(tactic| (k_dflt (refine' Word.truthy ?W ?N ?_; (case N => k_asm); (case W => k_asm); k_whole); intro tk'))
local macro_rules | `(tactic| walk_at "compareOp Is") => `(tactic| (k_dflt (refine' Word.notNone ?W ?_; (case W => k_asm); k_whole)))
local macro_rules | `(tactic| walk_at "call ref") => `(tactic| (k_here; k_dflt (show wpAny _ _ (PySem.call (Value.ref 268) [_]) _ _ _); k_dflt (refine' reg_ok ?XB ?TB ?B ?D ?T0 ?F ?N ?hk ?J ?hx ?dp ?un ?hf ?hz ?U ?_; (case B => k_asm); (case D => k_asm); (case T0 => first | assumption | exact KtsTurn.refl); (case F => k_asm); (case N => k_asm); (case XB => k_asm); (case TB => k_asm); (case hk => first | assumption | exact rfl); (case J => k_asm); (case hx => exact rfl); (case dp => ktr_room); (case un => ktr_room); (case hf => assumption); (case hz => assumption); (case U => assumption); k_whole); intro h₀' h' tk' T' F' N' B' D' X' T2'; (try dsimp only)))
local macro_rules | `(tactic| walk_at "call ref") => `(tactic| (k_here; k_dflt (show wpAny _ _ (PySem.call (Value.ref 268) [_]) _ _ _); k_dflt (refine' reg_no ?XB ?TB ?B ?D ?T0 ?F ?N ?hk ?J ?hx ?dp ?un ?hf ?_; (case B => k_asm); (case D => k_asm); (case T0 => first | assumption | exact KtsTurn.refl); (case F => k_asm); (case N => k_asm); (case XB => k_asm); (case TB => k_asm); (case hk => first | assumption | exact rfl); (case J => k_asm); (case hx => exact rfl); (case dp => ktr_room); (case un => ktr_room); (case hf => assumption); k_whole); intro h₀' g' h' tk' e' T' FG' B' D' R' U'; (try dsimp only); (try k_unfold); (try dsimp only)))

set_option maxHeartbeats 8000000 in
theorem flag_on0 {w : World} {loose : List Str} {mean : ExcName → Option Value} {mg mb : Str → Option Value} {dp un : Nat} {gd : Option (List Code)} {cn : Str} {cs : Scope} {a : Addr} {ccd : Value} {cl : List (Str × Addr)} {outer : List Env} {A₀ : Around} {base h₀ g₀ : Heap} {L : Addr} {m : Str → Option Value}
    {news : List (Addr × Obj)} {s : Shared} {Q E : Value → Shared → Prop} {v : V} {x : Addr} {n₁ : List (Addr × Obj)} {n' : Tok → List (Addr × Obj)} {u : Value} {tf : Tok}
    (XB : (Mine.hd.heap_39 w.params).In base) (TB : Top topProg loose mean mg mb base) (B : Below A₀ base outer h₀) (D : KtsDicts (frs outer) h₀) (T0 : KtsTurn (frs outer) g₀ h₀) (F : Fr h₀ L s.heap m) (N : News h₀ L s.heap news) (hk : cs.kind = .function) (J : Jars news v) (hx : v.x = x) (hdp : dp + 35 < recursionLimit) (hun : un + 150 < cLine) (W : Word news true u) (hF : v.F = .int 0 tf) (hf : v.f1 = false) (hz : v.vc.length ≤ 1000) (U1 : Upd v.lc (PySem.W.listOf v.vc.toArray v.nc) (PySem.W.listOf (v.vc.toArray.push (.bytes #[109] v.t0)) (v.nc + 1)) news n₁) (U : ∀ t, Upd v.dx (dictOf (oneD v.ks (.ref v.y) (.bytes #[109] v.t0) .none v.F (.int 0 v.tz) .none) 6) (dictOf (oneD v.ks (.ref v.y) (.bytes #[109] v.t0) .none (.int 1 t) (.int 0 v.tz) .none) 6) n₁ (n' t))
    (ret : ∀ h₀' h' tk' t, KtsTurn (frs outer) g₀ h₀' → Fr h₀' L h' m → News h₀' L h' (n' t) → Below A₀ base outer h₀' → KtsDicts (frs outer) h₀' → (Mine.hd.heap_39 w.params).In h₀' → Top topProg loose mean mg mb h₀' → Q .none { s with heap := h', toks := tk' }) :
    wpAny (model PySem.Challenge.rw_am6027_01.row.prog w) (top none dp un gd cn cs L a ccd cl outer) (PySem.call (.ref 275) [.ref x, u]) Q E s := by
  w_top off
  w_strict (
    revert XB
    k_fill
    intro XB
    subst hx
    have X := XB.keeps B.stays
    have T := TB.keeps B.stays
    have dcf := J.ocf
    have dcj := J.ocj
    have J1 := J.pushC U1
    refine wpAny_call ?_
    k_dflt ktr_enter
    k_steps
    exact ret _ _ _ _ (by k_asm) (by k_asm) (by k_asm) (by k_asm) (by k_asm) (XB.keeps (Below.stays (by k_asm))) (TB.keeps (Below.stays (by k_asm))))

set_option maxHeartbeats 8000000 in
theorem flag_no0 {w : World} {loose : List Str} {mean : ExcName → Option Value} {mg mb : Str → Option Value} {dp un : Nat} {gd : Option (List Code)} {cn : Str} {cs : Scope} {a : Addr} {ccd : Value} {cl : List (Str × Addr)} {outer : List Env} {A₀ : Around} {base h₀ g₀ : Heap} {L : Addr} {m : Str → Option Value}
    {news : List (Addr × Obj)} {s : Shared} {Q E : Value → Shared → Prop} {v : V} {x : Addr} {u : Value} {tf : Tok}
    (XB : (Mine.hd.heap_39 w.params).In base) (TB : Top topProg loose mean mg mb base) (B : Below A₀ base outer h₀) (D : KtsDicts (frs outer) h₀) (T0 : KtsTurn (frs outer) g₀ h₀) (F : Fr h₀ L s.heap m) (N : News h₀ L s.heap news) (hk : cs.kind = .function) (J : Jars news v) (hx : v.x = x) (hdp : dp + 35 < recursionLimit) (hun : un + 150 < cLine) (W : Word news true u) (hF : v.F = .int 0 tf) (hf : v.f1 = true)
    (exc : ∀ h₀' g₁ h' tk' e, KtsTurn (frs outer) g₀ h₀' → Fr h₀' L g₁ m → Below A₀ base outer h₀' → KtsDicts (frs outer) h₀' → RaisedSN base g₁ (envX cn cs L a ccd cl :: outer) e (.type "ArithmeticError") news h' → g₁.UpToSlots h' → E (.ref e) { s with heap := h', toks := tk' }) :
    wpAny (model PySem.Challenge.rw_am6027_01.row.prog w) (top none dp un gd cn cs L a ccd cl outer) (PySem.call (.ref 275) [.ref x, u]) Q E s := by
  w_top off
  w_strict (
    revert XB
    k_fill
    intro XB
    subst hx
    have X := XB.keeps B.stays
    have T := TB.keeps B.stays
    have dcf := J.ocf
    have dcj := J.ocj
    refine wpAny_call ?_
    k_dflt ktr_enter
    k_steps
    (with_reducible rename RaisedSN _ _ _ _ _ _ _ => rsX; with_reducible rename Heap.UpToSlots _ _ => rsU; exact exc_of rfl (by k_asm) B D T0 (by first | assumption | exact KtsTurn.refl) rsX rsU (fun _ _ a b c d e f => exc _ _ _ _ _ a b c d e f)))

set_option maxHeartbeats 8000000 in
theorem flag_off0 {w : World} {loose : List Str} {mean : ExcName → Option Value} {mg mb : Str → Option Value} {dp un : Nat} {gd : Option (List Code)} {cn : Str} {cs : Scope} {a : Addr} {ccd : Value} {cl : List (Str × Addr)} {outer : List Env} {A₀ : Around} {base h₀ g₀ : Heap} {L : Addr} {m : Str → Option Value}
    {news : List (Addr × Obj)} {s : Shared} {Q E : Value → Shared → Prop} {v : V} {x : Addr} {n' : Tok → List (Addr × Obj)} {u : Value} {tf : Tok}
    (XB : (Mine.hd.heap_39 w.params).In base) (TB : Top topProg loose mean mg mb base) (B : Below A₀ base outer h₀) (D : KtsDicts (frs outer) h₀) (T0 : KtsTurn (frs outer) g₀ h₀) (F : Fr h₀ L s.heap m) (N : News h₀ L s.heap news) (hk : cs.kind = .function) (J : Jars news v) (hx : v.x = x) (hdp : dp + 35 < recursionLimit) (hun : un + 150 < cLine) (W : Word news false u) (hF : v.F = .int 0 tf) (U : ∀ t, Upd v.dx (dictOf (oneD v.ks (.ref v.y) (.bytes #[109] v.t0) .none v.F (.int 0 v.tz) .none) 6) (dictOf (oneD v.ks (.ref v.y) (.bytes #[109] v.t0) .none (.int 0 t) (.int 0 v.tz) .none) 6) news (n' t))
    (ret : ∀ h₀' h' tk' t, KtsTurn (frs outer) g₀ h₀' → Fr h₀' L h' m → News h₀' L h' (n' t) → Below A₀ base outer h₀' → KtsDicts (frs outer) h₀' → (Mine.hd.heap_39 w.params).In h₀' → Top topProg loose mean mg mb h₀' → Q .none { s with heap := h', toks := tk' }) :
    wpAny (model PySem.Challenge.rw_am6027_01.row.prog w) (top none dp un gd cn cs L a ccd cl outer) (PySem.call (.ref 275) [.ref x, u]) Q E s := by
  w_top off
  w_strict (
    revert XB
    k_fill
    intro XB
    subst hx
    have X := XB.keeps B.stays
    have T := TB.keeps B.stays
    have dcf := J.ocf
    have dcj := J.ocj
    refine wpAny_call ?_
    k_dflt ktr_enter
    k_steps
    exact ret _ _ _ _ (by k_asm) (by k_asm) (by k_asm) (by k_asm) (by k_asm) (XB.keeps (Below.stays (by k_asm))) (TB.keeps (Below.stays (by k_asm))))

set_option maxHeartbeats 8000000 in
theorem flag_on1 {w : World} {loose : List Str} {mean : ExcName → Option Value} {mg mb : Str → Option Value} {dp un : Nat} {gd : Option (List Code)} {cn : Str} {cs : Scope} {a : Addr} {ccd : Value} {cl : List (Str × Addr)} {outer : List Env} {A₀ : Around} {base h₀ g₀ : Heap} {L : Addr} {m : Str → Option Value}
    {news : List (Addr × Obj)} {s : Shared} {Q E : Value → Shared → Prop} {v : V} {x : Addr} {n' : Tok → List (Addr × Obj)} {u : Value} {tf : Tok}
    (XB : (Mine.hd.heap_39 w.params).In base) (TB : Top topProg loose mean mg mb base) (B : Below A₀ base outer h₀) (D : KtsDicts (frs outer) h₀) (T0 : KtsTurn (frs outer) g₀ h₀) (F : Fr h₀ L s.heap m) (N : News h₀ L s.heap news) (hk : cs.kind = .function) (J : Jars news v) (hx : v.x = x) (hdp : dp + 35 < recursionLimit) (hun : un + 150 < cLine) (W : Word news true u) (hF : v.F = .int 1 tf) (U : ∀ t, Upd v.dx (dictOf (oneD v.ks (.ref v.y) (.bytes #[109] v.t0) .none v.F (.int 0 v.tz) .none) 6) (dictOf (oneD v.ks (.ref v.y) (.bytes #[109] v.t0) .none (.int 1 t) (.int 0 v.tz) .none) 6) news (n' t))
    (ret : ∀ h₀' h' tk' t, KtsTurn (frs outer) g₀ h₀' → Fr h₀' L h' m → News h₀' L h' (n' t) → Below A₀ base outer h₀' → KtsDicts (frs outer) h₀' → (Mine.hd.heap_39 w.params).In h₀' → Top topProg loose mean mg mb h₀' → Q .none { s with heap := h', toks := tk' }) :
    wpAny (model PySem.Challenge.rw_am6027_01.row.prog w) (top none dp un gd cn cs L a ccd cl outer) (PySem.call (.ref 275) [.ref x, u]) Q E s := by
  w_top off
  w_strict (
    revert XB
    k_fill
    intro XB
    subst hx
    have X := XB.keeps B.stays
    have T := TB.keeps B.stays
    have dcf := J.ocf
    have dcj := J.ocj
    refine wpAny_call ?_
    k_dflt ktr_enter
    k_steps
    exact ret _ _ _ _ (by k_asm) (by k_asm) (by k_asm) (by k_asm) (by k_asm) (XB.keeps (Below.stays (by k_asm))) (TB.keeps (Below.stays (by k_asm))))

set_option maxHeartbeats 8000000 in
theorem flag_off1 {w : World} {loose : List Str} {mean : ExcName → Option Value} {mg mb : Str → Option Value} {dp un : Nat} {gd : Option (List Code)} {cn : Str} {cs : Scope} {a : Addr} {ccd : Value} {cl : List (Str × Addr)} {outer : List Env} {A₀ : Around} {base h₀ g₀ : Heap} {L : Addr} {m : Str → Option Value}
    {news : List (Addr × Obj)} {s : Shared} {Q E : Value → Shared → Prop} {v : V} {x : Addr} {n' : Tok → List (Addr × Obj)} {u : Value} {tf : Tok}
    (XB : (Mine.hd.heap_39 w.params).In base) (TB : Top topProg loose mean mg mb base) (B : Below A₀ base outer h₀) (D : KtsDicts (frs outer) h₀) (T0 : KtsTurn (frs outer) g₀ h₀) (F : Fr h₀ L s.heap m) (N : News h₀ L s.heap news) (hk : cs.kind = .function) (J : Jars news v) (hx : v.x = x) (hdp : dp + 35 < recursionLimit) (hun : un + 150 < cLine) (W : Word news false u) (hF : v.F = .int 1 tf) (U : ∀ t, Upd v.dx (dictOf (oneD v.ks (.ref v.y) (.bytes #[109] v.t0) .none v.F (.int 0 v.tz) .none) 6) (dictOf (oneD v.ks (.ref v.y) (.bytes #[109] v.t0) .none (.int 0 t) (.int 0 v.tz) .none) 6) news (n' t))
    (ret : ∀ h₀' h' tk' t, KtsTurn (frs outer) g₀ h₀' → Fr h₀' L h' m → News h₀' L h' (n' t) → Below A₀ base outer h₀' → KtsDicts (frs outer) h₀' → (Mine.hd.heap_39 w.params).In h₀' → Top topProg loose mean mg mb h₀' → Q .none { s with heap := h', toks := tk' }) :
    wpAny (model PySem.Challenge.rw_am6027_01.row.prog w) (top none dp un gd cn cs L a ccd cl outer) (PySem.call (.ref 275) [.ref x, u]) Q E s := by
  w_top off
  w_strict (
    revert XB
    k_fill
    intro XB
    subst hx
    have X := XB.keeps B.stays
    have T := TB.keeps B.stays
    have dcf := J.ocf
    have dcj := J.ocj
    refine wpAny_call ?_
    k_dflt ktr_enter
    k_steps
    exact ret _ _ _ _ (by k_asm) (by k_asm) (by k_asm) (by k_asm) (by k_asm) (XB.keeps (Below.stays (by k_asm))) (TB.keeps (Below.stays (by k_asm))))

set_option maxHeartbeats 8000000 in
theorem flag_on2 {w : World} {loose : List Str} {mean : ExcName → Option Value} {mg mb : Str → Option Value} {dp un : Nat} {gd : Option (List Code)} {cn : Str} {cs : Scope} {a : Addr} {ccd : Value} {cl : List (Str × Addr)} {outer : List Env} {A₀ : Around} {base h₀ g₀ : Heap} {L : Addr} {m : Str → Option Value}
    {news : List (Addr × Obj)} {s : Shared} {Q E : Value → Shared → Prop} {v : V} {x : Addr} {n₁ : List (Addr × Obj)} {n' : Tok → List (Addr × Obj)} {u : Value} {tf : Tok}
    (XB : (Mine.hd.heap_39 w.params).In base) (TB : Top topProg loose mean mg mb base) (B : Below A₀ base outer h₀) (D : KtsDicts (frs outer) h₀) (T0 : KtsTurn (frs outer) g₀ h₀) (F : Fr h₀ L s.heap m) (N : News h₀ L s.heap news) (hk : cs.kind = .function) (J : Jars news v) (hx : v.x = x) (hdp : dp + 35 < recursionLimit) (hun : un + 150 < cLine) (W : Word news true u) (hF : v.F = .int 2 tf) (hf : v.f1 = false) (hz : v.vc.length ≤ 1000) (U1 : Upd v.lc (PySem.W.listOf v.vc.toArray v.nc) (PySem.W.listOf (v.vc.toArray.push (.bytes #[109] v.t0)) (v.nc + 1)) news n₁) (U : ∀ t, Upd v.dx (dictOf (oneD v.ks (.ref v.y) (.bytes #[109] v.t0) .none v.F (.int 0 v.tz) .none) 6) (dictOf (oneD v.ks (.ref v.y) (.bytes #[109] v.t0) .none (.int 3 t) (.int 0 v.tz) .none) 6) n₁ (n' t))
    (ret : ∀ h₀' h' tk' t, KtsTurn (frs outer) g₀ h₀' → Fr h₀' L h' m → News h₀' L h' (n' t) → Below A₀ base outer h₀' → KtsDicts (frs outer) h₀' → (Mine.hd.heap_39 w.params).In h₀' → Top topProg loose mean mg mb h₀' → Q .none { s with heap := h', toks := tk' }) :
    wpAny (model PySem.Challenge.rw_am6027_01.row.prog w) (top none dp un gd cn cs L a ccd cl outer) (PySem.call (.ref 275) [.ref x, u]) Q E s := by
  w_top off
  w_strict (
    revert XB
    k_fill
    intro XB
    subst hx
    have X := XB.keeps B.stays
    have T := TB.keeps B.stays
    have dcf := J.ocf
    have dcj := J.ocj
    have J1 := J.pushC U1
    refine wpAny_call ?_
    k_dflt ktr_enter
    k_steps
    exact ret _ _ _ _ (by k_asm) (by k_asm) (by k_asm) (by k_asm) (by k_asm) (XB.keeps (Below.stays (by k_asm))) (TB.keeps (Below.stays (by k_asm))))

set_option maxHeartbeats 8000000 in
theorem flag_no2 {w : World} {loose : List Str} {mean : ExcName → Option Value} {mg mb : Str → Option Value} {dp un : Nat} {gd : Option (List Code)} {cn : Str} {cs : Scope} {a : Addr} {ccd : Value} {cl : List (Str × Addr)} {outer : List Env} {A₀ : Around} {base h₀ g₀ : Heap} {L : Addr} {m : Str → Option Value}
    {news : List (Addr × Obj)} {s : Shared} {Q E : Value → Shared → Prop} {v : V} {x : Addr} {u : Value} {tf : Tok}
    (XB : (Mine.hd.heap_39 w.params).In base) (TB : Top topProg loose mean mg mb base) (B : Below A₀ base outer h₀) (D : KtsDicts (frs outer) h₀) (T0 : KtsTurn (frs outer) g₀ h₀) (F : Fr h₀ L s.heap m) (N : News h₀ L s.heap news) (hk : cs.kind = .function) (J : Jars news v) (hx : v.x = x) (hdp : dp + 35 < recursionLimit) (hun : un + 150 < cLine) (W : Word news true u) (hF : v.F = .int 2 tf) (hf : v.f1 = true)
    (exc : ∀ h₀' g₁ h' tk' e, KtsTurn (frs outer) g₀ h₀' → Fr h₀' L g₁ m → Below A₀ base outer h₀' → KtsDicts (frs outer) h₀' → RaisedSN base g₁ (envX cn cs L a ccd cl :: outer) e (.type "ArithmeticError") news h' → g₁.UpToSlots h' → E (.ref e) { s with heap := h', toks := tk' }) :
    wpAny (model PySem.Challenge.rw_am6027_01.row.prog w) (top none dp un gd cn cs L a ccd cl outer) (PySem.call (.ref 275) [.ref x, u]) Q E s := by
  w_top off
  w_strict (
    revert XB
    k_fill
    intro XB
    subst hx
    have X := XB.keeps B.stays
    have T := TB.keeps B.stays
    have dcf := J.ocf
    have dcj := J.ocj
    refine wpAny_call ?_
    k_dflt ktr_enter
    k_steps
    (with_reducible rename RaisedSN _ _ _ _ _ _ _ => rsX; with_reducible rename Heap.UpToSlots _ _ => rsU; exact exc_of rfl (by k_asm) B D T0 (by first | assumption | exact KtsTurn.refl) rsX rsU (fun _ _ a b c d e f => exc _ _ _ _ _ a b c d e f)))

set_option maxHeartbeats 8000000 in
theorem flag_off2 {w : World} {loose : List Str} {mean : ExcName → Option Value} {mg mb : Str → Option Value} {dp un : Nat} {gd : Option (List Code)} {cn : Str} {cs : Scope} {a : Addr} {ccd : Value} {cl : List (Str × Addr)} {outer : List Env} {A₀ : Around} {base h₀ g₀ : Heap} {L : Addr} {m : Str → Option Value}
    {news : List (Addr × Obj)} {s : Shared} {Q E : Value → Shared → Prop} {v : V} {x : Addr} {n' : Tok → List (Addr × Obj)} {u : Value} {tf : Tok}
    (XB : (Mine.hd.heap_39 w.params).In base) (TB : Top topProg loose mean mg mb base) (B : Below A₀ base outer h₀) (D : KtsDicts (frs outer) h₀) (T0 : KtsTurn (frs outer) g₀ h₀) (F : Fr h₀ L s.heap m) (N : News h₀ L s.heap news) (hk : cs.kind = .function) (J : Jars news v) (hx : v.x = x) (hdp : dp + 35 < recursionLimit) (hun : un + 150 < cLine) (W : Word news false u) (hF : v.F = .int 2 tf) (U : ∀ t, Upd v.dx (dictOf (oneD v.ks (.ref v.y) (.bytes #[109] v.t0) .none v.F (.int 0 v.tz) .none) 6) (dictOf (oneD v.ks (.ref v.y) (.bytes #[109] v.t0) .none (.int 2 t) (.int 0 v.tz) .none) 6) news (n' t))
    (ret : ∀ h₀' h' tk' t, KtsTurn (frs outer) g₀ h₀' → Fr h₀' L h' m → News h₀' L h' (n' t) → Below A₀ base outer h₀' → KtsDicts (frs outer) h₀' → (Mine.hd.heap_39 w.params).In h₀' → Top topProg loose mean mg mb h₀' → Q .none { s with heap := h', toks := tk' }) :
    wpAny (model PySem.Challenge.rw_am6027_01.row.prog w) (top none dp un gd cn cs L a ccd cl outer) (PySem.call (.ref 275) [.ref x, u]) Q E s := by
  w_top off
  w_strict (
    revert XB
    k_fill
    intro XB
    subst hx
    have X := XB.keeps B.stays
    have T := TB.keeps B.stays
    have dcf := J.ocf
    have dcj := J.ocj
    refine wpAny_call ?_
    k_dflt ktr_enter
    k_steps
    exact ret _ _ _ _ (by k_asm) (by k_asm) (by k_asm) (by k_asm) (by k_asm) (XB.keeps (Below.stays (by k_asm))) (TB.keeps (Below.stays (by k_asm))))

set_option maxHeartbeats 8000000 in
theorem flag_on3 {w : World} {loose : List Str} {mean : ExcName → Option Value} {mg mb : Str → Option Value} {dp un : Nat} {gd : Option (List Code)} {cn : Str} {cs : Scope} {a : Addr} {ccd : Value} {cl : List (Str × Addr)} {outer : List Env} {A₀ : Around} {base h₀ g₀ : Heap} {L : Addr} {m : Str → Option Value}
    {news : List (Addr × Obj)} {s : Shared} {Q E : Value → Shared → Prop} {v : V} {x : Addr} {n' : Tok → List (Addr × Obj)} {u : Value} {tf : Tok}
    (XB : (Mine.hd.heap_39 w.params).In base) (TB : Top topProg loose mean mg mb base) (B : Below A₀ base outer h₀) (D : KtsDicts (frs outer) h₀) (T0 : KtsTurn (frs outer) g₀ h₀) (F : Fr h₀ L s.heap m) (N : News h₀ L s.heap news) (hk : cs.kind = .function) (J : Jars news v) (hx : v.x = x) (hdp : dp + 35 < recursionLimit) (hun : un + 150 < cLine) (W : Word news true u) (hF : v.F = .int 3 tf) (U : ∀ t, Upd v.dx (dictOf (oneD v.ks (.ref v.y) (.bytes #[109] v.t0) .none v.F (.int 0 v.tz) .none) 6) (dictOf (oneD v.ks (.ref v.y) (.bytes #[109] v.t0) .none (.int 3 t) (.int 0 v.tz) .none) 6) news (n' t))
    (ret : ∀ h₀' h' tk' t, KtsTurn (frs outer) g₀ h₀' → Fr h₀' L h' m → News h₀' L h' (n' t) → Below A₀ base outer h₀' → KtsDicts (frs outer) h₀' → (Mine.hd.heap_39 w.params).In h₀' → Top topProg loose mean mg mb h₀' → Q .none { s with heap := h', toks := tk' }) :
    wpAny (model PySem.Challenge.rw_am6027_01.row.prog w) (top none dp un gd cn cs L a ccd cl outer) (PySem.call (.ref 275) [.ref x, u]) Q E s := by
  w_top off
  w_strict (
    revert XB
    k_fill
    intro XB
    subst hx
    have X := XB.keeps B.stays
    have T := TB.keeps B.stays
    have dcf := J.ocf
    have dcj := J.ocj
    refine wpAny_call ?_
    k_dflt ktr_enter
    k_steps
    exact ret _ _ _ _ (by k_asm) (by k_asm) (by k_asm) (by k_asm) (by k_asm) (XB.keeps (Below.stays (by k_asm))) (TB.keeps (Below.stays (by k_asm))))

set_option maxHeartbeats 8000000 in
theorem flag_off3 {w : World} {loose : List Str} {mean : ExcName → Option Value} {mg mb : Str → Option Value} {dp un : Nat} {gd : Option (List Code)} {cn : Str} {cs : Scope} {a : Addr} {ccd : Value} {cl : List (Str × Addr)} {outer : List Env} {A₀ : Around} {base h₀ g₀ : Heap} {L : Addr} {m : Str → Option Value}
    {news : List (Addr × Obj)} {s : Shared} {Q E : Value → Shared → Prop} {v : V} {x : Addr} {n' : Tok → List (Addr × Obj)} {u : Value} {tf : Tok}
    (XB : (Mine.hd.heap_39 w.params).In base) (TB : Top topProg loose mean mg mb base) (B : Below A₀ base outer h₀) (D : KtsDicts (frs outer) h₀) (T0 : KtsTurn (frs outer) g₀ h₀) (F : Fr h₀ L s.heap m) (N : News h₀ L s.heap news) (hk : cs.kind = .function) (J : Jars news v) (hx : v.x = x) (hdp : dp + 35 < recursionLimit) (hun : un + 150 < cLine) (W : Word news false u) (hF : v.F = .int 3 tf) (U : ∀ t, Upd v.dx (dictOf (oneD v.ks (.ref v.y) (.bytes #[109] v.t0) .none v.F (.int 0 v.tz) .none) 6) (dictOf (oneD v.ks (.ref v.y) (.bytes #[109] v.t0) .none (.int 2 t) (.int 0 v.tz) .none) 6) news (n' t))
    (ret : ∀ h₀' h' tk' t, KtsTurn (frs outer) g₀ h₀' → Fr h₀' L h' m → News h₀' L h' (n' t) → Below A₀ base outer h₀' → KtsDicts (frs outer) h₀' → (Mine.hd.heap_39 w.params).In h₀' → Top topProg loose mean mg mb h₀' → Q .none { s with heap := h', toks := tk' }) :
    wpAny (model PySem.Challenge.rw_am6027_01.row.prog w) (top none dp un gd cn cs L a ccd cl outer) (PySem.call (.ref 275) [.ref x, u]) Q E s := by
  w_top off
  w_strict (
    revert XB
    k_fill
    intro XB
    subst hx
    have X := XB.keeps B.stays
    have T := TB.keeps B.stays
    have dcf := J.ocf
    have dcj := J.ocj
    refine wpAny_call ?_
    k_dflt ktr_enter
    k_steps
    exact ret _ _ _ _ (by k_asm) (by k_asm) (by k_asm) (by k_asm) (by k_asm) (XB.keeps (Below.stays (by k_asm))) (TB.keeps (Below.stays (by k_asm))))
end Mine
end
section
open PySem PySem.W PyProof.Rows PySem.Calls
set_option Elab.async false
set_option maxRecDepth 100000
namespace Mine

theorem news_tl2 {h₀ h : Heap} {L : Addr} {p q : Addr × Obj} {l : List (Addr × Obj)} (N : News h₀ L h (p :: q :: l)) : News h₀ L h l := fun r hr => N r (.tail _ (.tail _ hr))
theorem sub_AE : isSubtype (.type "AttributeError") (.type "BaseException") = pure true := by rw [isSubtype_type]; kernel_rfl
theorem notTuple_AE : isSubtype (.type ((Manifest.find? "AttributeError").elim "type" fun x => x.metatype)) (.type "tuple") = pure false := by
  rw [show ((Manifest.find? "AttributeError").elim "type" fun x => x.metatype) = "type" from by kernel_rfl, isSubtype_type]; kernel_rfl
theorem findObj_none {K : Frag} {C : Addr} {name : Str} {es : List DictEntry} {n : Nat} (hh : hasDictIn K C = true) (ha : findIn K (.ref C) name = some none) (hc : copiedNames.contains name = false) (hl : getL name es = some none) :
    findObj K C (some (dictOf es n)) name = some .missing := by
  obtain ⟨cd, hc', hd⟩ := any_some hh
  have ho : PySem.W.ownOf cd (some (dictOf es n)) name = some none := by
    unfold PySem.W.ownOf; rw [if_pos hd]; show lookIn name (dictOf es n) = _; rw [lookIn_dict, hl]
  unfold findObj
  rw [hc', Option.bind_some, ha, Option.bind_some]
  show (PySem.W.ownOf cd (some (dictOf es n)) name).bind _ = _
  rw [ho, Option.bind_some]
  show (if (copiedNames.contains name && _) = true then _ else _) = _
  rw [hc, Bool.false_and, if_neg (by decide)]

local macro_rules | `(tactic| k_room) => `(tactic| ((try simp only [depth_mark, depth_under_make, depth_under_kw, depth_in1, depth_deeper, depth_caller]); (try dsimp only [top]); omega))
local macro_rules | `(tactic| k_units) => `(tactic| ((try simp only [units_in1, units_deeper, Around.mark_units, units_caller]); (try dsimp only [top]); (have hcL9 := cLine_is); omega))
local macro_rules | `(tactic| k_handed) => `(tactic| assumption)
local macro_rules | `(tactic| k_upd) => `(tactic| assumption)
local macro_rules | `(tactic| k_mem) => `(tactic| first | (refine' Jars.x' ?J ?h; (case J => first | assumption | apply_assumption); (case h => exact rfl)) | (refine' Jars.dx' ?J ?h; (case J => first | assumption | apply_assumption); (case h => exact rfl)) | (refine' Jars.y' ?J ?h; (case J => first | assumption | apply_assumption); (case h => exact rfl)) | (refine' Jars.dy' ?J ?h; (case J => first | assumption | apply_assumption); (case h => exact rfl)) | (refine' Jars.ll' ?J ?h; (case J => first | assumption | apply_assumption); (case h => exact rfl)) | (refine' Jars.lc' ?J ?h; (case J => first | assumption | apply_assumption); (case h => exact rfl)) | (refine' Jars.fs' ?J ?h; (case J => first | assumption | apply_assumption); (case h => exact rfl)) | (refine' Jars.fr' ?J ?h; (case J => first | assumption | apply_assumption); (case h => exact rfl)) | (refine' Jars.cf' ?J ?h; (case J => first | assumption | apply_assumption); (case h => exact rfl)) | (refine' Jars.cj' ?J ?h; (case J => first | assumption | apply_assumption); (case h => exact rfl)) | (refine' Jars.fl' ?J ?h; (case J => first | assumption | apply_assumption); (case h => exact rfl)) | (refine' Jars.cs' ?J ?h; (case J => first | assumption | apply_assumption); (case h => exact rfl)) | (refine' Jars.cr' ?J ?h; (case J => first | assumption | apply_assumption); (case h => exact rfl)))
local macro_rules | `(tactic| size_fits) => `(tactic| (simp only [List.size_toArray, PySem.sizeLine_eq]; omega))

local macro_rules | `(tactic| walk_at "eval Name") => `(tactic| (k_here; k_dflt (refine' nameX_F ?N ?c ?m ?d ?_ ?a ?b; (case a => rfl); (case b => rfl); (case N => k_asm); (case c => rfl); (case m => k_mem); (case d => k_asm); k_whole)))
local macro_rules | `(tactic| ktr_room) => `(tactic| ((try simp only [depth_mark, depth_under_make, depth_under_kw, depth_in1, depth_deeper, depth_caller, units_in1, units_deeper, Around.mark_units, units_caller]); (try dsimp only [top]); (try simp only [cLine_is]); first | omega | decide))
local macro_rules | `(tactic| ktr_enter) => `(tactic| (refine' enterT ?B ?D ?T0 ?F ?N ?XB ?TB ?kA ?kF ?kK ?ho ?hcd ?hroom ?hbind ?hloc ?_ ?c1 ?c2 ?c3 ?c4; (case kA => exact rfl); (case kF => exact rfl); (case kK => first | assumption | exact rfl); (case B => k_asm); (case D => k_asm); (case T0 => first | assumption | exact KtsTurn.refl); (case F => k_asm); (case N => k_asm); (case XB => k_asm); (case TB => k_asm); (case ho => k_is); (case hcd => k_is); (case hroom => k_room); (case hbind => first | exact BindsTo.of_eq rfl | exact binds_K (by k_in) rfl (by k_is) rfl rfl rfl); (case hloc => exact locs rfl); (case c1 => exact rfl); (case c2 => exact rfl); (case c3 => exact rfl); (case c4 => decide); k_whole; intro g' L' h' FG' F' N' B' D' X' T'; (try dsimp only); (try k_fold)))
local macro_rules | `(tactic| kla_enter) => `(tactic| (refine' enterTL ?B ?D ?T0 ?F ?N ?XB ?TB ?kA ?kF ?kK ?ho ?hcd ?hroom ?hbind ?hloc ?_ ?c1 ?c2 ?c3 ?c4; (case kA => exact rfl); (case kF => exact rfl); (case kK => first | assumption | exact rfl); (case B => k_asm); (case D => k_asm); (case T0 => first | assumption | exact KtsTurn.refl); (case F => k_asm); (case N => k_asm); (case XB => k_asm); (case TB => k_asm); (case ho => k_mem); (case hcd => first | exact jars_codeS (by k_asm) (by k_asm) | exact jars_codeR (by k_asm) (by k_asm)); (case hroom => k_room); (case hbind => exact rfl); (case hloc => exact locs rfl); (case c1 => exact rfl); (case c2 => exact rfl); (case c3 => exact rfl); (case c4 => decide); k_whole; intro g' L' h' FG' F' N' B' D' X' T'; (try dsimp only); (try k_fold)))
local macro_rules | `(tactic| walk_at "LeaveT") => `(tactic| (k_dflt (refine' leaveT_ ?F ?N ?T ?_; (case F => k_asm); (case N => k_asm); (case T => first | assumption | exact KtsTurn.refl); k_whole); intro h₀' T' F' N' B' D'; (try dsimp only)))
local macro_rules | `(tactic| walk_at "subscriptTail Name Constant ref int") => `(tactic| ((with_reducible show wpAny _ _ (subscriptTail _ _ (Value.ref _) (Value.int _ _)) _ _ _); k_dflt (refine' item_fl ?N ?m ?a ?b ?x ?_; (case N => k_asm); (case m => k_mem); (case a => decide); (case b => decide); (case x => rfl); k_whole)))
local macro_rules | `(tactic| walk_at "callWith ref") => `(tactic| (k_here; (show wpAny _ _ (callWith _ (Value.ref (V.fr _)) _ _ _) _ _ _); k_dflt (first
  | (refine' callWith_F ?k1 ?_; (case k1 => exact FnAt.of (by k_asm) (by k_mem)); k_whole)
  | (refine' callWith_F0 ?k1 ?_; (case k1 => exact FnAt.of (by k_asm) (by k_mem)); k_whole; try dsimp only [List.nil_append, List.cons_append]))))
local macro_rules | `(tactic| walk_at "callWith ref") => `(tactic| (k_here; (show wpAny _ _ (callWith _ (Value.ref (V.fs _)) _ _ _) _ _ _); k_dflt (first
  | (refine' callWith_F ?k1 ?_; (case k1 => exact FnAt.of (by k_asm) (by k_mem)); k_whole)
  | (refine' callWith_F0 ?k1 ?_; (case k1 => exact FnAt.of (by k_asm) (by k_mem)); k_whole; try dsimp only [List.nil_append, List.cons_append]))))
local macro_rules | `(tactic| walk_at "getMethod ref") => `(tactic| (k_here; k_dflt (refine' method_shadow ?k1 ?k2 ?k3 ?k4 ?k5 ?k6 ?k7 ?k8 ?k9 ?k10 ?k11 ?_; (case k1 => k_asm); (case k2 => k_asm); (case k3 => k_inst); (case k4 => k_is); (case k5 => k_is); (case k6 => k_is); (case k7 => k_is); (case k8 => k_is); (case k9 => k_is); (case k10 => k_get); (case k11 => first | rfl | k_handed); k_whole)))
local macro_rules | `(tactic| walk_at "leaving ref") => `(tactic| (k_here; first
  | (with_reducible rename RaisedSN _ _ _ _ _ _ _ => rsX; k_dflt (refine' passX ?f ?K ?F ?R ?U ?_; (case R => exact rsX); (case f => exact rfl); (case K => k_asm); (case F => k_asm); (case U => k_asm); k_whole); clear rsX; intro h' R' U'; (try dsimp only at R' U' ⊢))
  | (k_dflt (refine' leave_raiseS ?k1 ?k0 ?k2 ?k3 ?_; (case k0 => first | assumption | exact Heap.MadeExc.of (by assumption)); (case k2 => assumption); (case k1 => assumption); (case k3 => k_asm); k_whole); intro h' t' S' R' U'; (try dsimp only at S' R' U' ⊢); (replace S' := toSN S'); clear R')))
local macro_rules | `(tactic| walk_at "call ref") => `(tactic| (k_here; (show wpAny _ _ (PySem.call (Value.ref 35) [_, Value.str (PySem.Str.ofString "_Persistent__flags") _]) _ _ _); k_dflt (refine' oga_flags ?X ?B ?F ?N ?T ?hk ?J ?hx ?dp ?un ?hF ?hh ?_; (case X => k_asm); (case B => k_asm); (case F => k_asm); (case N => k_asm); (case T => k_asm); (case hk => first | assumption | exact rfl); (case J => first | k_asm | apply_assumption); (case hx => exact rfl); (case dp => ktr_room); (case un => ktr_room); (case hF => first | assumption | exact rfl); (case hh => first | rfl | assumption); k_whole); intro h' tk' F' N'; (try dsimp only); (try k_sweep)))
local macro_rules | `(tactic| walk_at "call ref") => `(tactic| (k_here; (show wpAny _ _ (PySem.call (Value.ref 35) [_, Value.str (PySem.Str.ofString "_Persistent__jar") _]) _ _ _); k_dflt (refine' oga_jar ?X ?B ?F ?N ?T ?hk ?J ?hx ?dp ?un ?_; (case X => k_asm); (case B => k_asm); (case F => k_asm); (case N => k_asm); (case T => k_asm); (case hk => first | assumption | exact rfl); (case J => first | k_asm | apply_assumption); (case hx => exact rfl); (case dp => ktr_room); (case un => ktr_room); k_whole); intro h' tk' F' N'; (try dsimp only); (try k_sweep)))
local macro_rules | `(tactic| walk_at "call ref") => `(tactic| (k_here; (show wpAny _ _ (PySem.call (Value.ref 35) [_, Value.str (PySem.Str.ofString "_Persistent__oid") _]) _ _ _); k_dflt (refine' oga_oid ?X ?B ?F ?N ?T ?hk ?J ?hx ?dp ?un ?_; (case X => k_asm); (case B => k_asm); (case F => k_asm); (case N => k_asm); (case T => k_asm); (case hk => first | assumption | exact rfl); (case J => first | k_asm | apply_assumption); (case hx => exact rfl); (case dp => ktr_room); (case un => ktr_room); k_whole); intro h' tk' F' N'; (try dsimp only); (try k_sweep)))
local macro_rules | `(tactic| walk_at "call ref") => `(tactic| (k_here; (show wpAny _ _ (PySem.call (Value.ref 42) [_, Value.str (PySem.Str.ofString "_Persistent__flags") _, _]) _ _ _); k_dflt (refine' osa_flags ?X ?B ?F ?N ?T ?hk ?J ?hx ?dp ?un ?U ?_; (case X => k_asm); (case B => k_asm); (case F => k_asm); (case N => k_asm); (case T => k_asm); (case hk => first | assumption | exact rfl); (case J => first | k_asm | apply_assumption); (case hx => exact rfl); (case dp => ktr_room); (case un => ktr_room); (case U => first | assumption | apply_assumption); k_whole); intro h' tk' F' N'; (try dsimp only); (try k_sweep)))

local macro_rules | `(tactic| walk_at "noteFrame ref") => `(tactic| (k_here; (with_reducible rename NewX _ _ _ _ => nxX); k_dflt (refine' caughtN (T' := "AttributeError") nxX ?F ?N ?K ?XB ?TB ?D ?T0 ?ex ?hv ?hn ?e1 ?e2 ?e3 ?_ ?hk ?hx ?hd ?hE; (case F => k_asm); (case N => k_asm); (case K => k_asm); (case XB => k_asm); (case TB => k_asm); (case D => k_asm); (case T0 => first | assumption | exact KtsTurn.refl); (case ex => k_is); (case hv => exact PyProof.Rows.Boot.«AttributeError»); (case hn => decide); (case e1 => exact sub_AE); (case e2 => exact notTuple_AE); (case e3 => exact sub_AttributeError); (case hk => exact rfl); (case hx => exact rfl); (case hd => decide); (case hE => passes_own); k_whole); clear nxX; intro h' g' oe' T' oT' T1' F' N' xa' ne' B' D' X' P'; (replace N' := news_tl2 N'); clear xa' ne'; (try dsimp only)))
local macro_rules | `(tactic| walk_at "getAttr ref") => `(tactic| (k_here; k_dflt (show wpAny _ _ (getAttr (Value.ref _) (PySem.Str.ofString "_cache") _) _ _ _); k_dflt (refine' get_missing ?X ?I ?g ?f ?k ?c ?s ?a ?_; (case X => k_in); (case I => k_inst); (case g => k_is); (case c => k_is); (case k => k_is); (case a => exact rfl); (case s => decide +kernel); (case f => exact findObj_none (by k_is) (by k_is) (by decide +kernel) (by k_get)); k_whole); intro h' tk' e' nx'))

set_option maxHeartbeats 8000000 in
theorem help_ok {w : World} {loose : List Str} {mean : ExcName → Option Value} {mg mb : Str → Option Value} {dp un : Nat} {gd : Option (List Code)} {cn : Str} {cs : Scope} {a : Addr} {ccd : Value} {cl : List (Str × Addr)} {outer : List Env} {A₀ : Around} {base h₀ g₀ : Heap} {L : Addr} {m : Str → Option Value}
    {news : List (Addr × Obj)} {s : Shared} {Q E : Value → Shared → Prop} {v : V} {x : Addr} {n' : List (Addr × Obj)} {tf : Tok}
    (XB : (Mine.hd.heap_39 w.params).In base) (TB : Top topProg loose mean mg mb base) (B : Below A₀ base outer h₀) (D : KtsDicts (frs outer) h₀) (T0 : KtsTurn (frs outer) g₀ h₀) (F : Fr h₀ L s.heap m) (N : News h₀ L s.heap news) (hk : cs.kind = .function) (J : Jars news v) (hx : v.x = x) (hdp : dp + 35 < recursionLimit) (hun : un + 150 < cLine) (hF : v.F = .int 0 tf) (U : Upd v.dx (dictOf (oneD v.ks (.ref v.y) (.bytes #[109] v.t0) .none v.F (.int 0 v.tz) .none) 6) (dictOf (oneD v.ks (.ref v.y) (.bytes #[109] v.t0) .none .none (.int 0 v.tz) .none) 6) news n')
    (ret : ∀ h₀' h' tk', KtsTurn (frs outer) g₀ h₀' → Fr h₀' L h' m → News h₀' L h' n' → Below A₀ base outer h₀' → KtsDicts (frs outer) h₀' → (Mine.hd.heap_39 w.params).In h₀' → Top topProg loose mean mg mb h₀' → Q .none { s with heap := h', toks := tk' }) :
    wpAny (model PySem.Challenge.rw_am6027_01.row.prog w) (top none dp un gd cn cs L a ccd cl outer) (PySem.call (.ref 261) [.ref x]) Q E s := by
  w_top off
  w_strict (
    revert XB
    k_fill
    intro XB
    subst hx
    have X := XB.keeps B.stays
    have T := TB.keeps B.stays
    have dcf := J.ocf
    have dcj := J.ocj
    have J1 := J.setF U
    refine wpAny_call ?_
    k_dflt ktr_enter
    k_steps
    exact ret _ _ _ (by k_asm) (by k_asm) (by k_asm) (by k_asm) (by k_asm) (XB.keeps (Below.stays (by k_asm))) (TB.keeps (Below.stays (by k_asm))))
local macro_rules | `(tactic| walk_at "call ref") => `(tactic| (k_here; k_dflt (show wpAny _ _ (PySem.call (Value.ref 261) [_]) _ _ _); k_dflt (refine' help_ok ?XB ?TB ?B ?D ?T0 ?F ?N ?hk ?J ?hx ?dp ?un ?hF ?U ?_; (case B => k_asm); (case D => k_asm); (case T0 => first | assumption | exact KtsTurn.refl); (case F => k_asm); (case N => k_asm); (case XB => k_asm); (case TB => k_asm); (case hk => first | assumption | exact rfl); (case J => first | k_asm | apply_assumption); (case hx => exact rfl); (case dp => ktr_room); (case un => ktr_room); (case hF => assumption); (case U => first | assumption | apply_assumption); k_whole); intro h₀' h' tk' T' F' N' B' D' X' T2'; (try dsimp only)))

set_option maxHeartbeats 8000000 in
theorem deact0 {w : World} {loose : List Str} {mean : ExcName → Option Value} {mg mb : Str → Option Value} {dp un : Nat} {gd : Option (List Code)} {cn : Str} {cs : Scope} {a : Addr} {ccd : Value} {cl : List (Str × Addr)} {outer : List Env} {A₀ : Around} {base h₀ g₀ : Heap} {L : Addr} {m : Str → Option Value}
    {news : List (Addr × Obj)} {s : Shared} {Q E : Value → Shared → Prop} {v : V} {x : Addr} {n' : List (Addr × Obj)} {tf : Tok}
    (XB : (Mine.hd.heap_39 w.params).In base) (TB : Top topProg loose mean mg mb base) (B : Below A₀ base outer h₀) (D : KtsDicts (frs outer) h₀) (T0 : KtsTurn (frs outer) g₀ h₀) (F : Fr h₀ L s.heap m) (N : News h₀ L s.heap news) (hk : cs.kind = .function) (J : Jars news v) (hx : v.x = x) (hdp : dp + 40 < recursionLimit) (hun : un + 180 < cLine) (hF : v.F = .int 0 tf) (U : Upd v.dx (dictOf (oneD v.ks (.ref v.y) (.bytes #[109] v.t0) .none v.F (.int 0 v.tz) .none) 6) (dictOf (oneD v.ks (.ref v.y) (.bytes #[109] v.t0) .none .none (.int 0 v.tz) .none) 6) news n')
    (ret : ∀ h₀' h' tk', KtsTurn (frs outer) g₀ h₀' → Fr h₀' L h' m → News h₀' L h' n' → Below A₀ base outer h₀' → KtsDicts (frs outer) h₀' → (Mine.hd.heap_39 w.params).In h₀' → Top topProg loose mean mg mb h₀' → Q .none { s with heap := h', toks := tk' }) :
    wpAny (model PySem.Challenge.rw_am6027_01.row.prog w) (top none dp un gd cn cs L a ccd cl outer) (PySem.call (.ref 246) [.ref x]) Q E s := by
  w_top off
  w_strict (
    revert XB
    k_fill
    intro XB
    subst hx
    have X := XB.keeps B.stays
    have T := TB.keeps B.stays
    have dcf := J.ocf
    have dcj := J.ocj
    have J1 := J.setF U
    refine wpAny_call ?_
    k_dflt ktr_enter
    k_steps
    exact ret _ _ _ (by k_asm) (by k_asm) (by k_asm) (by k_asm) (by k_asm) (XB.keeps (Below.stays (by k_asm))) (TB.keeps (Below.stays (by k_asm))))

set_option maxHeartbeats 8000000 in
theorem deact1 {w : World} {loose : List Str} {mean : ExcName → Option Value} {mg mb : Str → Option Value} {dp un : Nat} {gd : Option (List Code)} {cn : Str} {cs : Scope} {a : Addr} {ccd : Value} {cl : List (Str × Addr)} {outer : List Env} {A₀ : Around} {base h₀ g₀ : Heap} {L : Addr} {m : Str → Option Value}
    {news : List (Addr × Obj)} {s : Shared} {Q E : Value → Shared → Prop} {v : V} {x : Addr} {tf : Tok}
    (XB : (Mine.hd.heap_39 w.params).In base) (TB : Top topProg loose mean mg mb base) (B : Below A₀ base outer h₀) (D : KtsDicts (frs outer) h₀) (T0 : KtsTurn (frs outer) g₀ h₀) (F : Fr h₀ L s.heap m) (N : News h₀ L s.heap news) (hk : cs.kind = .function) (J : Jars news v) (hx : v.x = x) (hdp : dp + 40 < recursionLimit) (hun : un + 180 < cLine) (hF : v.F = .int 1 tf)
    (ret : ∀ h₀' h' tk', KtsTurn (frs outer) g₀ h₀' → Fr h₀' L h' m → News h₀' L h' news → Below A₀ base outer h₀' → KtsDicts (frs outer) h₀' → (Mine.hd.heap_39 w.params).In h₀' → Top topProg loose mean mg mb h₀' → Q .none { s with heap := h', toks := tk' }) :
    wpAny (model PySem.Challenge.rw_am6027_01.row.prog w) (top none dp un gd cn cs L a ccd cl outer) (PySem.call (.ref 246) [.ref x]) Q E s := by
  w_top off
  w_strict (
    revert XB
    k_fill
    intro XB
    subst hx
    have X := XB.keeps B.stays
    have T := TB.keeps B.stays
    have dcf := J.ocf
    have dcj := J.ocj
    refine wpAny_call ?_
    k_dflt ktr_enter
    k_steps
    exact ret _ _ _ (by k_asm) (by k_asm) (by k_asm) (by k_asm) (by k_asm) (XB.keeps (Below.stays (by k_asm))) (TB.keeps (Below.stays (by k_asm))))

set_option maxHeartbeats 8000000 in
theorem deact2 {w : World} {loose : List Str} {mean : ExcName → Option Value} {mg mb : Str → Option Value} {dp un : Nat} {gd : Option (List Code)} {cn : Str} {cs : Scope} {a : Addr} {ccd : Value} {cl : List (Str × Addr)} {outer : List Env} {A₀ : Around} {base h₀ g₀ : Heap} {L : Addr} {m : Str → Option Value}
    {news : List (Addr × Obj)} {s : Shared} {Q E : Value → Shared → Prop} {v : V} {x : Addr} {tf : Tok}
    (XB : (Mine.hd.heap_39 w.params).In base) (TB : Top topProg loose mean mg mb base) (B : Below A₀ base outer h₀) (D : KtsDicts (frs outer) h₀) (T0 : KtsTurn (frs outer) g₀ h₀) (F : Fr h₀ L s.heap m) (N : News h₀ L s.heap news) (hk : cs.kind = .function) (J : Jars news v) (hx : v.x = x) (hdp : dp + 40 < recursionLimit) (hun : un + 180 < cLine) (hF : v.F = .int 2 tf)
    (ret : ∀ h₀' h' tk', KtsTurn (frs outer) g₀ h₀' → Fr h₀' L h' m → News h₀' L h' news → Below A₀ base outer h₀' → KtsDicts (frs outer) h₀' → (Mine.hd.heap_39 w.params).In h₀' → Top topProg loose mean mg mb h₀' → Q .none { s with heap := h', toks := tk' }) :
    wpAny (model PySem.Challenge.rw_am6027_01.row.prog w) (top none dp un gd cn cs L a ccd cl outer) (PySem.call (.ref 246) [.ref x]) Q E s := by
  w_top off
  w_strict (
    revert XB
    k_fill
    intro XB
    subst hx
    have X := XB.keeps B.stays
    have T := TB.keeps B.stays
    have dcf := J.ocf
    have dcj := J.ocj
    refine wpAny_call ?_
    k_dflt ktr_enter
    k_steps
    exact ret _ _ _ (by k_asm) (by k_asm) (by k_asm) (by k_asm) (by k_asm) (XB.keeps (Below.stays (by k_asm))) (TB.keeps (Below.stays (by k_asm))))

set_option maxHeartbeats 8000000 in
theorem deact3 {w : World} {loose : List Str} {mean : ExcName → Option Value} {mg mb : Str → Option Value} {dp un : Nat} {gd : Option (List Code)} {cn : Str} {cs : Scope} {a : Addr} {ccd : Value} {cl : List (Str × Addr)} {outer : List Env} {A₀ : Around} {base h₀ g₀ : Heap} {L : Addr} {m : Str → Option Value}
    {news : List (Addr × Obj)} {s : Shared} {Q E : Value → Shared → Prop} {v : V} {x : Addr} {tf : Tok}
    (XB : (Mine.hd.heap_39 w.params).In base) (TB : Top topProg loose mean mg mb base) (B : Below A₀ base outer h₀) (D : KtsDicts (frs outer) h₀) (T0 : KtsTurn (frs outer) g₀ h₀) (F : Fr h₀ L s.heap m) (N : News h₀ L s.heap news) (hk : cs.kind = .function) (J : Jars news v) (hx : v.x = x) (hdp : dp + 40 < recursionLimit) (hun : un + 180 < cLine) (hF : v.F = .int 3 tf)
    (ret : ∀ h₀' h' tk', KtsTurn (frs outer) g₀ h₀' → Fr h₀' L h' m → News h₀' L h' news → Below A₀ base outer h₀' → KtsDicts (frs outer) h₀' → (Mine.hd.heap_39 w.params).In h₀' → Top topProg loose mean mg mb h₀' → Q .none { s with heap := h', toks := tk' }) :
    wpAny (model PySem.Challenge.rw_am6027_01.row.prog w) (top none dp un gd cn cs L a ccd cl outer) (PySem.call (.ref 246) [.ref x]) Q E s := by
  w_top off
  w_strict (
    revert XB
    k_fill
    intro XB
    subst hx
    have X := XB.keeps B.stays
    have T := TB.keeps B.stays
    have dcf := J.ocf
    have dcj := J.ocj
    refine wpAny_call ?_
    k_dflt ktr_enter
    k_steps
    exact ret _ _ _ (by k_asm) (by k_asm) (by k_asm) (by k_asm) (by k_asm) (XB.keeps (Below.stays (by k_asm))) (TB.keeps (Below.stays (by k_asm))))

set_option maxHeartbeats 8000000 in
theorem deactN {w : World} {loose : List Str} {mean : ExcName → Option Value} {mg mb : Str → Option Value} {dp un : Nat} {gd : Option (List Code)} {cn : Str} {cs : Scope} {a : Addr} {ccd : Value} {cl : List (Str × Addr)} {outer : List Env} {A₀ : Around} {base h₀ g₀ : Heap} {L : Addr} {m : Str → Option Value}
    {news : List (Addr × Obj)} {s : Shared} {Q E : Value → Shared → Prop} {v : V} {x : Addr}
    (XB : (Mine.hd.heap_39 w.params).In base) (TB : Top topProg loose mean mg mb base) (B : Below A₀ base outer h₀) (D : KtsDicts (frs outer) h₀) (T0 : KtsTurn (frs outer) g₀ h₀) (F : Fr h₀ L s.heap m) (N : News h₀ L s.heap news) (hk : cs.kind = .function) (J : Jars news v) (hx : v.x = x) (hdp : dp + 40 < recursionLimit) (hun : un + 180 < cLine) (hF : v.F = .none)
    (ret : ∀ h₀' h' tk', KtsTurn (frs outer) g₀ h₀' → Fr h₀' L h' m → News h₀' L h' news → Below A₀ base outer h₀' → KtsDicts (frs outer) h₀' → (Mine.hd.heap_39 w.params).In h₀' → Top topProg loose mean mg mb h₀' → Q .none { s with heap := h', toks := tk' }) :
    wpAny (model PySem.Challenge.rw_am6027_01.row.prog w) (top none dp un gd cn cs L a ccd cl outer) (PySem.call (.ref 246) [.ref x]) Q E s := by
  w_top off
  w_strict (
    revert XB
    k_fill
    intro XB
    subst hx
    have X := XB.keeps B.stays
    have T := TB.keeps B.stays
    have dcf := J.ocf
    have dcj := J.ocj
    refine wpAny_call ?_
    k_dflt ktr_enter
    k_steps
    exact ret _ _ _ (by k_asm) (by k_asm) (by k_asm) (by k_asm) (by k_asm) (XB.keeps (Below.stays (by k_asm))) (TB.keeps (Below.stays (by k_asm))))
local macro_rules | `(tactic| walk_at "call ref") => `(tactic| (k_here; k_dflt (show wpAny _ _ (PySem.call (Value.ref 246) [_]) _ _ _); k_dflt (refine' deact0 ?XB ?TB ?B ?D ?T0 ?F ?N ?hk ?J ?hx ?dp ?un ?hF ?U ?_; (case B => k_asm); (case D => k_asm); (case T0 => first | assumption | exact KtsTurn.refl); (case F => k_asm); (case N => k_asm); (case XB => k_asm); (case TB => k_asm); (case hk => first | assumption | exact rfl); (case J => first | k_asm | apply_assumption); (case hx => exact rfl); (case dp => ktr_room); (case un => ktr_room); (case hF => first | assumption | exact rfl); (case U => first | assumption | apply_assumption); k_whole); intro h₀' h' tk' T' F' N' B' D' X' T2'; (try dsimp only)))

set_option maxHeartbeats 8000000 in
theorem inval {w : World} {loose : List Str} {mean : ExcName → Option Value} {mg mb : Str → Option Value} {dp un : Nat} {gd : Option (List Code)} {cn : Str} {cs : Scope} {a : Addr} {ccd : Value} {cl : List (Str × Addr)} {outer : List Env} {A₀ : Around} {base h₀ g₀ : Heap} {L : Addr} {m : Str → Option Value}
    {news : List (Addr × Obj)} {s : Shared} {Q E : Value → Shared → Prop} {v : V} {x : Addr} {n₁ n' : Tok → List (Addr × Obj)}
    (XB : (Mine.hd.heap_39 w.params).In base) (TB : Top topProg loose mean mg mb base) (B : Below A₀ base outer h₀) (D : KtsDicts (frs outer) h₀) (T0 : KtsTurn (frs outer) g₀ h₀) (F : Fr h₀ L s.heap m) (N : News h₀ L s.heap news) (hk : cs.kind = .function) (J : Jars news v) (hx : v.x = x) (hdp : dp + 45 < recursionLimit) (hun : un + 200 < cLine) (U1 : ∀ t, Upd v.dx (dictOf (oneD v.ks (.ref v.y) (.bytes #[109] v.t0) .none v.F (.int 0 v.tz) .none) 6) (dictOf (oneD v.ks (.ref v.y) (.bytes #[109] v.t0) .none (.int 0 t) (.int 0 v.tz) .none) 6) news (n₁ t)) (U2 : ∀ t, Upd v.dx (dictOf (oneD v.ks (.ref v.y) (.bytes #[109] v.t0) .none (.int 0 t) (.int 0 v.tz) .none) 6) (dictOf (oneD v.ks (.ref v.y) (.bytes #[109] v.t0) .none .none (.int 0 v.tz) .none) 6) (n₁ t) (n' t))
    (ret : ∀ h₀' h' tk' t, KtsTurn (frs outer) g₀ h₀' → Fr h₀' L h' m → News h₀' L h' (n' t) → Below A₀ base outer h₀' → KtsDicts (frs outer) h₀' → (Mine.hd.heap_39 w.params).In h₀' → Top topProg loose mean mg mb h₀' → Q .none { s with heap := h', toks := tk' }) :
    wpAny (model PySem.Challenge.rw_am6027_01.row.prog w) (top none dp un gd cn cs L a ccd cl outer) (PySem.call (.ref 253) [.ref x]) Q E s := by
  w_top off
  w_strict (
    revert XB
    k_fill
    intro XB
    subst hx
    have X := XB.keeps B.stays
    have T := TB.keeps B.stays
    have dcf := J.ocf
    have dcj := J.ocj
    have J1 := fun t => J.setF (U1 t)
    have J2 := fun t => (J1 t).setF (U2 t)
    refine wpAny_call ?_
    k_dflt ktr_enter
    k_steps
    exact ret _ _ _ _ (by k_asm) (by k_asm) (by k_asm) (by k_asm) (by k_asm) (XB.keeps (Below.stays (by k_asm))) (TB.keeps (Below.stays (by k_asm))))
end Mine
end
section
open PySem PySem.W PyProof.Rows PySem.Calls
set_option Elab.async false
set_option maxRecDepth 100000
namespace Mine

theorem jars_two {p q : Addr × Obj} {l : List (Addr × Obj)} {v : V} (J : Jars l v) : Jars (p :: q :: l) v := J.mono fun r hr => .tail _ (.tail _ hr)
theorem upd_two {d e T : Addr} {o o' oe oT : Obj} {l l' : List (Addr × Obj)} (U : Upd d o o' l l') (h : ∀ q ∈ l, q.1 ≠ e ∧ q.1 ≠ T) : Upd d o o' ((e, oe) :: (T, oT) :: l) ((e, oe) :: (T, oT) :: l') :=
  have z := h _ (upd_old U)
  .tail (Ne.symm z.1) (.tail (Ne.symm z.2) U)
theorem ne_upd {d e T : Addr} {o o' : Obj} {l l' : List (Addr × Obj)} (U : Upd d o o' l l') (h : ∀ q ∈ l, q.1 ≠ e ∧ q.1 ≠ T) : ∀ q ∈ l', q.1 ≠ e ∧ q.1 ≠ T :=
  keys_all (P := fun a => a ≠ e ∧ a ≠ T) (upd_keys U) h
theorem sub_Arith : isSubtype (.type "ArithmeticError") (.type "BaseException") = pure true := by rw [isSubtype_type]; kernel_rfl
theorem sub_Base : isSubtype (.type "BaseException") (.type "BaseException") = pure true := by rw [isSubtype_type]; kernel_rfl
theorem notTuple_Base : isSubtype (.type ((Manifest.find? "BaseException").elim "type" fun x => x.metatype)) (.type "tuple") = pure false := by
  rw [show ((Manifest.find? "BaseException").elim "type" fun x => x.metatype) = "type" from by kernel_rfl, isSubtype_type]; kernel_rfl

local macro_rules | `(tactic| k_room) => `(tactic| ((try simp only [depth_mark, depth_under_make, depth_under_kw, depth_in1, depth_deeper, depth_caller]); (try dsimp only [top]); omega))
local macro_rules | `(tactic| k_units) => `(tactic| ((try simp only [units_in1, units_deeper, Around.mark_units, units_caller]); (try dsimp only [top]); (have hcL9 := cLine_is); omega))
local macro_rules | `(tactic| k_handed) => `(tactic| assumption)
local macro_rules | `(tactic| k_upd) => `(tactic| assumption)
local macro_rules | `(tactic| k_mem) => `(tactic| first | (refine' Jars.x' ?J ?h; (case J => first | assumption | apply_assumption); (case h => exact rfl)) | (refine' Jars.dx' ?J ?h; (case J => first | assumption | apply_assumption); (case h => exact rfl)) | (refine' Jars.y' ?J ?h; (case J => first | assumption | apply_assumption); (case h => exact rfl)) | (refine' Jars.dy' ?J ?h; (case J => first | assumption | apply_assumption); (case h => exact rfl)) | (refine' Jars.ll' ?J ?h; (case J => first | assumption | apply_assumption); (case h => exact rfl)) | (refine' Jars.lc' ?J ?h; (case J => first | assumption | apply_assumption); (case h => exact rfl)) | (refine' Jars.fs' ?J ?h; (case J => first | assumption | apply_assumption); (case h => exact rfl)) | (refine' Jars.fr' ?J ?h; (case J => first | assumption | apply_assumption); (case h => exact rfl)) | (refine' Jars.cf' ?J ?h; (case J => first | assumption | apply_assumption); (case h => exact rfl)) | (refine' Jars.cj' ?J ?h; (case J => first | assumption | apply_assumption); (case h => exact rfl)) | (refine' Jars.fl' ?J ?h; (case J => first | assumption | apply_assumption); (case h => exact rfl)) | (refine' Jars.cs' ?J ?h; (case J => first | assumption | apply_assumption); (case h => exact rfl)) | (refine' Jars.cr' ?J ?h; (case J => first | assumption | apply_assumption); (case h => exact rfl)))
local macro_rules | `(tactic| size_fits) => `(tactic| (simp only [List.size_toArray, PySem.sizeLine_eq]; omega))

local macro_rules | `(tactic| walk_at "eval Name") => `(tactic| (k_here; k_dflt (refine' nameX_F ?N ?c ?m ?d ?_ ?a ?b; (case a => rfl); (case b => rfl); (case N => k_asm); (case c => rfl); (case m => k_mem); (case d => k_asm); k_whole)))
local macro_rules | `(tactic| ktr_room) => `(tactic| ((try simp only [depth_mark, depth_under_make, depth_under_kw, depth_in1, depth_deeper, depth_caller, units_in1, units_deeper, Around.mark_units, units_caller]); (try dsimp only [top]); first | omega | (have hcL9 := cLine_is; omega) | decide))
local macro_rules | `(tactic| ktr_enter) => `(tactic| (refine' enterT ?B ?D ?T0 ?F ?N ?XB ?TB ?kA ?kF ?kK ?ho ?hcd ?hroom ?hbind ?hloc ?_ ?c1 ?c2 ?c3 ?c4; (case kA => exact rfl); (case kF => exact rfl); (case kK => first | assumption | exact rfl); (case B => k_asm); (case D => k_asm); (case T0 => first | assumption | exact KtsTurn.refl); (case F => k_asm); (case N => k_asm); (case XB => k_asm); (case TB => k_asm); (case ho => k_is); (case hcd => k_is); (case hroom => k_room); (case hbind => first | exact BindsTo.of_eq rfl | exact binds_K (by k_in) rfl (by k_is) rfl rfl rfl); (case hloc => exact locs rfl); (case c1 => exact rfl); (case c2 => exact rfl); (case c3 => exact rfl); (case c4 => decide); k_whole; intro g' L' h' FG' F' N' B' D' X' T'; (try dsimp only); (try k_fold)))
local macro_rules | `(tactic| kla_enter) => `(tactic| (refine' enterTL ?B ?D ?T0 ?F ?N ?XB ?TB ?kA ?kF ?kK ?ho ?hcd ?hroom ?hbind ?hloc ?_ ?c1 ?c2 ?c3 ?c4; (case kA => exact rfl); (case kF => exact rfl); (case kK => first | assumption | exact rfl); (case B => k_asm); (case D => k_asm); (case T0 => first | assumption | exact KtsTurn.refl); (case F => k_asm); (case N => k_asm); (case XB => k_asm); (case TB => k_asm); (case ho => k_mem); (case hcd => first | exact jars_codeS (by k_asm) (by k_asm) | exact jars_codeR (by k_asm) (by k_asm)); (case hroom => k_room); (case hbind => exact rfl); (case hloc => exact locs rfl); (case c1 => exact rfl); (case c2 => exact rfl); (case c3 => exact rfl); (case c4 => decide); k_whole; intro g' L' h' FG' F' N' B' D' X' T'; (try dsimp only); (try k_fold)))
local macro_rules | `(tactic| walk_at "LeaveT") => `(tactic| (k_dflt (refine' leaveT_ ?F ?N ?T ?_; (case F => k_asm); (case N => k_asm); (case T => first | assumption | exact KtsTurn.refl); k_whole); intro h₀' T' F' N' B' D'; (try dsimp only)))
local macro_rules | `(tactic| walk_at "subscriptTail Name Constant ref int") => `(tactic| ((with_reducible show wpAny _ _ (subscriptTail _ _ (Value.ref _) (Value.int _ _)) _ _ _); k_dflt (refine' item_fl ?N ?m ?a ?b ?x ?_; (case N => k_asm); (case m => k_mem); (case a => decide); (case b => decide); (case x => rfl); k_whole)))
local macro_rules | `(tactic| walk_at "callWith ref") => `(tactic| (k_here; (show wpAny _ _ (callWith _ (Value.ref (V.fr _)) _ _ _) _ _ _); k_dflt (first
  | (refine' callWith_F ?k1 ?_; (case k1 => exact FnAt.of (by k_asm) (by k_mem)); k_whole)
  | (refine' callWith_F0 ?k1 ?_; (case k1 => exact FnAt.of (by k_asm) (by k_mem)); k_whole; try dsimp only [List.nil_append, List.cons_append]))))
local macro_rules | `(tactic| walk_at "callWith ref") => `(tactic| (k_here; (show wpAny _ _ (callWith _ (Value.ref (V.fs _)) _ _ _) _ _ _); k_dflt (first
  | (refine' callWith_F ?k1 ?_; (case k1 => exact FnAt.of (by k_asm) (by k_mem)); k_whole)
  | (refine' callWith_F0 ?k1 ?_; (case k1 => exact FnAt.of (by k_asm) (by k_mem)); k_whole; try dsimp only [List.nil_append, List.cons_append]))))
local macro_rules | `(tactic| walk_at "getMethod ref") => `(tactic| (k_here; k_dflt (refine' method_shadow ?k1 ?k2 ?k3 ?k4 ?k5 ?k6 ?k7 ?k8 ?k9 ?k10 ?k11 ?_; (case k1 => k_asm); (case k2 => k_asm); (case k3 => k_inst); (case k4 => k_is); (case k5 => k_is); (case k6 => k_is); (case k7 => k_is); (case k8 => k_is); (case k9 => k_is); (case k10 => k_get); (case k11 => first | rfl | k_handed); k_whole)))
local macro_rules | `(tactic| walk_at "leaving ref") => `(tactic| (k_here; first
  | (with_reducible rename RaisedSN _ _ _ _ _ _ _ => rsX; k_dflt (refine' passX ?f ?K ?F ?R ?U ?_; (case R => exact rsX); (case f => exact rfl); (case K => k_asm); (case F => k_asm); (case U => k_asm); k_whole); clear rsX; intro h' R' U'; (try dsimp only at R' U' ⊢))
  | (k_dflt (refine' leave_raiseS ?k1 ?k0 ?k2 ?k3 ?_; (case k0 => first | assumption | exact Heap.MadeExc.of (by assumption)); (case k2 => assumption); (case k1 => assumption); (case k3 => k_asm); k_whole); intro h' t' S' R' U'; (try dsimp only at S' R' U' ⊢); (replace S' := toSN S'); clear R')))
local macro_rules | `(tactic| walk_at "call ref") => `(tactic| (k_here; (show wpAny _ _ (PySem.call (Value.ref 35) [_, Value.str (PySem.Str.ofString "_Persistent__flags") _]) _ _ _); k_dflt (refine' oga_flags ?X ?B ?F ?N ?T ?hk ?J ?hx ?dp ?un ?hF ?hh ?_; (case X => k_asm); (case B => k_asm); (case F => k_asm); (case N => k_asm); (case T => k_asm); (case hk => first | assumption | exact rfl); (case J => first | k_asm | apply_assumption); (case hx => exact rfl); (case dp => ktr_room); (case un => ktr_room); (case hF => first | assumption | exact rfl); (case hh => first | rfl | assumption); k_whole); intro h' tk' F' N'; (try dsimp only); (try k_sweep)))
local macro_rules | `(tactic| walk_at "call ref") => `(tactic| (k_here; (show wpAny _ _ (PySem.call (Value.ref 35) [_, Value.str (PySem.Str.ofString "_Persistent__jar") _]) _ _ _); k_dflt (refine' oga_jar ?X ?B ?F ?N ?T ?hk ?J ?hx ?dp ?un ?_; (case X => k_asm); (case B => k_asm); (case F => k_asm); (case N => k_asm); (case T => k_asm); (case hk => first | assumption | exact rfl); (case J => first | k_asm | apply_assumption); (case hx => exact rfl); (case dp => ktr_room); (case un => ktr_room); k_whole); intro h' tk' F' N'; (try dsimp only); (try k_sweep)))
local macro_rules | `(tactic| walk_at "call ref") => `(tactic| (k_here; (show wpAny _ _ (PySem.call (Value.ref 35) [_, Value.str (PySem.Str.ofString "_Persistent__oid") _]) _ _ _); k_dflt (refine' oga_oid ?X ?B ?F ?N ?T ?hk ?J ?hx ?dp ?un ?_; (case X => k_asm); (case B => k_asm); (case F => k_asm); (case N => k_asm); (case T => k_asm); (case hk => first | assumption | exact rfl); (case J => first | k_asm | apply_assumption); (case hx => exact rfl); (case dp => ktr_room); (case un => ktr_room); k_whole); intro h' tk' F' N'; (try dsimp only); (try k_sweep)))
local macro_rules | `(tactic| walk_at "call ref") => `(tactic| (k_here; (show wpAny _ _ (PySem.call (Value.ref 42) [_, Value.str (PySem.Str.ofString "_Persistent__flags") _, _]) _ _ _); k_dflt (refine' osa_flags ?X ?B ?F ?N ?T ?hk ?J ?hx ?dp ?un ?U ?_; (case X => k_asm); (case B => k_asm); (case F => k_asm); (case N => k_asm); (case T => k_asm); (case hk => first | assumption | exact rfl); (case J => first | k_asm | apply_assumption); (case hx => exact rfl); (case dp => ktr_room); (case un => ktr_room); (case U => first | assumption | apply_assumption); k_whole); intro h' tk' F' N'; (try dsimp only); (try k_sweep)))
local macro_rules | `(tactic| walk_at "call ref") => `(tactic| (k_here; k_dflt (show wpAny _ _ (PySem.call (Value.ref (V.fs _)) [_]) _ _ _); k_dflt (refine' load_ok ?XB ?TB ?B ?D ?T0 ?F ?N ?hk ?J ?hx ?dp ?un ?hfn ?hf ?hz ?U ?_; (case B => k_asm); (case D => k_asm); (case T0 => first | assumption | exact KtsTurn.refl); (case F => k_asm); (case N => k_asm); (case XB => k_asm); (case TB => k_asm); (case hk => first | assumption | exact rfl); (case J => first | k_asm | apply_assumption); (case hx => exact rfl); (case dp => ktr_room); (case un => ktr_room); (case hfn => exact rfl); (case hf => assumption); (case hz => assumption); (case U => first | assumption | apply_assumption); k_whole); intro h₀' h' tk' T' F' N' B' D' X' T2'; (try dsimp only)))
local macro_rules | `(tactic| walk_at "call ref") => `(tactic| (k_here; k_dflt (show wpAny _ _ (PySem.call (Value.ref (V.fs _)) [_]) _ _ _); k_dflt (refine' load_no ?XB ?TB ?B ?D ?T0 ?F ?N ?hk ?J ?hx ?dp ?un ?hfn ?hf ?_; (case B => k_asm); (case D => k_asm); (case T0 => first | assumption | exact KtsTurn.refl); (case F => k_asm); (case N => k_asm); (case XB => k_asm); (case TB => k_asm); (case hk => first | assumption | exact rfl); (case J => first | k_asm | apply_assumption); (case hx => exact rfl); (case dp => ktr_room); (case un => ktr_room); (case hfn => exact rfl); (case hf => assumption); k_whole); intro h₀' g' h' tk' e' T' FG' B' D' R' U'; (try dsimp only); (try k_unfold); (try dsimp only)))

set_option maxHeartbeats 8000000 in
theorem act_ok {w : World} {loose : List Str} {mean : ExcName → Option Value} {mg mb : Str → Option Value} {dp un : Nat} {gd : Option (List Code)} {cn : Str} {cs : Scope} {a : Addr} {ccd : Value} {cl : List (Str × Addr)} {outer : List Env} {A₀ : Around} {base h₀ g₀ : Heap} {L : Addr} {m : Str → Option Value}
    {news : List (Addr × Obj)} {s : Shared} {Q E : Value → Shared → Prop} {v : V} {x : Addr} {n₁ n' : Tok → List (Addr × Obj)} {n₂ n₃ : Tok → Tok → List (Addr × Obj)}
    (XB : (Mine.hd.heap_39 w.params).In base) (TB : Top topProg loose mean mg mb base) (B : Below A₀ base outer h₀) (D : KtsDicts (frs outer) h₀) (T0 : KtsTurn (frs outer) g₀ h₀) (F : Fr h₀ L s.heap m) (N : News h₀ L s.heap news) (hk : cs.kind = .function) (J : Jars news v) (hx : v.x = x) (hdp : dp + 45 < recursionLimit) (hun : un + 200 < cLine) (hF : v.F = .none) (hf : v.f0 = false) (hz : v.vl.length ≤ 1000) (U1 : ∀ t, Upd v.dx (dictOf (oneD v.ks (.ref v.y) (.bytes #[109] v.t0) .none .none (.int 0 v.tz) .none) 6) (dictOf (oneD v.ks (.ref v.y) (.bytes #[109] v.t0) .none (.int 0 t) (.int 0 v.tz) .none) 6) news (n₁ t)) (U2 : ∀ t u, Upd v.dx (dictOf (oneD v.ks (.ref v.y) (.bytes #[109] v.t0) .none (.int 0 t) (.int 0 v.tz) .none) 6) (dictOf (oneD v.ks (.ref v.y) (.bytes #[109] v.t0) .none (.int 1 u) (.int 0 v.tz) .none) 6) (n₁ t) (n₂ t u)) (U3 : ∀ t u, Upd v.ll (PySem.W.listOf v.vl.toArray v.nl) (PySem.W.listOf (v.vl.toArray.push (.bytes #[109] v.t0)) (v.nl + 1)) (n₂ t u) (n₃ t u)) (U4 : ∀ t u r, Upd v.dx (dictOf (oneD v.ks (.ref v.y) (.bytes #[109] v.t0) .none (.int 1 u) (.int 0 v.tz) .none) 6) (dictOf (oneD v.ks (.ref v.y) (.bytes #[109] v.t0) .none (.int 0 r) (.int 0 v.tz) .none) 6) (n₃ t u) (n' r))
    (ret : ∀ h₀' h' tk' t, KtsTurn (frs outer) g₀ h₀' → Fr h₀' L h' m → News h₀' L h' (n' t) → Below A₀ base outer h₀' → KtsDicts (frs outer) h₀' → (Mine.hd.heap_39 w.params).In h₀' → Top topProg loose mean mg mb h₀' → Q .none { s with heap := h', toks := tk' }) :
    wpAny (model PySem.Challenge.rw_am6027_01.row.prog w) (top none dp un gd cn cs L a ccd cl outer) (PySem.call (.ref 239) [.ref x]) Q E s := by
  w_top off
  w_strict (
    revert XB
    k_fill
    intro XB
    subst hx
    have X := XB.keeps B.stays
    have T := TB.keeps B.stays
    have dcf := J.ocf
    have dcj := J.ocj
    have J0 : Jars news { v with F := .none } := by rw [← hF]; exact J
    have J1 := fun t => J0.setF (U1 t)
    have J2 := fun t u => (J1 t).setF (U2 t u)
    have J3 := fun t u => (J2 t u).pushL (U3 t u)
    have J4 := fun t u r => (J3 t u).setF (U4 t u r)
    refine wpAny_call ?_
    k_dflt ktr_enter
    k_steps
    exact ret _ _ _ _ (by k_asm) (by k_asm) (by k_asm) (by k_asm) (by k_asm) (XB.keeps (Below.stays (by k_asm))) (TB.keeps (Below.stays (by k_asm))))

local macro_rules | `(tactic| walk_at "noteFrame ref") => `(tactic| (k_here; (with_reducible rename RaisedSN _ _ _ _ _ _ _ => rsX); k_dflt (refine' caughtT (T' := "BaseException") rsX ?F ?K ?U ?XB ?TB ?D ?T0 ?ex ?hv ?hn ?e1 ?e2 ?e3 ?_ ?hk ?hx ?hd ?hE; (case F => k_asm); (case U => k_asm); (case K => k_asm); (case XB => k_asm); (case TB => k_asm); (case D => k_asm); (case T0 => first | assumption | exact KtsTurn.refl); (case ex => k_is); (case hv => exact PyProof.Rows.Boot.«BaseException»); (case hn => decide); (case e1 => exact sub_Base); (case e2 => exact notTuple_Base); (case e3 => exact sub_Arith); (case hk => exact rfl); (case hx => exact rfl); (case hd => decide); (case hE => passes_own); k_whole); clear rsX; intro h' g' oe' T' oT' T1' F' N' xa' ne' B' D' X' P'; (try dsimp only)))
local macro_rules | `(tactic| walk_at "call ref") => `(tactic| (k_here; (with_reducible rename ExcAt _ _ _ _ _ => xaX); (show wpAny _ _ (PySem.call (Value.ref 42) [_, Value.str (PySem.Str.ofString "_Persistent__flags") _, _]) _ _ _); k_dflt (refine' osa_flags ?X ?B ?F ?N ?T ?hk ?J ?hx ?dp ?un ?U ?_; (case X => k_asm); (case B => k_asm); (case F => k_asm); (case N => k_asm); (case T => k_asm); (case hk => first | assumption | exact rfl); (case J => exact jars_two (by apply_assumption)); (case hx => exact rfl); (case dp => ktr_room); (case un => ktr_room); (case U => exact upd_two (by apply_assumption) (by assumption)); k_whole); intro h' tk' F' N'; (try dsimp only); (try k_sweep)))
local macro_rules | `(tactic| walk_at "exec Raise none none") => `(tactic| (k_here; (with_reducible rename ExcAt _ _ _ _ _ => xaX); k_dflt (refine' bareT ?F ?N ?he ?hT ?hn xaX ?hne ?K ?hf ?hke ?hh ?_; (case F => k_asm); (case N => k_asm); (case he => exact .head _); (case hT => exact .tail _ (.head _)); (case hn => exact fun _ hq => .tail _ (.tail _ hq)); (case K => k_asm); (case hf => exact rfl); (case hke => exact rfl); (case hh => exact rfl); (case hne => (refine' ne_upd ?U ?h; (case h => assumption); (case U => apply_assumption))); k_whole); intro G' h' F' R' U'; (try dsimp only)))
local macro_rules | `(tactic| walk_at "leaving ref") => `(tactic| (k_here; (with_reducible rename RaisedHN _ _ _ _ _ _ _ _ => rhX); k_dflt (refine' leave_heldSN rhX ?F ?U ?_; (case F => k_asm); (case U => k_asm); k_whole); clear rhX; intro h' S' R' U'; clear R'; (try dsimp only at S' U' ⊢)))

set_option maxHeartbeats 8000000 in
theorem act_no {w : World} {loose : List Str} {mean : ExcName → Option Value} {mg mb : Str → Option Value} {dp un : Nat} {gd : Option (List Code)} {cn : Str} {cs : Scope} {a : Addr} {ccd : Value} {cl : List (Str × Addr)} {outer : List Env} {A₀ : Around} {base h₀ g₀ : Heap} {L : Addr} {m : Str → Option Value}
    {news : List (Addr × Obj)} {s : Shared} {Q E : Value → Shared → Prop} {v : V} {x : Addr} {n₁ : Tok → List (Addr × Obj)} {n₂ : Tok → Tok → List (Addr × Obj)} {n' : List (Addr × Obj)}
    (XB : (Mine.hd.heap_39 w.params).In base) (TB : Top topProg loose mean mg mb base) (B : Below A₀ base outer h₀) (D : KtsDicts (frs outer) h₀) (T0 : KtsTurn (frs outer) g₀ h₀) (F : Fr h₀ L s.heap m) (N : News h₀ L s.heap news) (hk : cs.kind = .function) (J : Jars news v) (hx : v.x = x) (hdp : dp + 45 < recursionLimit) (hun : un + 200 < cLine) (hF : v.F = .none) (hf : v.f0 = true) (U1 : ∀ t, Upd v.dx (dictOf (oneD v.ks (.ref v.y) (.bytes #[109] v.t0) .none .none (.int 0 v.tz) .none) 6) (dictOf (oneD v.ks (.ref v.y) (.bytes #[109] v.t0) .none (.int 0 t) (.int 0 v.tz) .none) 6) news (n₁ t)) (U2 : ∀ t u, Upd v.dx (dictOf (oneD v.ks (.ref v.y) (.bytes #[109] v.t0) .none (.int 0 t) (.int 0 v.tz) .none) 6) (dictOf (oneD v.ks (.ref v.y) (.bytes #[109] v.t0) .none (.int 1 u) (.int 0 v.tz) .none) 6) (n₁ t) (n₂ t u)) (U3 : ∀ t u, Upd v.dx (dictOf (oneD v.ks (.ref v.y) (.bytes #[109] v.t0) .none (.int 1 u) (.int 0 v.tz) .none) 6) (dictOf (oneD v.ks (.ref v.y) (.bytes #[109] v.t0) .none .none (.int 0 v.tz) .none) 6) (n₂ t u) n')
    (exc : ∀ h₀' g₁ h' tk' e, KtsTurn (frs outer) g₀ h₀' → Fr h₀' L g₁ m → Below A₀ base outer h₀' → KtsDicts (frs outer) h₀' → RaisedSN base g₁ (envX cn cs L a ccd cl :: outer) e (.type "ArithmeticError") n' h' → g₁.UpToSlots h' → E (.ref e) { s with heap := h', toks := tk' }) :
    wpAny (model PySem.Challenge.rw_am6027_01.row.prog w) (top none dp un gd cn cs L a ccd cl outer) (PySem.call (.ref 239) [.ref x]) Q E s := by
  w_top off
  w_strict (
    revert XB
    k_fill
    intro XB
    subst hx
    have X := XB.keeps B.stays
    have T := TB.keeps B.stays
    have dcf := J.ocf
    have dcj := J.ocj
    have J0 : Jars news { v with F := .none } := by rw [← hF]; exact J
    have J1 := fun t => J0.setF (U1 t)
    have J2 := fun t u => (J1 t).setF (U2 t u)
    refine wpAny_call ?_
    k_dflt ktr_enter
    k_steps
    (with_reducible rename RaisedSN _ _ _ _ _ _ _ => rsX; with_reducible rename Heap.UpToSlots _ _ => rsU; exact exc_of rfl (by k_asm) B D T0 (by first | assumption | exact KtsTurn.refl) rsX rsU (fun _ _ a b c d e f => exc _ _ _ _ _ a b c d e f)))
end Mine
end
section
open PySem PySem.W PyProof.Rows PySem.Calls
set_option Elab.async false
set_option maxRecDepth 100000
namespace Mine

local macro_rules | `(tactic| k_room) => `(tactic| ((try simp only [depth_mark, depth_under_make, depth_under_kw, depth_in1, depth_deeper, depth_caller]); (try dsimp only [top]); omega))
local macro_rules | `(tactic| k_units) => `(tactic| ((try simp only [units_in1, units_deeper, Around.mark_units, units_caller]); (try dsimp only [top]); (have hcL9 := cLine_is); omega))
local macro_rules | `(tactic| k_handed) => `(tactic| assumption)
local macro_rules | `(tactic| k_upd) => `(tactic| assumption)
local macro_rules | `(tactic| k_mem) => `(tactic| first | (refine' Jars.x' ?J ?h; (case J => first | assumption | apply_assumption); (case h => exact rfl)) | (refine' Jars.dx' ?J ?h; (case J => first | assumption | apply_assumption); (case h => exact rfl)) | (refine' Jars.y' ?J ?h; (case J => first | assumption | apply_assumption); (case h => exact rfl)) | (refine' Jars.dy' ?J ?h; (case J => first | assumption | apply_assumption); (case h => exact rfl)) | (refine' Jars.ll' ?J ?h; (case J => first | assumption | apply_assumption); (case h => exact rfl)) | (refine' Jars.lc' ?J ?h; (case J => first | assumption | apply_assumption); (case h => exact rfl)) | (refine' Jars.fs' ?J ?h; (case J => first | assumption | apply_assumption); (case h => exact rfl)) | (refine' Jars.fr' ?J ?h; (case J => first | assumption | apply_assumption); (case h => exact rfl)) | (refine' Jars.cf' ?J ?h; (case J => first | assumption | apply_assumption); (case h => exact rfl)) | (refine' Jars.cj' ?J ?h; (case J => first | assumption | apply_assumption); (case h => exact rfl)) | (refine' Jars.fl' ?J ?h; (case J => first | assumption | apply_assumption); (case h => exact rfl)) | (refine' Jars.cs' ?J ?h; (case J => first | assumption | apply_assumption); (case h => exact rfl)) | (refine' Jars.cr' ?J ?h; (case J => first | assumption | apply_assumption); (case h => exact rfl)))
local macro_rules | `(tactic| size_fits) => `(tactic| (simp only [List.size_toArray, PySem.sizeLine_eq]; omega))

local macro_rules | `(tactic| walk_at "eval Name") => `(tactic| (k_here; k_dflt (refine' nameX_F ?N ?c ?m ?d ?_ ?a ?b; (case a => rfl); (case b => rfl); (case N => k_asm); (case c => rfl); (case m => k_mem); (case d => k_asm); k_whole)))
local macro_rules | `(tactic| ktr_room) => `(tactic| ((try simp only [depth_mark, depth_under_make, depth_under_kw, depth_in1, depth_deeper, depth_caller, units_in1, units_deeper, Around.mark_units, units_caller]); (try dsimp only [top]); first | omega | (have hcL9 := cLine_is; omega) | decide))
local macro_rules | `(tactic| ktr_enter) => `(tactic| (refine' enterT ?B ?D ?T0 ?F ?N ?XB ?TB ?kA ?kF ?kK ?ho ?hcd ?hroom ?hbind ?hloc ?_ ?c1 ?c2 ?c3 ?c4; (case kA => exact rfl); (case kF => exact rfl); (case kK => first | assumption | exact rfl); (case B => k_asm); (case D => k_asm); (case T0 => first | assumption | exact KtsTurn.refl); (case F => k_asm); (case N => k_asm); (case XB => k_asm); (case TB => k_asm); (case ho => k_is); (case hcd => k_is); (case hroom => k_room); (case hbind => first | exact BindsTo.of_eq rfl | exact binds_K (by k_in) rfl (by k_is) rfl rfl rfl); (case hloc => exact locs rfl); (case c1 => exact rfl); (case c2 => exact rfl); (case c3 => exact rfl); (case c4 => decide); k_whole; intro g' L' h' FG' F' N' B' D' X' T'; (try dsimp only); (try k_fold)))
local macro_rules | `(tactic| kla_enter) => `(tactic| (refine' enterTL ?B ?D ?T0 ?F ?N ?XB ?TB ?kA ?kF ?kK ?ho ?hcd ?hroom ?hbind ?hloc ?_ ?c1 ?c2 ?c3 ?c4; (case kA => exact rfl); (case kF => exact rfl); (case kK => first | assumption | exact rfl); (case B => k_asm); (case D => k_asm); (case T0 => first | assumption | exact KtsTurn.refl); (case F => k_asm); (case N => k_asm); (case XB => k_asm); (case TB => k_asm); (case ho => k_mem); (case hcd => first | exact jars_codeS (by k_asm) (by k_asm) | exact jars_codeR (by k_asm) (by k_asm)); (case hroom => k_room); (case hbind => exact rfl); (case hloc => exact locs rfl); (case c1 => exact rfl); (case c2 => exact rfl); (case c3 => exact rfl); (case c4 => decide); k_whole; intro g' L' h' FG' F' N' B' D' X' T'; (try dsimp only); (try k_fold)))
local macro_rules | `(tactic| walk_at "LeaveT") => `(tactic| (k_dflt (refine' leaveT_ ?F ?N ?T ?_; (case F => k_asm); (case N => k_asm); (case T => first | assumption | exact KtsTurn.refl); k_whole); intro h₀' T' F' N' B' D'; (try dsimp only)))
local macro_rules | `(tactic| walk_at "subscriptTail Name Constant ref int") => `(tactic| ((with_reducible show wpAny _ _ (subscriptTail _ _ (Value.ref _) (Value.int _ _)) _ _ _); k_dflt (refine' item_fl ?N ?m ?a ?b ?x ?_; (case N => k_asm); (case m => k_mem); (case a => decide); (case b => decide); (case x => rfl); k_whole)))
local macro_rules | `(tactic| walk_at "callWith ref") => `(tactic| (k_here; (show wpAny _ _ (callWith _ (Value.ref (V.fr _)) _ _ _) _ _ _); k_dflt (first
  | (refine' callWith_F ?k1 ?_; (case k1 => exact FnAt.of (by k_asm) (by k_mem)); k_whole)
  | (refine' callWith_F0 ?k1 ?_; (case k1 => exact FnAt.of (by k_asm) (by k_mem)); k_whole; try dsimp only [List.nil_append, List.cons_append]))))
local macro_rules | `(tactic| walk_at "callWith ref") => `(tactic| (k_here; (show wpAny _ _ (callWith _ (Value.ref (V.fs _)) _ _ _) _ _ _); k_dflt (first
  | (refine' callWith_F ?k1 ?_; (case k1 => exact FnAt.of (by k_asm) (by k_mem)); k_whole)
  | (refine' callWith_F0 ?k1 ?_; (case k1 => exact FnAt.of (by k_asm) (by k_mem)); k_whole; try dsimp only [List.nil_append, List.cons_append]))))
local macro_rules | `(tactic| walk_at "getMethod ref") => `(tactic| (k_here; k_dflt (refine' method_shadow ?k1 ?k2 ?k3 ?k4 ?k5 ?k6 ?k7 ?k8 ?k9 ?k10 ?k11 ?_; (case k1 => k_asm); (case k2 => k_asm); (case k3 => k_inst); (case k4 => k_is); (case k5 => k_is); (case k6 => k_is); (case k7 => k_is); (case k8 => k_is); (case k9 => k_is); (case k10 => k_get); (case k11 => first | rfl | k_handed); k_whole)))
local macro_rules | `(tactic| walk_at "leaving ref") => `(tactic| (k_here; first
  | (with_reducible rename RaisedSN _ _ _ _ _ _ _ => rsX; k_dflt (refine' passX ?f ?K ?F ?R ?U ?_; (case R => exact rsX); (case f => exact rfl); (case K => k_asm); (case F => k_asm); (case U => k_asm); k_whole); clear rsX; intro h' R' U'; (try dsimp only at R' U' ⊢); (try k_unfold); (try dsimp only); (try (with_reducible rename RaisedSN _ _ _ _ _ _ _ => rsX; with_reducible rename Heap.UpToSlots _ _ => rsU; (show wpAny _ _ (leaving _ _) _ _ _); k_dflt (refine' exc_of rfl ?FG ?B ?D ?T0 ?T rsX rsU ?_; (case T => assumption); (case FG => k_asm); (case B => k_asm); (case D => k_asm); (case T0 => first | assumption | exact KtsTurn.refl); k_whole); clear rsX rsU; intro h₀' g' T' FG' B' D' R' U'; (try dsimp only))))
  | (k_dflt (refine' leave_raiseS ?k1 ?k0 ?k2 ?k3 ?_; (case k0 => first | assumption | exact Heap.MadeExc.of (by assumption)); (case k2 => assumption); (case k1 => assumption); (case k3 => k_asm); k_whole); intro h' t' S' R' U'; (try dsimp only at S' R' U' ⊢); (replace S' := toSN S'); clear R')))
local macro_rules | `(tactic| walk_at "call ref") => `(tactic| (k_here; (show wpAny _ _ (PySem.call (Value.ref 35) [_, Value.str (PySem.Str.ofString "_Persistent__flags") _]) _ _ _); k_dflt (refine' oga_flags ?X ?B ?F ?N ?T ?hk ?J ?hx ?dp ?un ?hF ?hh ?_; (case X => k_asm); (case B => k_asm); (case F => k_asm); (case N => k_asm); (case T => k_asm); (case hk => first | assumption | exact rfl); (case J => first | k_asm | apply_assumption); (case hx => exact rfl); (case dp => ktr_room); (case un => ktr_room); (case hF => first | assumption | exact rfl); (case hh => first | rfl | assumption); k_whole); intro h' tk' F' N'; (try dsimp only); (try k_sweep)))
local macro_rules | `(tactic| walk_at "call ref") => `(tactic| (k_here; (show wpAny _ _ (PySem.call (Value.ref 35) [_, Value.str (PySem.Str.ofString "_Persistent__jar") _]) _ _ _); k_dflt (refine' oga_jar ?X ?B ?F ?N ?T ?hk ?J ?hx ?dp ?un ?_; (case X => k_asm); (case B => k_asm); (case F => k_asm); (case N => k_asm); (case T => k_asm); (case hk => first | assumption | exact rfl); (case J => first | k_asm | apply_assumption); (case hx => exact rfl); (case dp => ktr_room); (case un => ktr_room); k_whole); intro h' tk' F' N'; (try dsimp only); (try k_sweep)))
local macro_rules | `(tactic| walk_at "call ref") => `(tactic| (k_here; (show wpAny _ _ (PySem.call (Value.ref 35) [_, Value.str (PySem.Str.ofString "_Persistent__oid") _]) _ _ _); k_dflt (refine' oga_oid ?X ?B ?F ?N ?T ?hk ?J ?hx ?dp ?un ?_; (case X => k_asm); (case B => k_asm); (case F => k_asm); (case N => k_asm); (case T => k_asm); (case hk => first | assumption | exact rfl); (case J => first | k_asm | apply_assumption); (case hx => exact rfl); (case dp => ktr_room); (case un => ktr_room); k_whole); intro h' tk' F' N'; (try dsimp only); (try k_sweep)))
local macro_rules | `(tactic| walk_at "call ref") => `(tactic| (k_here; (show wpAny _ _ (PySem.call (Value.ref 42) [_, Value.str (PySem.Str.ofString "_Persistent__flags") _, _]) _ _ _); k_dflt (refine' osa_flags ?X ?B ?F ?N ?T ?hk ?J ?hx ?dp ?un ?U ?_; (case X => k_asm); (case B => k_asm); (case F => k_asm); (case N => k_asm); (case T => k_asm); (case hk => first | assumption | exact rfl); (case J => first | k_asm | apply_assumption); (case hx => exact rfl); (case dp => ktr_room); (case un => ktr_room); (case U => first | assumption | apply_assumption); k_whole); intro h' tk' F' N'; (try dsimp only); (try k_sweep)))

local macro_rules | `(tactic| walk_at "truthy") => `(tactic| (k_dflt (refine' Word.truthy ?W ?N ?_; (case N => k_asm); (case W => k_asm); k_whole); intro tk'))
local macro_rules | `(tactic| walk_at "compareOp Is") => `(tactic| (k_dflt (refine' Word.notNone ?W ?_; (case W => k_asm); k_whole)))

local macro_rules | `(tactic| walk_at "setAttr ref") => `(tactic| (k_here; k_dflt (show wpAny _ _ (setAttr (Value.ref _) (PySem.Str.ofString "_p_changed") _) _ _ _); k_dflt (refine' set_prop ?k1 ?k2 ?k3 ?k4 ?k5 ?k6 ?k7 ?k8 ?_; (case k1 => k_asm); (case k2 => k_asm); (case k3 => k_inst); (case k4 => k_is); (case k5 => k_is); (case k6 => k_is); (case k7 => k_is); (case k8 => k_is); k_whole); ktr_enter))
local macro_rules | `(tactic| walk_at "delAttr ref") => `(tactic| (k_here; k_dflt (refine' del_prop ?k1 ?k2 ?k3 ?k4 ?k5 ?k6 ?k7 ?k8 ?_; (case k1 => k_asm); (case k2 => k_asm); (case k3 => k_inst); (case k4 => k_is); (case k5 => k_is); (case k6 => k_is); (case k7 => k_is); (case k8 => k_is); k_whole); ktr_enter))
local macro_rules | `(tactic| walk_at "exec Delete") => `(tactic| (with_reducible refine Delete_prop ?_))
local macro_rules | `(tactic| walk_at "call ref") => `(tactic| (k_here; k_dflt (show wpAny _ _ (PySem.call (Value.ref 275) [_, _]) _ _ _); k_dflt (refine' flag_on0 ?XB ?TB ?B ?D ?T0 ?F ?N ?hk ?J ?hx ?dp ?un ?W ?hF ?hf ?hz ?U1 ?U ?_; (case B => k_asm); (case D => k_asm); (case T0 => first | assumption | exact KtsTurn.refl); (case F => k_asm); (case N => k_asm); (case XB => k_asm); (case TB => k_asm); (case hk => first | assumption | exact rfl); (case J => first | k_asm | apply_assumption); (case hx => exact rfl); (case dp => ktr_room); (case un => ktr_room); (case W => first | assumption | apply_assumption); (case hF => first | assumption | exact rfl); (case hf => first | assumption | exact rfl); (case hz => assumption); (case U1 => first | assumption | (intro _; apply_assumption) | apply_assumption); (case U => first | assumption | (intro _; apply_assumption) | apply_assumption); k_whole); intro h₀' h' tk' T' F' N' B' D' X' T2'; (try dsimp only)))
local macro_rules | `(tactic| walk_at "call ref") => `(tactic| (k_here; k_dflt (show wpAny _ _ (PySem.call (Value.ref 275) [_, _]) _ _ _); k_dflt (refine' flag_no0 ?XB ?TB ?B ?D ?T0 ?F ?N ?hk ?J ?hx ?dp ?un ?W ?hF ?hf ?_; (case B => k_asm); (case D => k_asm); (case T0 => first | assumption | exact KtsTurn.refl); (case F => k_asm); (case N => k_asm); (case XB => k_asm); (case TB => k_asm); (case hk => first | assumption | exact rfl); (case J => first | k_asm | apply_assumption); (case hx => exact rfl); (case dp => ktr_room); (case un => ktr_room); (case W => first | assumption | apply_assumption); (case hF => first | assumption | exact rfl); (case hf => first | assumption | exact rfl); k_whole); intro h₀' g' h' tk' e' T' FG' B' D' R' U'; (try dsimp only); (try k_unfold); (try dsimp only)))
local macro_rules | `(tactic| walk_at "call ref") => `(tactic| (k_here; k_dflt (show wpAny _ _ (PySem.call (Value.ref 275) [_, _]) _ _ _); k_dflt (refine' flag_off0 ?XB ?TB ?B ?D ?T0 ?F ?N ?hk ?J ?hx ?dp ?un ?W ?hF ?U ?_; (case B => k_asm); (case D => k_asm); (case T0 => first | assumption | exact KtsTurn.refl); (case F => k_asm); (case N => k_asm); (case XB => k_asm); (case TB => k_asm); (case hk => first | assumption | exact rfl); (case J => first | k_asm | apply_assumption); (case hx => exact rfl); (case dp => ktr_room); (case un => ktr_room); (case W => first | assumption | apply_assumption); (case hF => first | assumption | exact rfl); (case U => first | assumption | (intro _; apply_assumption) | apply_assumption); k_whole); intro h₀' h' tk' T' F' N' B' D' X' T2'; (try dsimp only)))
local macro_rules | `(tactic| walk_at "call ref") => `(tactic| (k_here; k_dflt (show wpAny _ _ (PySem.call (Value.ref 275) [_, _]) _ _ _); k_dflt (refine' flag_on1 ?XB ?TB ?B ?D ?T0 ?F ?N ?hk ?J ?hx ?dp ?un ?W ?hF ?U ?_; (case B => k_asm); (case D => k_asm); (case T0 => first | assumption | exact KtsTurn.refl); (case F => k_asm); (case N => k_asm); (case XB => k_asm); (case TB => k_asm); (case hk => first | assumption | exact rfl); (case J => first | k_asm | apply_assumption); (case hx => exact rfl); (case dp => ktr_room); (case un => ktr_room); (case W => first | assumption | apply_assumption); (case hF => first | assumption | exact rfl); (case U => first | assumption | (intro _; apply_assumption) | apply_assumption); k_whole); intro h₀' h' tk' T' F' N' B' D' X' T2'; (try dsimp only)))
local macro_rules | `(tactic| walk_at "call ref") => `(tactic| (k_here; k_dflt (show wpAny _ _ (PySem.call (Value.ref 275) [_, _]) _ _ _); k_dflt (refine' flag_off1 ?XB ?TB ?B ?D ?T0 ?F ?N ?hk ?J ?hx ?dp ?un ?W ?hF ?U ?_; (case B => k_asm); (case D => k_asm); (case T0 => first | assumption | exact KtsTurn.refl); (case F => k_asm); (case N => k_asm); (case XB => k_asm); (case TB => k_asm); (case hk => first | assumption | exact rfl); (case J => first | k_asm | apply_assumption); (case hx => exact rfl); (case dp => ktr_room); (case un => ktr_room); (case W => first | assumption | apply_assumption); (case hF => first | assumption | exact rfl); (case U => first | assumption | (intro _; apply_assumption) | apply_assumption); k_whole); intro h₀' h' tk' T' F' N' B' D' X' T2'; (try dsimp only)))
local macro_rules | `(tactic| walk_at "call ref") => `(tactic| (k_here; k_dflt (show wpAny _ _ (PySem.call (Value.ref 275) [_, _]) _ _ _); k_dflt (refine' flag_on2 ?XB ?TB ?B ?D ?T0 ?F ?N ?hk ?J ?hx ?dp ?un ?W ?hF ?hf ?hz ?U1 ?U ?_; (case B => k_asm); (case D => k_asm); (case T0 => first | assumption | exact KtsTurn.refl); (case F => k_asm); (case N => k_asm); (case XB => k_asm); (case TB => k_asm); (case hk => first | assumption | exact rfl); (case J => first | k_asm | apply_assumption); (case hx => exact rfl); (case dp => ktr_room); (case un => ktr_room); (case W => first | assumption | apply_assumption); (case hF => first | assumption | exact rfl); (case hf => first | assumption | exact rfl); (case hz => assumption); (case U1 => first | assumption | (intro _; apply_assumption) | apply_assumption); (case U => first | assumption | (intro _; apply_assumption) | apply_assumption); k_whole); intro h₀' h' tk' T' F' N' B' D' X' T2'; (try dsimp only)))
local macro_rules | `(tactic| walk_at "call ref") => `(tactic| (k_here; k_dflt (show wpAny _ _ (PySem.call (Value.ref 275) [_, _]) _ _ _); k_dflt (refine' flag_no2 ?XB ?TB ?B ?D ?T0 ?F ?N ?hk ?J ?hx ?dp ?un ?W ?hF ?hf ?_; (case B => k_asm); (case D => k_asm); (case T0 => first | assumption | exact KtsTurn.refl); (case F => k_asm); (case N => k_asm); (case XB => k_asm); (case TB => k_asm); (case hk => first | assumption | exact rfl); (case J => first | k_asm | apply_assumption); (case hx => exact rfl); (case dp => ktr_room); (case un => ktr_room); (case W => first | assumption | apply_assumption); (case hF => first | assumption | exact rfl); (case hf => first | assumption | exact rfl); k_whole); intro h₀' g' h' tk' e' T' FG' B' D' R' U'; (try dsimp only); (try k_unfold); (try dsimp only)))
local macro_rules | `(tactic| walk_at "call ref") => `(tactic| (k_here; k_dflt (show wpAny _ _ (PySem.call (Value.ref 275) [_, _]) _ _ _); k_dflt (refine' flag_off2 ?XB ?TB ?B ?D ?T0 ?F ?N ?hk ?J ?hx ?dp ?un ?W ?hF ?U ?_; (case B => k_asm); (case D => k_asm); (case T0 => first | assumption | exact KtsTurn.refl); (case F => k_asm); (case N => k_asm); (case XB => k_asm); (case TB => k_asm); (case hk => first | assumption | exact rfl); (case J => first | k_asm | apply_assumption); (case hx => exact rfl); (case dp => ktr_room); (case un => ktr_room); (case W => first | assumption | apply_assumption); (case hF => first | assumption | exact rfl); (case U => first | assumption | (intro _; apply_assumption) | apply_assumption); k_whole); intro h₀' h' tk' T' F' N' B' D' X' T2'; (try dsimp only)))
local macro_rules | `(tactic| walk_at "call ref") => `(tactic| (k_here; k_dflt (show wpAny _ _ (PySem.call (Value.ref 275) [_, _]) _ _ _); k_dflt (refine' flag_on3 ?XB ?TB ?B ?D ?T0 ?F ?N ?hk ?J ?hx ?dp ?un ?W ?hF ?U ?_; (case B => k_asm); (case D => k_asm); (case T0 => first | assumption | exact KtsTurn.refl); (case F => k_asm); (case N => k_asm); (case XB => k_asm); (case TB => k_asm); (case hk => first | assumption | exact rfl); (case J => first | k_asm | apply_assumption); (case hx => exact rfl); (case dp => ktr_room); (case un => ktr_room); (case W => first | assumption | apply_assumption); (case hF => first | assumption | exact rfl); (case U => first | assumption | (intro _; apply_assumption) | apply_assumption); k_whole); intro h₀' h' tk' T' F' N' B' D' X' T2'; (try dsimp only)))
local macro_rules | `(tactic| walk_at "call ref") => `(tactic| (k_here; k_dflt (show wpAny _ _ (PySem.call (Value.ref 275) [_, _]) _ _ _); k_dflt (refine' flag_off3 ?XB ?TB ?B ?D ?T0 ?F ?N ?hk ?J ?hx ?dp ?un ?W ?hF ?U ?_; (case B => k_asm); (case D => k_asm); (case T0 => first | assumption | exact KtsTurn.refl); (case F => k_asm); (case N => k_asm); (case XB => k_asm); (case TB => k_asm); (case hk => first | assumption | exact rfl); (case J => first | k_asm | apply_assumption); (case hx => exact rfl); (case dp => ktr_room); (case un => ktr_room); (case W => first | assumption | apply_assumption); (case hF => first | assumption | exact rfl); (case U => first | assumption | (intro _; apply_assumption) | apply_assumption); k_whole); intro h₀' h' tk' T' F' N' B' D' X' T2'; (try dsimp only)))
local macro_rules | `(tactic| walk_at "call ref") => `(tactic| (k_here; k_dflt (show wpAny _ _ (PySem.call (Value.ref 246) [_]) _ _ _); k_dflt (refine' deact1 ?XB ?TB ?B ?D ?T0 ?F ?N ?hk ?J ?hx ?dp ?un ?hF ?_; (case B => k_asm); (case D => k_asm); (case T0 => first | assumption | exact KtsTurn.refl); (case F => k_asm); (case N => k_asm); (case XB => k_asm); (case TB => k_asm); (case hk => first | assumption | exact rfl); (case J => first | k_asm | apply_assumption); (case hx => exact rfl); (case dp => ktr_room); (case un => ktr_room); (case hF => first | assumption | exact rfl); k_whole); intro h₀' h' tk' T' F' N' B' D' X' T2'; (try dsimp only)))
local macro_rules | `(tactic| walk_at "call ref") => `(tactic| (k_here; k_dflt (show wpAny _ _ (PySem.call (Value.ref 246) [_]) _ _ _); k_dflt (refine' deact2 ?XB ?TB ?B ?D ?T0 ?F ?N ?hk ?J ?hx ?dp ?un ?hF ?_; (case B => k_asm); (case D => k_asm); (case T0 => first | assumption | exact KtsTurn.refl); (case F => k_asm); (case N => k_asm); (case XB => k_asm); (case TB => k_asm); (case hk => first | assumption | exact rfl); (case J => first | k_asm | apply_assumption); (case hx => exact rfl); (case dp => ktr_room); (case un => ktr_room); (case hF => first | assumption | exact rfl); k_whole); intro h₀' h' tk' T' F' N' B' D' X' T2'; (try dsimp only)))
local macro_rules | `(tactic| walk_at "call ref") => `(tactic| (k_here; k_dflt (show wpAny _ _ (PySem.call (Value.ref 246) [_]) _ _ _); k_dflt (refine' deact3 ?XB ?TB ?B ?D ?T0 ?F ?N ?hk ?J ?hx ?dp ?un ?hF ?_; (case B => k_asm); (case D => k_asm); (case T0 => first | assumption | exact KtsTurn.refl); (case F => k_asm); (case N => k_asm); (case XB => k_asm); (case TB => k_asm); (case hk => first | assumption | exact rfl); (case J => first | k_asm | apply_assumption); (case hx => exact rfl); (case dp => ktr_room); (case un => ktr_room); (case hF => first | assumption | exact rfl); k_whole); intro h₀' h' tk' T' F' N' B' D' X' T2'; (try dsimp only)))
local macro_rules | `(tactic| walk_at "call ref") => `(tactic| (k_here; k_dflt (show wpAny _ _ (PySem.call (Value.ref 246) [_]) _ _ _); k_dflt (refine' deactN ?XB ?TB ?B ?D ?T0 ?F ?N ?hk ?J ?hx ?dp ?un ?hF ?_; (case B => k_asm); (case D => k_asm); (case T0 => first | assumption | exact KtsTurn.refl); (case F => k_asm); (case N => k_asm); (case XB => k_asm); (case TB => k_asm); (case hk => first | assumption | exact rfl); (case J => first | k_asm | apply_assumption); (case hx => exact rfl); (case dp => ktr_room); (case un => ktr_room); (case hF => first | assumption | exact rfl); k_whole); intro h₀' h' tk' T' F' N' B' D' X' T2'; (try dsimp only)))
local macro_rules | `(tactic| walk_at "call ref") => `(tactic| (k_here; k_dflt (show wpAny _ _ (PySem.call (Value.ref 246) [_]) _ _ _); k_dflt (refine' deact0 ?XB ?TB ?B ?D ?T0 ?F ?N ?hk ?J ?hx ?dp ?un ?hF ?U ?_; (case B => k_asm); (case D => k_asm); (case T0 => first | assumption | exact KtsTurn.refl); (case F => k_asm); (case N => k_asm); (case XB => k_asm); (case TB => k_asm); (case hk => first | assumption | exact rfl); (case J => first | k_asm | apply_assumption); (case hx => exact rfl); (case dp => ktr_room); (case un => ktr_room); (case hF => first | assumption | exact rfl); (case U => first | assumption | (intro _; apply_assumption) | apply_assumption); k_whole); intro h₀' h' tk' T' F' N' B' D' X' T2'; (try dsimp only)))
local macro_rules | `(tactic| walk_at "call ref") => `(tactic| (k_here; k_dflt (show wpAny _ _ (PySem.call (Value.ref 253) [_]) _ _ _); k_dflt (refine' inval ?XB ?TB ?B ?D ?T0 ?F ?N ?hk ?J ?hx ?dp ?un ?U1 ?U2 ?_; (case B => k_asm); (case D => k_asm); (case T0 => first | assumption | exact KtsTurn.refl); (case F => k_asm); (case N => k_asm); (case XB => k_asm); (case TB => k_asm); (case hk => first | assumption | exact rfl); (case J => first | k_asm | apply_assumption); (case hx => exact rfl); (case dp => ktr_room); (case un => ktr_room); (case U1 => first | assumption | (intro _; apply_assumption) | apply_assumption); (case U2 => first | assumption | (intro _; apply_assumption) | apply_assumption); k_whole); intro h₀' h' tk' T' F' N' B' D' X' T2'; (try dsimp only)))
local macro_rules | `(tactic| walk_at "call ref") => `(tactic| (k_here; k_dflt (show wpAny _ _ (PySem.call (Value.ref 239) [_]) _ _ _); k_dflt (refine' act_ok ?XB ?TB ?B ?D ?T0 ?F ?N ?hk ?J ?hx ?dp ?un ?hF ?hf ?hz ?U1 ?U2 ?U3 ?U4 ?_; (case B => k_asm); (case D => k_asm); (case T0 => first | assumption | exact KtsTurn.refl); (case F => k_asm); (case N => k_asm); (case XB => k_asm); (case TB => k_asm); (case hk => first | assumption | exact rfl); (case J => first | k_asm | apply_assumption); (case hx => exact rfl); (case dp => ktr_room); (case un => ktr_room); (case hF => first | assumption | exact rfl); (case hf => first | assumption | exact rfl); (case hz => assumption); (case U1 => first | assumption | (intro _; apply_assumption) | apply_assumption); (case U2 => first | assumption | (intro _ _; apply_assumption) | apply_assumption); (case U3 => first | assumption | (intro _ _; apply_assumption) | apply_assumption); (case U4 => first | assumption | (intro _ _ _; apply_assumption) | apply_assumption); k_whole); intro h₀' h' tk' T' F' N' B' D' X' T2'; (try dsimp only)))
local macro_rules | `(tactic| walk_at "call ref") => `(tactic| (k_here; k_dflt (show wpAny _ _ (PySem.call (Value.ref 239) [_]) _ _ _); k_dflt (refine' act_no ?XB ?TB ?B ?D ?T0 ?F ?N ?hk ?J ?hx ?dp ?un ?hF ?hf ?U1 ?U2 ?U3 ?_; (case B => k_asm); (case D => k_asm); (case T0 => first | assumption | exact KtsTurn.refl); (case F => k_asm); (case N => k_asm); (case XB => k_asm); (case TB => k_asm); (case hk => first | assumption | exact rfl); (case J => first | k_asm | apply_assumption); (case hx => exact rfl); (case dp => ktr_room); (case un => ktr_room); (case hF => first | assumption | exact rfl); (case hf => first | assumption | exact rfl); (case U1 => first | assumption | (intro _; apply_assumption) | apply_assumption); (case U2 => first | assumption | (intro _ _; apply_assumption) | apply_assumption); (case U3 => first | assumption | (intro _ _; apply_assumption) | apply_assumption); k_whole); intro h₀' g' h' tk' e' T' FG' B' D' R' U'; (try dsimp only); (try k_unfold); (try dsimp only)))

set_option maxHeartbeats 8000000 in
theorem set_on0 {w : World} {loose : List Str} {mean : ExcName → Option Value} {mg mb : Str → Option Value} {dp un : Nat} {gd : Option (List Code)} {cn : Str} {cs : Scope} {a : Addr} {ccd : Value} {cl : List (Str × Addr)} {outer : List Env} {A₀ : Around} {base h₀ g₀ : Heap} {L : Addr} {m : Str → Option Value}
    {news : List (Addr × Obj)} {s : Shared} {Q E : Value → Shared → Prop} {v : V} {x : Addr} {n₁ : List (Addr × Obj)} {n' : Tok → List (Addr × Obj)} {u : Value} {tf : Tok}
    (XB : (Mine.hd.heap_39 w.params).In base) (TB : Top topProg loose mean mg mb base) (B : Below A₀ base outer h₀) (D : KtsDicts (frs outer) h₀) (T0 : KtsTurn (frs outer) g₀ h₀) (F : Fr h₀ L s.heap m) (N : News h₀ L s.heap news) (hk : cs.kind = .function) (J : Jars news v) (hx : v.x = x) (hdp : dp + 65 < recursionLimit) (hun : un + 250 < cLine) (W : Word news true u) (hF : v.F = .int 0 tf) (hf : v.f1 = false) (hz : v.vc.length ≤ 1000) (U1 : Upd v.lc (PySem.W.listOf v.vc.toArray v.nc) (PySem.W.listOf (v.vc.toArray.push (.bytes #[109] v.t0)) (v.nc + 1)) news n₁) (U : ∀ t, Upd v.dx (dictOf (oneD v.ks (.ref v.y) (.bytes #[109] v.t0) .none v.F (.int 0 v.tz) .none) 6) (dictOf (oneD v.ks (.ref v.y) (.bytes #[109] v.t0) .none (.int 1 t) (.int 0 v.tz) .none) 6) n₁ (n' t))
    (ret : ∀ h₀' h' tk' t, KtsTurn (frs outer) g₀ h₀' → Fr h₀' L h' m → News h₀' L h' (n' t) → Below A₀ base outer h₀' → KtsDicts (frs outer) h₀' → (Mine.hd.heap_39 w.params).In h₀' → Top topProg loose mean mg mb h₀' → Q .none { s with heap := h', toks := tk' }) :
    wpAny (model PySem.Challenge.rw_am6027_01.row.prog w) (top none dp un gd cn cs L a ccd cl outer) (PySem.call (.ref 325) [.ref x, u]) Q E s := by
  w_top off
  w_strict (
    revert XB
    k_fill
    intro XB
    subst hx
    have X := XB.keeps B.stays
    have T := TB.keeps B.stays
    have dcf := J.ocf
    have dcj := J.ocj
    have J1 := J.pushC U1
    refine wpAny_call ?_
    k_dflt ktr_enter
    k_steps
    exact ret _ _ _ _ (by k_asm) (by k_asm) (by k_asm) (by k_asm) (by k_asm) (XB.keeps (Below.stays (by k_asm))) (TB.keeps (Below.stays (by k_asm))))

set_option maxHeartbeats 8000000 in
theorem set_no0 {w : World} {loose : List Str} {mean : ExcName → Option Value} {mg mb : Str → Option Value} {dp un : Nat} {gd : Option (List Code)} {cn : Str} {cs : Scope} {a : Addr} {ccd : Value} {cl : List (Str × Addr)} {outer : List Env} {A₀ : Around} {base h₀ g₀ : Heap} {L : Addr} {m : Str → Option Value}
    {news : List (Addr × Obj)} {s : Shared} {Q E : Value → Shared → Prop} {v : V} {x : Addr} {u : Value} {tf : Tok}
    (XB : (Mine.hd.heap_39 w.params).In base) (TB : Top topProg loose mean mg mb base) (B : Below A₀ base outer h₀) (D : KtsDicts (frs outer) h₀) (T0 : KtsTurn (frs outer) g₀ h₀) (F : Fr h₀ L s.heap m) (N : News h₀ L s.heap news) (hk : cs.kind = .function) (J : Jars news v) (hx : v.x = x) (hdp : dp + 65 < recursionLimit) (hun : un + 250 < cLine) (W : Word news true u) (hF : v.F = .int 0 tf) (hf : v.f1 = true)
    (exc : ∀ h₀' g₁ h' tk' e, KtsTurn (frs outer) g₀ h₀' → Fr h₀' L g₁ m → Below A₀ base outer h₀' → KtsDicts (frs outer) h₀' → RaisedSN base g₁ (envX cn cs L a ccd cl :: outer) e (.type "ArithmeticError") news h' → g₁.UpToSlots h' → E (.ref e) { s with heap := h', toks := tk' }) :
    wpAny (model PySem.Challenge.rw_am6027_01.row.prog w) (top none dp un gd cn cs L a ccd cl outer) (PySem.call (.ref 325) [.ref x, u]) Q E s := by
  w_top off
  w_strict (
    revert XB
    k_fill
    intro XB
    subst hx
    have X := XB.keeps B.stays
    have T := TB.keeps B.stays
    have dcf := J.ocf
    have dcj := J.ocj
    refine wpAny_call ?_
    k_dflt ktr_enter
    k_steps
    (with_reducible rename RaisedSN _ _ _ _ _ _ _ => rsX; with_reducible rename Heap.UpToSlots _ _ => rsU; exact exc_of rfl (by k_asm) B D T0 (by first | assumption | exact KtsTurn.refl) rsX rsU (fun _ _ a b c d e f => exc _ _ _ _ _ a b c d e f)))

set_option maxHeartbeats 8000000 in
theorem set_off0 {w : World} {loose : List Str} {mean : ExcName → Option Value} {mg mb : Str → Option Value} {dp un : Nat} {gd : Option (List Code)} {cn : Str} {cs : Scope} {a : Addr} {ccd : Value} {cl : List (Str × Addr)} {outer : List Env} {A₀ : Around} {base h₀ g₀ : Heap} {L : Addr} {m : Str → Option Value}
    {news : List (Addr × Obj)} {s : Shared} {Q E : Value → Shared → Prop} {v : V} {x : Addr} {n' : Tok → List (Addr × Obj)} {u : Value} {tf : Tok}
    (XB : (Mine.hd.heap_39 w.params).In base) (TB : Top topProg loose mean mg mb base) (B : Below A₀ base outer h₀) (D : KtsDicts (frs outer) h₀) (T0 : KtsTurn (frs outer) g₀ h₀) (F : Fr h₀ L s.heap m) (N : News h₀ L s.heap news) (hk : cs.kind = .function) (J : Jars news v) (hx : v.x = x) (hdp : dp + 65 < recursionLimit) (hun : un + 250 < cLine) (W : Word news false u) (hF : v.F = .int 0 tf) (U : ∀ t, Upd v.dx (dictOf (oneD v.ks (.ref v.y) (.bytes #[109] v.t0) .none v.F (.int 0 v.tz) .none) 6) (dictOf (oneD v.ks (.ref v.y) (.bytes #[109] v.t0) .none (.int 0 t) (.int 0 v.tz) .none) 6) news (n' t))
    (ret : ∀ h₀' h' tk' t, KtsTurn (frs outer) g₀ h₀' → Fr h₀' L h' m → News h₀' L h' (n' t) → Below A₀ base outer h₀' → KtsDicts (frs outer) h₀' → (Mine.hd.heap_39 w.params).In h₀' → Top topProg loose mean mg mb h₀' → Q .none { s with heap := h', toks := tk' }) :
    wpAny (model PySem.Challenge.rw_am6027_01.row.prog w) (top none dp un gd cn cs L a ccd cl outer) (PySem.call (.ref 325) [.ref x, u]) Q E s := by
  w_top off
  w_strict (
    revert XB
    k_fill
    intro XB
    subst hx
    have X := XB.keeps B.stays
    have T := TB.keeps B.stays
    have dcf := J.ocf
    have dcj := J.ocj
    refine wpAny_call ?_
    k_dflt ktr_enter
    k_steps
    exact ret _ _ _ _ (by k_asm) (by k_asm) (by k_asm) (by k_asm) (by k_asm) (XB.keeps (Below.stays (by k_asm))) (TB.keeps (Below.stays (by k_asm))))

set_option maxHeartbeats 8000000 in
theorem set_on1 {w : World} {loose : List Str} {mean : ExcName → Option Value} {mg mb : Str → Option Value} {dp un : Nat} {gd : Option (List Code)} {cn : Str} {cs : Scope} {a : Addr} {ccd : Value} {cl : List (Str × Addr)} {outer : List Env} {A₀ : Around} {base h₀ g₀ : Heap} {L : Addr} {m : Str → Option Value}
    {news : List (Addr × Obj)} {s : Shared} {Q E : Value → Shared → Prop} {v : V} {x : Addr} {n' : Tok → List (Addr × Obj)} {u : Value} {tf : Tok}
    (XB : (Mine.hd.heap_39 w.params).In base) (TB : Top topProg loose mean mg mb base) (B : Below A₀ base outer h₀) (D : KtsDicts (frs outer) h₀) (T0 : KtsTurn (frs outer) g₀ h₀) (F : Fr h₀ L s.heap m) (N : News h₀ L s.heap news) (hk : cs.kind = .function) (J : Jars news v) (hx : v.x = x) (hdp : dp + 65 < recursionLimit) (hun : un + 250 < cLine) (W : Word news true u) (hF : v.F = .int 1 tf) (U : ∀ t, Upd v.dx (dictOf (oneD v.ks (.ref v.y) (.bytes #[109] v.t0) .none v.F (.int 0 v.tz) .none) 6) (dictOf (oneD v.ks (.ref v.y) (.bytes #[109] v.t0) .none (.int 1 t) (.int 0 v.tz) .none) 6) news (n' t))
    (ret : ∀ h₀' h' tk' t, KtsTurn (frs outer) g₀ h₀' → Fr h₀' L h' m → News h₀' L h' (n' t) → Below A₀ base outer h₀' → KtsDicts (frs outer) h₀' → (Mine.hd.heap_39 w.params).In h₀' → Top topProg loose mean mg mb h₀' → Q .none { s with heap := h', toks := tk' }) :
    wpAny (model PySem.Challenge.rw_am6027_01.row.prog w) (top none dp un gd cn cs L a ccd cl outer) (PySem.call (.ref 325) [.ref x, u]) Q E s := by
  w_top off
  w_strict (
    revert XB
    k_fill
    intro XB
    subst hx
    have X := XB.keeps B.stays
    have T := TB.keeps B.stays
    have dcf := J.ocf
    have dcj := J.ocj
    refine wpAny_call ?_
    k_dflt ktr_enter
    k_steps
    exact ret _ _ _ _ (by k_asm) (by k_asm) (by k_asm) (by k_asm) (by k_asm) (XB.keeps (Below.stays (by k_asm))) (TB.keeps (Below.stays (by k_asm))))

set_option maxHeartbeats 8000000 in
theorem set_off1 {w : World} {loose : List Str} {mean : ExcName → Option Value} {mg mb : Str → Option Value} {dp un : Nat} {gd : Option (List Code)} {cn : Str} {cs : Scope} {a : Addr} {ccd : Value} {cl : List (Str × Addr)} {outer : List Env} {A₀ : Around} {base h₀ g₀ : Heap} {L : Addr} {m : Str → Option Value}
    {news : List (Addr × Obj)} {s : Shared} {Q E : Value → Shared → Prop} {v : V} {x : Addr} {n' : Tok → List (Addr × Obj)} {u : Value} {tf : Tok}
    (XB : (Mine.hd.heap_39 w.params).In base) (TB : Top topProg loose mean mg mb base) (B : Below A₀ base outer h₀) (D : KtsDicts (frs outer) h₀) (T0 : KtsTurn (frs outer) g₀ h₀) (F : Fr h₀ L s.heap m) (N : News h₀ L s.heap news) (hk : cs.kind = .function) (J : Jars news v) (hx : v.x = x) (hdp : dp + 65 < recursionLimit) (hun : un + 250 < cLine) (W : Word news false u) (hF : v.F = .int 1 tf) (U : ∀ t, Upd v.dx (dictOf (oneD v.ks (.ref v.y) (.bytes #[109] v.t0) .none v.F (.int 0 v.tz) .none) 6) (dictOf (oneD v.ks (.ref v.y) (.bytes #[109] v.t0) .none (.int 0 t) (.int 0 v.tz) .none) 6) news (n' t))
    (ret : ∀ h₀' h' tk' t, KtsTurn (frs outer) g₀ h₀' → Fr h₀' L h' m → News h₀' L h' (n' t) → Below A₀ base outer h₀' → KtsDicts (frs outer) h₀' → (Mine.hd.heap_39 w.params).In h₀' → Top topProg loose mean mg mb h₀' → Q .none { s with heap := h', toks := tk' }) :
    wpAny (model PySem.Challenge.rw_am6027_01.row.prog w) (top none dp un gd cn cs L a ccd cl outer) (PySem.call (.ref 325) [.ref x, u]) Q E s := by
  w_top off
  w_strict (
    revert XB
    k_fill
    intro XB
    subst hx
    have X := XB.keeps B.stays
    have T := TB.keeps B.stays
    have dcf := J.ocf
    have dcj := J.ocj
    refine wpAny_call ?_
    k_dflt ktr_enter
    k_steps
    exact ret _ _ _ _ (by k_asm) (by k_asm) (by k_asm) (by k_asm) (by k_asm) (XB.keeps (Below.stays (by k_asm))) (TB.keeps (Below.stays (by k_asm))))

set_option maxHeartbeats 8000000 in
theorem set_on2 {w : World} {loose : List Str} {mean : ExcName → Option Value} {mg mb : Str → Option Value} {dp un : Nat} {gd : Option (List Code)} {cn : Str} {cs : Scope} {a : Addr} {ccd : Value} {cl : List (Str × Addr)} {outer : List Env} {A₀ : Around} {base h₀ g₀ : Heap} {L : Addr} {m : Str → Option Value}
    {news : List (Addr × Obj)} {s : Shared} {Q E : Value → Shared → Prop} {v : V} {x : Addr} {n₁ : List (Addr × Obj)} {n' : Tok → List (Addr × Obj)} {u : Value} {tf : Tok}
    (XB : (Mine.hd.heap_39 w.params).In base) (TB : Top topProg loose mean mg mb base) (B : Below A₀ base outer h₀) (D : KtsDicts (frs outer) h₀) (T0 : KtsTurn (frs outer) g₀ h₀) (F : Fr h₀ L s.heap m) (N : News h₀ L s.heap news) (hk : cs.kind = .function) (J : Jars news v) (hx : v.x = x) (hdp : dp + 65 < recursionLimit) (hun : un + 250 < cLine) (W : Word news true u) (hF : v.F = .int 2 tf) (hf : v.f1 = false) (hz : v.vc.length ≤ 1000) (U1 : Upd v.lc (PySem.W.listOf v.vc.toArray v.nc) (PySem.W.listOf (v.vc.toArray.push (.bytes #[109] v.t0)) (v.nc + 1)) news n₁) (U : ∀ t, Upd v.dx (dictOf (oneD v.ks (.ref v.y) (.bytes #[109] v.t0) .none v.F (.int 0 v.tz) .none) 6) (dictOf (oneD v.ks (.ref v.y) (.bytes #[109] v.t0) .none (.int 3 t) (.int 0 v.tz) .none) 6) n₁ (n' t))
    (ret : ∀ h₀' h' tk' t, KtsTurn (frs outer) g₀ h₀' → Fr h₀' L h' m → News h₀' L h' (n' t) → Below A₀ base outer h₀' → KtsDicts (frs outer) h₀' → (Mine.hd.heap_39 w.params).In h₀' → Top topProg loose mean mg mb h₀' → Q .none { s with heap := h', toks := tk' }) :
    wpAny (model PySem.Challenge.rw_am6027_01.row.prog w) (top none dp un gd cn cs L a ccd cl outer) (PySem.call (.ref 325) [.ref x, u]) Q E s := by
  w_top off
  w_strict (
    revert XB
    k_fill
    intro XB
    subst hx
    have X := XB.keeps B.stays
    have T := TB.keeps B.stays
    have dcf := J.ocf
    have dcj := J.ocj
    have J1 := J.pushC U1
    refine wpAny_call ?_
    k_dflt ktr_enter
    k_steps
    exact ret _ _ _ _ (by k_asm) (by k_asm) (by k_asm) (by k_asm) (by k_asm) (XB.keeps (Below.stays (by k_asm))) (TB.keeps (Below.stays (by k_asm))))

set_option maxHeartbeats 8000000 in
theorem set_no2 {w : World} {loose : List Str} {mean : ExcName → Option Value} {mg mb : Str → Option Value} {dp un : Nat} {gd : Option (List Code)} {cn : Str} {cs : Scope} {a : Addr} {ccd : Value} {cl : List (Str × Addr)} {outer : List Env} {A₀ : Around} {base h₀ g₀ : Heap} {L : Addr} {m : Str → Option Value}
    {news : List (Addr × Obj)} {s : Shared} {Q E : Value → Shared → Prop} {v : V} {x : Addr} {u : Value} {tf : Tok}
    (XB : (Mine.hd.heap_39 w.params).In base) (TB : Top topProg loose mean mg mb base) (B : Below A₀ base outer h₀) (D : KtsDicts (frs outer) h₀) (T0 : KtsTurn (frs outer) g₀ h₀) (F : Fr h₀ L s.heap m) (N : News h₀ L s.heap news) (hk : cs.kind = .function) (J : Jars news v) (hx : v.x = x) (hdp : dp + 65 < recursionLimit) (hun : un + 250 < cLine) (W : Word news true u) (hF : v.F = .int 2 tf) (hf : v.f1 = true)
    (exc : ∀ h₀' g₁ h' tk' e, KtsTurn (frs outer) g₀ h₀' → Fr h₀' L g₁ m → Below A₀ base outer h₀' → KtsDicts (frs outer) h₀' → RaisedSN base g₁ (envX cn cs L a ccd cl :: outer) e (.type "ArithmeticError") news h' → g₁.UpToSlots h' → E (.ref e) { s with heap := h', toks := tk' }) :
    wpAny (model PySem.Challenge.rw_am6027_01.row.prog w) (top none dp un gd cn cs L a ccd cl outer) (PySem.call (.ref 325) [.ref x, u]) Q E s := by
  w_top off
  w_strict (
    revert XB
    k_fill
    intro XB
    subst hx
    have X := XB.keeps B.stays
    have T := TB.keeps B.stays
    have dcf := J.ocf
    have dcj := J.ocj
    refine wpAny_call ?_
    k_dflt ktr_enter
    k_steps
    (with_reducible rename RaisedSN _ _ _ _ _ _ _ => rsX; with_reducible rename Heap.UpToSlots _ _ => rsU; exact exc_of rfl (by k_asm) B D T0 (by first | assumption | exact KtsTurn.refl) rsX rsU (fun _ _ a b c d e f => exc _ _ _ _ _ a b c d e f)))

set_option maxHeartbeats 8000000 in
theorem set_off2 {w : World} {loose : List Str} {mean : ExcName → Option Value} {mg mb : Str → Option Value} {dp un : Nat} {gd : Option (List Code)} {cn : Str} {cs : Scope} {a : Addr} {ccd : Value} {cl : List (Str × Addr)} {outer : List Env} {A₀ : Around} {base h₀ g₀ : Heap} {L : Addr} {m : Str → Option Value}
    {news : List (Addr × Obj)} {s : Shared} {Q E : Value → Shared → Prop} {v : V} {x : Addr} {n' : Tok → List (Addr × Obj)} {u : Value} {tf : Tok}
    (XB : (Mine.hd.heap_39 w.params).In base) (TB : Top topProg loose mean mg mb base) (B : Below A₀ base outer h₀) (D : KtsDicts (frs outer) h₀) (T0 : KtsTurn (frs outer) g₀ h₀) (F : Fr h₀ L s.heap m) (N : News h₀ L s.heap news) (hk : cs.kind = .function) (J : Jars news v) (hx : v.x = x) (hdp : dp + 65 < recursionLimit) (hun : un + 250 < cLine) (W : Word news false u) (hF : v.F = .int 2 tf) (U : ∀ t, Upd v.dx (dictOf (oneD v.ks (.ref v.y) (.bytes #[109] v.t0) .none v.F (.int 0 v.tz) .none) 6) (dictOf (oneD v.ks (.ref v.y) (.bytes #[109] v.t0) .none (.int 2 t) (.int 0 v.tz) .none) 6) news (n' t))
    (ret : ∀ h₀' h' tk' t, KtsTurn (frs outer) g₀ h₀' → Fr h₀' L h' m → News h₀' L h' (n' t) → Below A₀ base outer h₀' → KtsDicts (frs outer) h₀' → (Mine.hd.heap_39 w.params).In h₀' → Top topProg loose mean mg mb h₀' → Q .none { s with heap := h', toks := tk' }) :
    wpAny (model PySem.Challenge.rw_am6027_01.row.prog w) (top none dp un gd cn cs L a ccd cl outer) (PySem.call (.ref 325) [.ref x, u]) Q E s := by
  w_top off
  w_strict (
    revert XB
    k_fill
    intro XB
    subst hx
    have X := XB.keeps B.stays
    have T := TB.keeps B.stays
    have dcf := J.ocf
    have dcj := J.ocj
    refine wpAny_call ?_
    k_dflt ktr_enter
    k_steps
    exact ret _ _ _ _ (by k_asm) (by k_asm) (by k_asm) (by k_asm) (by k_asm) (XB.keeps (Below.stays (by k_asm))) (TB.keeps (Below.stays (by k_asm))))

set_option maxHeartbeats 8000000 in
theorem set_on3 {w : World} {loose : List Str} {mean : ExcName → Option Value} {mg mb : Str → Option Value} {dp un : Nat} {gd : Option (List Code)} {cn : Str} {cs : Scope} {a : Addr} {ccd : Value} {cl : List (Str × Addr)} {outer : List Env} {A₀ : Around} {base h₀ g₀ : Heap} {L : Addr} {m : Str → Option Value}
    {news : List (Addr × Obj)} {s : Shared} {Q E : Value → Shared → Prop} {v : V} {x : Addr} {n' : Tok → List (Addr × Obj)} {u : Value} {tf : Tok}
    (XB : (Mine.hd.heap_39 w.params).In base) (TB : Top topProg loose mean mg mb base) (B : Below A₀ base outer h₀) (D : KtsDicts (frs outer) h₀) (T0 : KtsTurn (frs outer) g₀ h₀) (F : Fr h₀ L s.heap m) (N : News h₀ L s.heap news) (hk : cs.kind = .function) (J : Jars news v) (hx : v.x = x) (hdp : dp + 65 < recursionLimit) (hun : un + 250 < cLine) (W : Word news true u) (hF : v.F = .int 3 tf) (U : ∀ t, Upd v.dx (dictOf (oneD v.ks (.ref v.y) (.bytes #[109] v.t0) .none v.F (.int 0 v.tz) .none) 6) (dictOf (oneD v.ks (.ref v.y) (.bytes #[109] v.t0) .none (.int 3 t) (.int 0 v.tz) .none) 6) news (n' t))
    (ret : ∀ h₀' h' tk' t, KtsTurn (frs outer) g₀ h₀' → Fr h₀' L h' m → News h₀' L h' (n' t) → Below A₀ base outer h₀' → KtsDicts (frs outer) h₀' → (Mine.hd.heap_39 w.params).In h₀' → Top topProg loose mean mg mb h₀' → Q .none { s with heap := h', toks := tk' }) :
    wpAny (model PySem.Challenge.rw_am6027_01.row.prog w) (top none dp un gd cn cs L a ccd cl outer) (PySem.call (.ref 325) [.ref x, u]) Q E s := by
  w_top off
  w_strict (
    revert XB
    k_fill
    intro XB
    subst hx
    have X := XB.keeps B.stays
    have T := TB.keeps B.stays
    have dcf := J.ocf
    have dcj := J.ocj
    refine wpAny_call ?_
    k_dflt ktr_enter
    k_steps
    exact ret _ _ _ _ (by k_asm) (by k_asm) (by k_asm) (by k_asm) (by k_asm) (XB.keeps (Below.stays (by k_asm))) (TB.keeps (Below.stays (by k_asm))))

set_option maxHeartbeats 8000000 in
theorem set_off3 {w : World} {loose : List Str} {mean : ExcName → Option Value} {mg mb : Str → Option Value} {dp un : Nat} {gd : Option (List Code)} {cn : Str} {cs : Scope} {a : Addr} {ccd : Value} {cl : List (Str × Addr)} {outer : List Env} {A₀ : Around} {base h₀ g₀ : Heap} {L : Addr} {m : Str → Option Value}
    {news : List (Addr × Obj)} {s : Shared} {Q E : Value → Shared → Prop} {v : V} {x : Addr} {n' : Tok → List (Addr × Obj)} {u : Value} {tf : Tok}
    (XB : (Mine.hd.heap_39 w.params).In base) (TB : Top topProg loose mean mg mb base) (B : Below A₀ base outer h₀) (D : KtsDicts (frs outer) h₀) (T0 : KtsTurn (frs outer) g₀ h₀) (F : Fr h₀ L s.heap m) (N : News h₀ L s.heap news) (hk : cs.kind = .function) (J : Jars news v) (hx : v.x = x) (hdp : dp + 65 < recursionLimit) (hun : un + 250 < cLine) (W : Word news false u) (hF : v.F = .int 3 tf) (U : ∀ t, Upd v.dx (dictOf (oneD v.ks (.ref v.y) (.bytes #[109] v.t0) .none v.F (.int 0 v.tz) .none) 6) (dictOf (oneD v.ks (.ref v.y) (.bytes #[109] v.t0) .none (.int 2 t) (.int 0 v.tz) .none) 6) news (n' t))
    (ret : ∀ h₀' h' tk' t, KtsTurn (frs outer) g₀ h₀' → Fr h₀' L h' m → News h₀' L h' (n' t) → Below A₀ base outer h₀' → KtsDicts (frs outer) h₀' → (Mine.hd.heap_39 w.params).In h₀' → Top topProg loose mean mg mb h₀' → Q .none { s with heap := h', toks := tk' }) :
    wpAny (model PySem.Challenge.rw_am6027_01.row.prog w) (top none dp un gd cn cs L a ccd cl outer) (PySem.call (.ref 325) [.ref x, u]) Q E s := by
  w_top off
  w_strict (
    revert XB
    k_fill
    intro XB
    subst hx
    have X := XB.keeps B.stays
    have T := TB.keeps B.stays
    have dcf := J.ocf
    have dcj := J.ocj
    refine wpAny_call ?_
    k_dflt ktr_enter
    k_steps
    exact ret _ _ _ _ (by k_asm) (by k_asm) (by k_asm) (by k_asm) (by k_asm) (XB.keeps (Below.stays (by k_asm))) (TB.keeps (Below.stays (by k_asm))))

set_option maxHeartbeats 8000000 in
theorem set_offN {w : World} {loose : List Str} {mean : ExcName → Option Value} {mg mb : Str → Option Value} {dp un : Nat} {gd : Option (List Code)} {cn : Str} {cs : Scope} {a : Addr} {ccd : Value} {cl : List (Str × Addr)} {outer : List Env} {A₀ : Around} {base h₀ g₀ : Heap} {L : Addr} {m : Str → Option Value}
    {news : List (Addr × Obj)} {s : Shared} {Q E : Value → Shared → Prop} {v : V} {x : Addr} {u : Value}
    (XB : (Mine.hd.heap_39 w.params).In base) (TB : Top topProg loose mean mg mb base) (B : Below A₀ base outer h₀) (D : KtsDicts (frs outer) h₀) (T0 : KtsTurn (frs outer) g₀ h₀) (F : Fr h₀ L s.heap m) (N : News h₀ L s.heap news) (hk : cs.kind = .function) (J : Jars news v) (hx : v.x = x) (hdp : dp + 65 < recursionLimit) (hun : un + 250 < cLine) (W : Word news false u) (hF : v.F = .none)
    (ret : ∀ h₀' h' tk', KtsTurn (frs outer) g₀ h₀' → Fr h₀' L h' m → News h₀' L h' news → Below A₀ base outer h₀' → KtsDicts (frs outer) h₀' → (Mine.hd.heap_39 w.params).In h₀' → Top topProg loose mean mg mb h₀' → Q .none { s with heap := h', toks := tk' }) :
    wpAny (model PySem.Challenge.rw_am6027_01.row.prog w) (top none dp un gd cn cs L a ccd cl outer) (PySem.call (.ref 325) [.ref x, u]) Q E s := by
  w_top off
  w_strict (
    revert XB
    k_fill
    intro XB
    subst hx
    have X := XB.keeps B.stays
    have T := TB.keeps B.stays
    have dcf := J.ocf
    have dcj := J.ocj
    refine wpAny_call ?_
    k_dflt ktr_enter
    k_steps
    exact ret _ _ _ (by k_asm) (by k_asm) (by k_asm) (by k_asm) (by k_asm) (XB.keeps (Below.stays (by k_asm))) (TB.keeps (Below.stays (by k_asm))))

set_option maxHeartbeats 8000000 in
theorem set_none0 {w : World} {loose : List Str} {mean : ExcName → Option Value} {mg mb : Str → Option Value} {dp un : Nat} {gd : Option (List Code)} {cn : Str} {cs : Scope} {a : Addr} {ccd : Value} {cl : List (Str × Addr)} {outer : List Env} {A₀ : Around} {base h₀ g₀ : Heap} {L : Addr} {m : Str → Option Value}
    {news : List (Addr × Obj)} {s : Shared} {Q E : Value → Shared → Prop} {v : V} {x : Addr} {n' : List (Addr × Obj)} {tf : Tok}
    (XB : (Mine.hd.heap_39 w.params).In base) (TB : Top topProg loose mean mg mb base) (B : Below A₀ base outer h₀) (D : KtsDicts (frs outer) h₀) (T0 : KtsTurn (frs outer) g₀ h₀) (F : Fr h₀ L s.heap m) (N : News h₀ L s.heap news) (hk : cs.kind = .function) (J : Jars news v) (hx : v.x = x) (hdp : dp + 65 < recursionLimit) (hun : un + 250 < cLine) (hF : v.F = .int 0 tf) (U : Upd v.dx (dictOf (oneD v.ks (.ref v.y) (.bytes #[109] v.t0) .none v.F (.int 0 v.tz) .none) 6) (dictOf (oneD v.ks (.ref v.y) (.bytes #[109] v.t0) .none .none (.int 0 v.tz) .none) 6) news n')
    (ret : ∀ h₀' h' tk', KtsTurn (frs outer) g₀ h₀' → Fr h₀' L h' m → News h₀' L h' n' → Below A₀ base outer h₀' → KtsDicts (frs outer) h₀' → (Mine.hd.heap_39 w.params).In h₀' → Top topProg loose mean mg mb h₀' → Q .none { s with heap := h', toks := tk' }) :
    wpAny (model PySem.Challenge.rw_am6027_01.row.prog w) (top none dp un gd cn cs L a ccd cl outer) (PySem.call (.ref 325) [.ref x, .none]) Q E s := by
  w_top off
  w_strict (
    revert XB
    k_fill
    intro XB
    subst hx
    have X := XB.keeps B.stays
    have T := TB.keeps B.stays
    have dcf := J.ocf
    have dcj := J.ocj
    have J1 := J.setF U
    refine wpAny_call ?_
    k_dflt ktr_enter
    k_steps
    exact ret _ _ _ (by k_asm) (by k_asm) (by k_asm) (by k_asm) (by k_asm) (XB.keeps (Below.stays (by k_asm))) (TB.keeps (Below.stays (by k_asm))))

set_option maxHeartbeats 8000000 in
theorem set_none1 {w : World} {loose : List Str} {mean : ExcName → Option Value} {mg mb : Str → Option Value} {dp un : Nat} {gd : Option (List Code)} {cn : Str} {cs : Scope} {a : Addr} {ccd : Value} {cl : List (Str × Addr)} {outer : List Env} {A₀ : Around} {base h₀ g₀ : Heap} {L : Addr} {m : Str → Option Value}
    {news : List (Addr × Obj)} {s : Shared} {Q E : Value → Shared → Prop} {v : V} {x : Addr} {tf : Tok}
    (XB : (Mine.hd.heap_39 w.params).In base) (TB : Top topProg loose mean mg mb base) (B : Below A₀ base outer h₀) (D : KtsDicts (frs outer) h₀) (T0 : KtsTurn (frs outer) g₀ h₀) (F : Fr h₀ L s.heap m) (N : News h₀ L s.heap news) (hk : cs.kind = .function) (J : Jars news v) (hx : v.x = x) (hdp : dp + 65 < recursionLimit) (hun : un + 250 < cLine) (hF : v.F = .int 1 tf)
    (ret : ∀ h₀' h' tk', KtsTurn (frs outer) g₀ h₀' → Fr h₀' L h' m → News h₀' L h' news → Below A₀ base outer h₀' → KtsDicts (frs outer) h₀' → (Mine.hd.heap_39 w.params).In h₀' → Top topProg loose mean mg mb h₀' → Q .none { s with heap := h', toks := tk' }) :
    wpAny (model PySem.Challenge.rw_am6027_01.row.prog w) (top none dp un gd cn cs L a ccd cl outer) (PySem.call (.ref 325) [.ref x, .none]) Q E s := by
  w_top off
  w_strict (
    revert XB
    k_fill
    intro XB
    subst hx
    have X := XB.keeps B.stays
    have T := TB.keeps B.stays
    have dcf := J.ocf
    have dcj := J.ocj
    refine wpAny_call ?_
    k_dflt ktr_enter
    k_steps
    exact ret _ _ _ (by k_asm) (by k_asm) (by k_asm) (by k_asm) (by k_asm) (XB.keeps (Below.stays (by k_asm))) (TB.keeps (Below.stays (by k_asm))))

set_option maxHeartbeats 8000000 in
theorem set_none2 {w : World} {loose : List Str} {mean : ExcName → Option Value} {mg mb : Str → Option Value} {dp un : Nat} {gd : Option (List Code)} {cn : Str} {cs : Scope} {a : Addr} {ccd : Value} {cl : List (Str × Addr)} {outer : List Env} {A₀ : Around} {base h₀ g₀ : Heap} {L : Addr} {m : Str → Option Value}
    {news : List (Addr × Obj)} {s : Shared} {Q E : Value → Shared → Prop} {v : V} {x : Addr} {tf : Tok}
    (XB : (Mine.hd.heap_39 w.params).In base) (TB : Top topProg loose mean mg mb base) (B : Below A₀ base outer h₀) (D : KtsDicts (frs outer) h₀) (T0 : KtsTurn (frs outer) g₀ h₀) (F : Fr h₀ L s.heap m) (N : News h₀ L s.heap news) (hk : cs.kind = .function) (J : Jars news v) (hx : v.x = x) (hdp : dp + 65 < recursionLimit) (hun : un + 250 < cLine) (hF : v.F = .int 2 tf)
    (ret : ∀ h₀' h' tk', KtsTurn (frs outer) g₀ h₀' → Fr h₀' L h' m → News h₀' L h' news → Below A₀ base outer h₀' → KtsDicts (frs outer) h₀' → (Mine.hd.heap_39 w.params).In h₀' → Top topProg loose mean mg mb h₀' → Q .none { s with heap := h', toks := tk' }) :
    wpAny (model PySem.Challenge.rw_am6027_01.row.prog w) (top none dp un gd cn cs L a ccd cl outer) (PySem.call (.ref 325) [.ref x, .none]) Q E s := by
  w_top off
  w_strict (
    revert XB
    k_fill
    intro XB
    subst hx
    have X := XB.keeps B.stays
    have T := TB.keeps B.stays
    have dcf := J.ocf
    have dcj := J.ocj
    refine wpAny_call ?_
    k_dflt ktr_enter
    k_steps
    exact ret _ _ _ (by k_asm) (by k_asm) (by k_asm) (by k_asm) (by k_asm) (XB.keeps (Below.stays (by k_asm))) (TB.keeps (Below.stays (by k_asm))))

set_option maxHeartbeats 8000000 in
theorem set_none3 {w : World} {loose : List Str} {mean : ExcName → Option Value} {mg mb : Str → Option Value} {dp un : Nat} {gd : Option (List Code)} {cn : Str} {cs : Scope} {a : Addr} {ccd : Value} {cl : List (Str × Addr)} {outer : List Env} {A₀ : Around} {base h₀ g₀ : Heap} {L : Addr} {m : Str → Option Value}
    {news : List (Addr × Obj)} {s : Shared} {Q E : Value → Shared → Prop} {v : V} {x : Addr} {tf : Tok}
    (XB : (Mine.hd.heap_39 w.params).In base) (TB : Top topProg loose mean mg mb base) (B : Below A₀ base outer h₀) (D : KtsDicts (frs outer) h₀) (T0 : KtsTurn (frs outer) g₀ h₀) (F : Fr h₀ L s.heap m) (N : News h₀ L s.heap news) (hk : cs.kind = .function) (J : Jars news v) (hx : v.x = x) (hdp : dp + 65 < recursionLimit) (hun : un + 250 < cLine) (hF : v.F = .int 3 tf)
    (ret : ∀ h₀' h' tk', KtsTurn (frs outer) g₀ h₀' → Fr h₀' L h' m → News h₀' L h' news → Below A₀ base outer h₀' → KtsDicts (frs outer) h₀' → (Mine.hd.heap_39 w.params).In h₀' → Top topProg loose mean mg mb h₀' → Q .none { s with heap := h', toks := tk' }) :
    wpAny (model PySem.Challenge.rw_am6027_01.row.prog w) (top none dp un gd cn cs L a ccd cl outer) (PySem.call (.ref 325) [.ref x, .none]) Q E s := by
  w_top off
  w_strict (
    revert XB
    k_fill
    intro XB
    subst hx
    have X := XB.keeps B.stays
    have T := TB.keeps B.stays
    have dcf := J.ocf
    have dcj := J.ocj
    refine wpAny_call ?_
    k_dflt ktr_enter
    k_steps
    exact ret _ _ _ (by k_asm) (by k_asm) (by k_asm) (by k_asm) (by k_asm) (XB.keeps (Below.stays (by k_asm))) (TB.keeps (Below.stays (by k_asm))))

set_option maxHeartbeats 8000000 in
theorem set_noneN {w : World} {loose : List Str} {mean : ExcName → Option Value} {mg mb : Str → Option Value} {dp un : Nat} {gd : Option (List Code)} {cn : Str} {cs : Scope} {a : Addr} {ccd : Value} {cl : List (Str × Addr)} {outer : List Env} {A₀ : Around} {base h₀ g₀ : Heap} {L : Addr} {m : Str → Option Value}
    {news : List (Addr × Obj)} {s : Shared} {Q E : Value → Shared → Prop} {v : V} {x : Addr}
    (XB : (Mine.hd.heap_39 w.params).In base) (TB : Top topProg loose mean mg mb base) (B : Below A₀ base outer h₀) (D : KtsDicts (frs outer) h₀) (T0 : KtsTurn (frs outer) g₀ h₀) (F : Fr h₀ L s.heap m) (N : News h₀ L s.heap news) (hk : cs.kind = .function) (J : Jars news v) (hx : v.x = x) (hdp : dp + 65 < recursionLimit) (hun : un + 250 < cLine) (hF : v.F = .none)
    (ret : ∀ h₀' h' tk', KtsTurn (frs outer) g₀ h₀' → Fr h₀' L h' m → News h₀' L h' news → Below A₀ base outer h₀' → KtsDicts (frs outer) h₀' → (Mine.hd.heap_39 w.params).In h₀' → Top topProg loose mean mg mb h₀' → Q .none { s with heap := h', toks := tk' }) :
    wpAny (model PySem.Challenge.rw_am6027_01.row.prog w) (top none dp un gd cn cs L a ccd cl outer) (PySem.call (.ref 325) [.ref x, .none]) Q E s := by
  w_top off
  w_strict (
    revert XB
    k_fill
    intro XB
    subst hx
    have X := XB.keeps B.stays
    have T := TB.keeps B.stays
    have dcf := J.ocf
    have dcj := J.ocj
    refine wpAny_call ?_
    k_dflt ktr_enter
    k_steps
    exact ret _ _ _ (by k_asm) (by k_asm) (by k_asm) (by k_asm) (by k_asm) (XB.keeps (Below.stays (by k_asm))) (TB.keeps (Below.stays (by k_asm))))

set_option maxHeartbeats 8000000 in
theorem drop {w : World} {loose : List Str} {mean : ExcName → Option Value} {mg mb : Str → Option Value} {dp un : Nat} {gd : Option (List Code)} {cn : Str} {cs : Scope} {a : Addr} {ccd : Value} {cl : List (Str × Addr)} {outer : List Env} {A₀ : Around} {base h₀ g₀ : Heap} {L : Addr} {m : Str → Option Value}
    {news : List (Addr × Obj)} {s : Shared} {Q E : Value → Shared → Prop} {v : V} {x : Addr} {n₁ n' : Tok → List (Addr × Obj)}
    (XB : (Mine.hd.heap_39 w.params).In base) (TB : Top topProg loose mean mg mb base) (B : Below A₀ base outer h₀) (D : KtsDicts (frs outer) h₀) (T0 : KtsTurn (frs outer) g₀ h₀) (F : Fr h₀ L s.heap m) (N : News h₀ L s.heap news) (hk : cs.kind = .function) (J : Jars news v) (hx : v.x = x) (hdp : dp + 65 < recursionLimit) (hun : un + 250 < cLine) (U1 : ∀ t, Upd v.dx (dictOf (oneD v.ks (.ref v.y) (.bytes #[109] v.t0) .none v.F (.int 0 v.tz) .none) 6) (dictOf (oneD v.ks (.ref v.y) (.bytes #[109] v.t0) .none (.int 0 t) (.int 0 v.tz) .none) 6) news (n₁ t)) (U2 : ∀ t, Upd v.dx (dictOf (oneD v.ks (.ref v.y) (.bytes #[109] v.t0) .none (.int 0 t) (.int 0 v.tz) .none) 6) (dictOf (oneD v.ks (.ref v.y) (.bytes #[109] v.t0) .none .none (.int 0 v.tz) .none) 6) (n₁ t) (n' t))
    (ret : ∀ h₀' h' tk' t, KtsTurn (frs outer) g₀ h₀' → Fr h₀' L h' m → News h₀' L h' (n' t) → Below A₀ base outer h₀' → KtsDicts (frs outer) h₀' → (Mine.hd.heap_39 w.params).In h₀' → Top topProg loose mean mg mb h₀' → Q .none { s with heap := h', toks := tk' }) :
    wpAny (model PySem.Challenge.rw_am6027_01.row.prog w) (top none dp un gd cn cs L a ccd cl outer) (PySem.call (.ref 332) [.ref x]) Q E s := by
  w_top off
  w_strict (
    revert XB
    k_fill
    intro XB
    subst hx
    have X := XB.keeps B.stays
    have T := TB.keeps B.stays
    have dcf := J.ocf
    have dcj := J.ocj
    have J1 := fun t => J.setF (U1 t)
    have J2 := fun t => (J1 t).setF (U2 t)
    refine wpAny_call ?_
    k_dflt ktr_enter
    k_steps
    exact ret _ _ _ _ (by k_asm) (by k_asm) (by k_asm) (by k_asm) (by k_asm) (XB.keeps (Below.stays (by k_asm))) (TB.keeps (Below.stays (by k_asm))))
end Mine
end
section
open PySem PySem.W PyProof.Rows PySem.Calls
set_option Elab.async false
set_option maxRecDepth 100000
namespace Mine

local macro_rules | `(tactic| k_room) => `(tactic| ((try simp only [depth_mark, depth_under_make, depth_under_kw, depth_in1, depth_deeper, depth_caller]); (try dsimp only [top]); omega))
local macro_rules | `(tactic| k_units) => `(tactic| ((try simp only [units_in1, units_deeper, Around.mark_units, units_caller]); (try dsimp only [top]); (have hcL9 := cLine_is); omega))
local macro_rules | `(tactic| k_handed) => `(tactic| assumption)
local macro_rules | `(tactic| k_upd) => `(tactic| assumption)
local macro_rules | `(tactic| k_mem) => `(tactic| first | (refine' Jars.x' ?J ?h; (case J => first | assumption | apply_assumption); (case h => exact rfl)) | (refine' Jars.dx' ?J ?h; (case J => first | assumption | apply_assumption); (case h => exact rfl)) | (refine' Jars.y' ?J ?h; (case J => first | assumption | apply_assumption); (case h => exact rfl)) | (refine' Jars.dy' ?J ?h; (case J => first | assumption | apply_assumption); (case h => exact rfl)) | (refine' Jars.ll' ?J ?h; (case J => first | assumption | apply_assumption); (case h => exact rfl)) | (refine' Jars.lc' ?J ?h; (case J => first | assumption | apply_assumption); (case h => exact rfl)) | (refine' Jars.fs' ?J ?h; (case J => first | assumption | apply_assumption); (case h => exact rfl)) | (refine' Jars.fr' ?J ?h; (case J => first | assumption | apply_assumption); (case h => exact rfl)) | (refine' Jars.cf' ?J ?h; (case J => first | assumption | apply_assumption); (case h => exact rfl)) | (refine' Jars.cj' ?J ?h; (case J => first | assumption | apply_assumption); (case h => exact rfl)) | (refine' Jars.fl' ?J ?h; (case J => first | assumption | apply_assumption); (case h => exact rfl)) | (refine' Jars.cs' ?J ?h; (case J => first | assumption | apply_assumption); (case h => exact rfl)) | (refine' Jars.cr' ?J ?h; (case J => first | assumption | apply_assumption); (case h => exact rfl)))
local macro_rules | `(tactic| size_fits) => `(tactic| (simp only [List.size_toArray, PySem.sizeLine_eq]; omega))

local macro_rules | `(tactic| walk_at "eval Name") => `(tactic| (k_here; k_dflt (refine' nameX_F ?N ?c ?m ?d ?_ ?a ?b; (case a => rfl); (case b => rfl); (case N => k_asm); (case c => rfl); (case m => k_mem); (case d => k_asm); k_whole)))
local macro_rules | `(tactic| ktr_room) => `(tactic| ((try simp only [depth_mark, depth_under_make, depth_under_kw, depth_in1, depth_deeper, depth_caller, units_in1, units_deeper, Around.mark_units, units_caller]); (try dsimp only [top]); first | omega | (have hcL9 := cLine_is; omega) | decide))
local macro_rules | `(tactic| ktr_enter) => `(tactic| (refine' enterT ?B ?D ?T0 ?F ?N ?XB ?TB ?kA ?kF ?kK ?ho ?hcd ?hroom ?hbind ?hloc ?_ ?c1 ?c2 ?c3 ?c4; (case kA => exact rfl); (case kF => exact rfl); (case kK => first | assumption | exact rfl); (case B => k_asm); (case D => k_asm); (case T0 => first | assumption | exact KtsTurn.refl); (case F => k_asm); (case N => k_asm); (case XB => k_asm); (case TB => k_asm); (case ho => k_is); (case hcd => k_is); (case hroom => k_room); (case hbind => first | exact BindsTo.of_eq rfl | exact binds_K (by k_in) rfl (by k_is) rfl rfl rfl); (case hloc => exact locs rfl); (case c1 => exact rfl); (case c2 => exact rfl); (case c3 => exact rfl); (case c4 => decide); k_whole; intro g' L' h' FG' F' N' B' D' X' T'; (try dsimp only); (try k_fold)))
local macro_rules | `(tactic| kla_enter) => `(tactic| (refine' enterTL ?B ?D ?T0 ?F ?N ?XB ?TB ?kA ?kF ?kK ?ho ?hcd ?hroom ?hbind ?hloc ?_ ?c1 ?c2 ?c3 ?c4; (case kA => exact rfl); (case kF => exact rfl); (case kK => first | assumption | exact rfl); (case B => k_asm); (case D => k_asm); (case T0 => first | assumption | exact KtsTurn.refl); (case F => k_asm); (case N => k_asm); (case XB => k_asm); (case TB => k_asm); (case ho => k_mem); (case hcd => first | exact jars_codeS (by k_asm) (by k_asm) | exact jars_codeR (by k_asm) (by k_asm)); (case hroom => k_room); (case hbind => exact rfl); (case hloc => exact locs rfl); (case c1 => exact rfl); (case c2 => exact rfl); (case c3 => exact rfl); (case c4 => decide); k_whole; intro g' L' h' FG' F' N' B' D' X' T'; (try dsimp only); (try k_fold)))
local macro_rules | `(tactic| walk_at "LeaveT") => `(tactic| (k_dflt (refine' leaveT_ ?F ?N ?T ?_; (case F => k_asm); (case N => k_asm); (case T => first | assumption | exact KtsTurn.refl); k_whole); intro h₀' T' F' N' B' D'; (try dsimp only)))
local macro_rules | `(tactic| walk_at "subscriptTail Name Constant ref int") => `(tactic| ((with_reducible show wpAny _ _ (subscriptTail _ _ (Value.ref _) (Value.int _ _)) _ _ _); k_dflt (refine' item_fl ?N ?m ?a ?b ?x ?_; (case N => k_asm); (case m => k_mem); (case a => decide); (case b => decide); (case x => rfl); k_whole)))
local macro_rules | `(tactic| walk_at "callWith ref") => `(tactic| (k_here; (show wpAny _ _ (callWith _ (Value.ref (V.fr _)) _ _ _) _ _ _); k_dflt (first
  | (refine' callWith_F ?k1 ?_; (case k1 => exact FnAt.of (by k_asm) (by k_mem)); k_whole)
  | (refine' callWith_F0 ?k1 ?_; (case k1 => exact FnAt.of (by k_asm) (by k_mem)); k_whole; try dsimp only [List.nil_append, List.cons_append]))))
local macro_rules | `(tactic| walk_at "callWith ref") => `(tactic| (k_here; (show wpAny _ _ (callWith _ (Value.ref (V.fs _)) _ _ _) _ _ _); k_dflt (first
  | (refine' callWith_F ?k1 ?_; (case k1 => exact FnAt.of (by k_asm) (by k_mem)); k_whole)
  | (refine' callWith_F0 ?k1 ?_; (case k1 => exact FnAt.of (by k_asm) (by k_mem)); k_whole; try dsimp only [List.nil_append, List.cons_append]))))
local macro_rules | `(tactic| walk_at "getMethod ref") => `(tactic| (k_here; k_dflt (refine' method_shadow ?k1 ?k2 ?k3 ?k4 ?k5 ?k6 ?k7 ?k8 ?k9 ?k10 ?k11 ?_; (case k1 => k_asm); (case k2 => k_asm); (case k3 => k_inst); (case k4 => k_is); (case k5 => k_is); (case k6 => k_is); (case k7 => k_is); (case k8 => k_is); (case k9 => k_is); (case k10 => k_get); (case k11 => first | rfl | k_handed); k_whole)))
local macro_rules | `(tactic| walk_at "leaving ref") => `(tactic| (k_here; first
  | (with_reducible rename RaisedSN _ _ _ _ _ _ _ => rsX; k_dflt (refine' passX ?f ?K ?F ?R ?U ?_; (case R => exact rsX); (case f => exact rfl); (case K => k_asm); (case F => k_asm); (case U => k_asm); k_whole); clear rsX; intro h' R' U'; (try dsimp only at R' U' ⊢); (try k_unfold); (try dsimp only); (try (with_reducible rename RaisedSN _ _ _ _ _ _ _ => rsX; with_reducible rename Heap.UpToSlots _ _ => rsU; (show wpAny _ _ (leaving _ _) _ _ _); k_dflt (refine' exc_of rfl ?FG ?B ?D ?T0 ?T rsX rsU ?_; (case T => assumption); (case FG => k_asm); (case B => k_asm); (case D => k_asm); (case T0 => first | assumption | exact KtsTurn.refl); k_whole); clear rsX rsU; intro h₀' g' T' FG' B' D' R' U'; (try dsimp only))))
  | (k_dflt (refine' leave_raiseS ?k1 ?k0 ?k2 ?k3 ?_; (case k0 => first | assumption | exact Heap.MadeExc.of (by assumption)); (case k2 => assumption); (case k1 => assumption); (case k3 => k_asm); k_whole); intro h' t' S' R' U'; (try dsimp only at S' R' U' ⊢); (replace S' := toSN S'); clear R')))
local macro_rules | `(tactic| walk_at "call ref") => `(tactic| (k_here; (show wpAny _ _ (PySem.call (Value.ref 35) [_, Value.str (PySem.Str.ofString "_Persistent__flags") _]) _ _ _); k_dflt (refine' oga_flags ?X ?B ?F ?N ?T ?hk ?J ?hx ?dp ?un ?hF ?hh ?_; (case X => k_asm); (case B => k_asm); (case F => k_asm); (case N => k_asm); (case T => k_asm); (case hk => first | assumption | exact rfl); (case J => first | k_asm | apply_assumption); (case hx => exact rfl); (case dp => ktr_room); (case un => ktr_room); (case hF => first | assumption | exact rfl); (case hh => first | rfl | assumption); k_whole); intro h' tk' F' N'; (try dsimp only); (try k_sweep)))
local macro_rules | `(tactic| walk_at "call ref") => `(tactic| (k_here; (show wpAny _ _ (PySem.call (Value.ref 35) [_, Value.str (PySem.Str.ofString "_Persistent__jar") _]) _ _ _); k_dflt (refine' oga_jar ?X ?B ?F ?N ?T ?hk ?J ?hx ?dp ?un ?_; (case X => k_asm); (case B => k_asm); (case F => k_asm); (case N => k_asm); (case T => k_asm); (case hk => first | assumption | exact rfl); (case J => first | k_asm | apply_assumption); (case hx => exact rfl); (case dp => ktr_room); (case un => ktr_room); k_whole); intro h' tk' F' N'; (try dsimp only); (try k_sweep)))
local macro_rules | `(tactic| walk_at "call ref") => `(tactic| (k_here; (show wpAny _ _ (PySem.call (Value.ref 35) [_, Value.str (PySem.Str.ofString "_Persistent__oid") _]) _ _ _); k_dflt (refine' oga_oid ?X ?B ?F ?N ?T ?hk ?J ?hx ?dp ?un ?_; (case X => k_asm); (case B => k_asm); (case F => k_asm); (case N => k_asm); (case T => k_asm); (case hk => first | assumption | exact rfl); (case J => first | k_asm | apply_assumption); (case hx => exact rfl); (case dp => ktr_room); (case un => ktr_room); k_whole); intro h' tk' F' N'; (try dsimp only); (try k_sweep)))
local macro_rules | `(tactic| walk_at "call ref") => `(tactic| (k_here; (show wpAny _ _ (PySem.call (Value.ref 42) [_, Value.str (PySem.Str.ofString "_Persistent__flags") _, _]) _ _ _); k_dflt (refine' osa_flags ?X ?B ?F ?N ?T ?hk ?J ?hx ?dp ?un ?U ?_; (case X => k_asm); (case B => k_asm); (case F => k_asm); (case N => k_asm); (case T => k_asm); (case hk => first | assumption | exact rfl); (case J => first | k_asm | apply_assumption); (case hx => exact rfl); (case dp => ktr_room); (case un => ktr_room); (case U => first | assumption | apply_assumption); k_whole); intro h' tk' F' N'; (try dsimp only); (try k_sweep)))

local macro_rules | `(tactic| walk_at "truthy") => `(tactic| (k_dflt (refine' Word.truthy ?W ?N ?_; (case N => k_asm); (case W => k_asm); k_whole); intro tk'))
local macro_rules | `(tactic| walk_at "compareOp Is") => `(tactic| (k_dflt (refine' Word.notNone ?W ?_; (case W => k_asm); k_whole)))

local macro_rules | `(tactic| walk_at "setAttr ref") => `(tactic| (k_here; k_dflt (show wpAny _ _ (setAttr (Value.ref _) (PySem.Str.ofString "_p_changed") _) _ _ _); k_dflt (refine' set_prop ?k1 ?k2 ?k3 ?k4 ?k5 ?k6 ?k7 ?k8 ?_; (case k1 => k_asm); (case k2 => k_asm); (case k3 => k_inst); (case k4 => k_is); (case k5 => k_is); (case k6 => k_is); (case k7 => k_is); (case k8 => k_is); k_whole); ktr_enter))
local macro_rules | `(tactic| walk_at "delAttr ref") => `(tactic| (k_here; k_dflt (refine' del_prop ?k1 ?k2 ?k3 ?k4 ?k5 ?k6 ?k7 ?k8 ?_; (case k1 => k_asm); (case k2 => k_asm); (case k3 => k_inst); (case k4 => k_is); (case k5 => k_is); (case k6 => k_is); (case k7 => k_is); (case k8 => k_is); k_whole); ktr_enter))
local macro_rules | `(tactic| walk_at "exec Delete") => `(tactic| (with_reducible refine Delete_prop ?_))
local macro_rules | `(tactic| walk_at "call ref") => `(tactic| (k_here; k_dflt (show wpAny _ _ (PySem.call (Value.ref 275) [_, _]) _ _ _); k_dflt (refine' flag_on0 ?XB ?TB ?B ?D ?T0 ?F ?N ?hk ?J ?hx ?dp ?un ?W ?hF ?hf ?hz ?U1 ?U ?_; (case B => k_asm); (case D => k_asm); (case T0 => first | assumption | exact KtsTurn.refl); (case F => k_asm); (case N => k_asm); (case XB => k_asm); (case TB => k_asm); (case hk => first | assumption | exact rfl); (case J => first | k_asm | apply_assumption); (case hx => exact rfl); (case dp => ktr_room); (case un => ktr_room); (case W => first | assumption | apply_assumption); (case hF => first | assumption | exact rfl); (case hf => first | assumption | exact rfl); (case hz => assumption); (case U1 => first | assumption | (intro _; apply_assumption) | apply_assumption); (case U => first | assumption | (intro _; apply_assumption) | apply_assumption); k_whole); intro h₀' h' tk' T' F' N' B' D' X' T2'; (try dsimp only)))
local macro_rules | `(tactic| walk_at "call ref") => `(tactic| (k_here; k_dflt (show wpAny _ _ (PySem.call (Value.ref 275) [_, _]) _ _ _); k_dflt (refine' flag_no0 ?XB ?TB ?B ?D ?T0 ?F ?N ?hk ?J ?hx ?dp ?un ?W ?hF ?hf ?_; (case B => k_asm); (case D => k_asm); (case T0 => first | assumption | exact KtsTurn.refl); (case F => k_asm); (case N => k_asm); (case XB => k_asm); (case TB => k_asm); (case hk => first | assumption | exact rfl); (case J => first | k_asm | apply_assumption); (case hx => exact rfl); (case dp => ktr_room); (case un => ktr_room); (case W => first | assumption | apply_assumption); (case hF => first | assumption | exact rfl); (case hf => first | assumption | exact rfl); k_whole); intro h₀' g' h' tk' e' T' FG' B' D' R' U'; (try dsimp only); (try k_unfold); (try dsimp only)))
local macro_rules | `(tactic| walk_at "call ref") => `(tactic| (k_here; k_dflt (show wpAny _ _ (PySem.call (Value.ref 239) [_]) _ _ _); k_dflt (refine' act_ok ?XB ?TB ?B ?D ?T0 ?F ?N ?hk ?J ?hx ?dp ?un ?hF ?hf ?hz ?U1 ?U2 ?U3 ?U4 ?_; (case B => k_asm); (case D => k_asm); (case T0 => first | assumption | exact KtsTurn.refl); (case F => k_asm); (case N => k_asm); (case XB => k_asm); (case TB => k_asm); (case hk => first | assumption | exact rfl); (case J => first | k_asm | apply_assumption); (case hx => exact rfl); (case dp => ktr_room); (case un => ktr_room); (case hF => first | assumption | exact rfl); (case hf => first | assumption | exact rfl); (case hz => assumption); (case U1 => first | assumption | (intro _; apply_assumption) | apply_assumption); (case U2 => first | assumption | (intro _ _; apply_assumption) | apply_assumption); (case U3 => first | assumption | (intro _ _; apply_assumption) | apply_assumption); (case U4 => first | assumption | (intro _ _ _; apply_assumption) | apply_assumption); k_whole); intro h₀' h' tk' T' F' N' B' D' X' T2'; (try dsimp only)))
local macro_rules | `(tactic| walk_at "call ref") => `(tactic| (k_here; k_dflt (show wpAny _ _ (PySem.call (Value.ref 239) [_]) _ _ _); k_dflt (refine' act_no ?XB ?TB ?B ?D ?T0 ?F ?N ?hk ?J ?hx ?dp ?un ?hF ?hf ?U1 ?U2 ?U3 ?_; (case B => k_asm); (case D => k_asm); (case T0 => first | assumption | exact KtsTurn.refl); (case F => k_asm); (case N => k_asm); (case XB => k_asm); (case TB => k_asm); (case hk => first | assumption | exact rfl); (case J => first | k_asm | apply_assumption); (case hx => exact rfl); (case dp => ktr_room); (case un => ktr_room); (case hF => first | assumption | exact rfl); (case hf => first | assumption | exact rfl); (case U1 => first | assumption | (intro _; apply_assumption) | apply_assumption); (case U2 => first | assumption | (intro _ _; apply_assumption) | apply_assumption); (case U3 => first | assumption | (intro _ _; apply_assumption) | apply_assumption); k_whole); intro h₀' g' h' tk' e' T' FG' B' D' R' U'; (try dsimp only); (try k_unfold); (try dsimp only)))

set_option maxHeartbeats 8000000 in
theorem set_onN {w : World} {loose : List Str} {mean : ExcName → Option Value} {mg mb : Str → Option Value} {dp un : Nat} {gd : Option (List Code)} {cn : Str} {cs : Scope} {a : Addr} {ccd : Value} {cl : List (Str × Addr)} {outer : List Env} {A₀ : Around} {base h₀ g₀ : Heap} {L : Addr} {m : Str → Option Value}
    {news : List (Addr × Obj)} {s : Shared} {Q E : Value → Shared → Prop} {v : V} {x : Addr} {n₁ n₄ n₅ : Tok → List (Addr × Obj)} {n₂ n₃ : Tok → Tok → List (Addr × Obj)} {n' : Tok → List (Addr × Obj)} {u : Value}
    (XB : (Mine.hd.heap_39 w.params).In base) (TB : Top topProg loose mean mg mb base) (B : Below A₀ base outer h₀) (D : KtsDicts (frs outer) h₀) (T0 : KtsTurn (frs outer) g₀ h₀) (F : Fr h₀ L s.heap m) (N : News h₀ L s.heap news) (hk : cs.kind = .function) (J : Jars news v) (hx : v.x = x) (hdp : dp + 65 < recursionLimit) (hun : un + 250 < cLine) (W : Word news true u) (hF : v.F = .none) (hf : v.f0 = false) (hf2 : v.f1 = false) (hz : v.vl.length ≤ 1000) (hz2 : v.vc.length ≤ 1000) (U1 : ∀ t, Upd v.dx (dictOf (oneD v.ks (.ref v.y) (.bytes #[109] v.t0) .none .none (.int 0 v.tz) .none) 6) (dictOf (oneD v.ks (.ref v.y) (.bytes #[109] v.t0) .none (.int 0 t) (.int 0 v.tz) .none) 6) news (n₁ t)) (U2 : ∀ t u, Upd v.dx (dictOf (oneD v.ks (.ref v.y) (.bytes #[109] v.t0) .none (.int 0 t) (.int 0 v.tz) .none) 6) (dictOf (oneD v.ks (.ref v.y) (.bytes #[109] v.t0) .none (.int 1 u) (.int 0 v.tz) .none) 6) (n₁ t) (n₂ t u)) (U3 : ∀ t u, Upd v.ll (PySem.W.listOf v.vl.toArray v.nl) (PySem.W.listOf (v.vl.toArray.push (.bytes #[109] v.t0)) (v.nl + 1)) (n₂ t u) (n₃ t u)) (U4 : ∀ t u r, Upd v.dx (dictOf (oneD v.ks (.ref v.y) (.bytes #[109] v.t0) .none (.int 1 u) (.int 0 v.tz) .none) 6) (dictOf (oneD v.ks (.ref v.y) (.bytes #[109] v.t0) .none (.int 0 r) (.int 0 v.tz) .none) 6) (n₃ t u) (n₄ r)) (U5 : ∀ r, Upd v.lc (PySem.W.listOf v.vc.toArray v.nc) (PySem.W.listOf (v.vc.toArray.push (.bytes #[109] v.t0)) (v.nc + 1)) (n₄ r) (n₅ r)) (U6 : ∀ r t, Upd v.dx (dictOf (oneD v.ks (.ref v.y) (.bytes #[109] v.t0) .none (.int 0 r) (.int 0 v.tz) .none) 6) (dictOf (oneD v.ks (.ref v.y) (.bytes #[109] v.t0) .none (.int 1 t) (.int 0 v.tz) .none) 6) (n₅ r) (n' t))
    (ret : ∀ h₀' h' tk' t, KtsTurn (frs outer) g₀ h₀' → Fr h₀' L h' m → News h₀' L h' (n' t) → Below A₀ base outer h₀' → KtsDicts (frs outer) h₀' → (Mine.hd.heap_39 w.params).In h₀' → Top topProg loose mean mg mb h₀' → Q .none { s with heap := h', toks := tk' }) :
    wpAny (model PySem.Challenge.rw_am6027_01.row.prog w) (top none dp un gd cn cs L a ccd cl outer) (PySem.call (.ref 325) [.ref x, u]) Q E s := by
  w_top off
  w_strict (
    revert XB
    k_fill
    intro XB
    subst hx
    have X := XB.keeps B.stays
    have T := TB.keeps B.stays
    have dcf := J.ocf
    have dcj := J.ocj
    have J0 : Jars news { v with F := .none } := by rw [← hF]; exact J
    have J1 := fun t => J0.setF (U1 t)
    have J2 := fun t u => (J1 t).setF (U2 t u)
    have J3 := fun t u => (J2 t u).pushL (U3 t u)
    have J4 := fun r => (J3 0 0).setF (U4 0 0 r)
    have W4 := fun r => ((((W.upd (U1 0) (by intro e; injection e with e; exact absurd e (by decide))).upd (U2 0 0) (by intro e; injection e with e; exact absurd e (by decide))).upd (U3 0 0) (by intro e; injection e with e; exact absurd e (by decide))).upd (U4 0 0 r) (by intro e; injection e with e; exact absurd e (by decide)))
    refine wpAny_call ?_
    k_dflt ktr_enter
    k_steps
    exact ret _ _ _ _ (by k_asm) (by k_asm) (by k_asm) (by k_asm) (by k_asm) (XB.keeps (Below.stays (by k_asm))) (TB.keeps (Below.stays (by k_asm))))

set_option maxHeartbeats 8000000 in
theorem set_noN1 {w : World} {loose : List Str} {mean : ExcName → Option Value} {mg mb : Str → Option Value} {dp un : Nat} {gd : Option (List Code)} {cn : Str} {cs : Scope} {a : Addr} {ccd : Value} {cl : List (Str × Addr)} {outer : List Env} {A₀ : Around} {base h₀ g₀ : Heap} {L : Addr} {m : Str → Option Value}
    {news : List (Addr × Obj)} {s : Shared} {Q E : Value → Shared → Prop} {v : V} {x : Addr} {n₁ n₄ : Tok → List (Addr × Obj)} {n₂ n₃ : Tok → Tok → List (Addr × Obj)} {u : Value}
    (XB : (Mine.hd.heap_39 w.params).In base) (TB : Top topProg loose mean mg mb base) (B : Below A₀ base outer h₀) (D : KtsDicts (frs outer) h₀) (T0 : KtsTurn (frs outer) g₀ h₀) (F : Fr h₀ L s.heap m) (N : News h₀ L s.heap news) (hk : cs.kind = .function) (J : Jars news v) (hx : v.x = x) (hdp : dp + 65 < recursionLimit) (hun : un + 250 < cLine) (W : Word news true u) (hF : v.F = .none) (hf : v.f0 = false) (hf2 : v.f1 = true) (hz : v.vl.length ≤ 1000) (U1 : ∀ t, Upd v.dx (dictOf (oneD v.ks (.ref v.y) (.bytes #[109] v.t0) .none .none (.int 0 v.tz) .none) 6) (dictOf (oneD v.ks (.ref v.y) (.bytes #[109] v.t0) .none (.int 0 t) (.int 0 v.tz) .none) 6) news (n₁ t)) (U2 : ∀ t u, Upd v.dx (dictOf (oneD v.ks (.ref v.y) (.bytes #[109] v.t0) .none (.int 0 t) (.int 0 v.tz) .none) 6) (dictOf (oneD v.ks (.ref v.y) (.bytes #[109] v.t0) .none (.int 1 u) (.int 0 v.tz) .none) 6) (n₁ t) (n₂ t u)) (U3 : ∀ t u, Upd v.ll (PySem.W.listOf v.vl.toArray v.nl) (PySem.W.listOf (v.vl.toArray.push (.bytes #[109] v.t0)) (v.nl + 1)) (n₂ t u) (n₃ t u)) (U4 : ∀ t u r, Upd v.dx (dictOf (oneD v.ks (.ref v.y) (.bytes #[109] v.t0) .none (.int 1 u) (.int 0 v.tz) .none) 6) (dictOf (oneD v.ks (.ref v.y) (.bytes #[109] v.t0) .none (.int 0 r) (.int 0 v.tz) .none) 6) (n₃ t u) (n₄ r))
    (exc : ∀ r h₀' g₁ h' tk' e, KtsTurn (frs outer) g₀ h₀' → Fr h₀' L g₁ m → Below A₀ base outer h₀' → KtsDicts (frs outer) h₀' → RaisedSN base g₁ (envX cn cs L a ccd cl :: outer) e (.type "ArithmeticError") (n₄ r) h' → g₁.UpToSlots h' → E (.ref e) { s with heap := h', toks := tk' }) :
    wpAny (model PySem.Challenge.rw_am6027_01.row.prog w) (top none dp un gd cn cs L a ccd cl outer) (PySem.call (.ref 325) [.ref x, u]) Q E s := by
  w_top off
  w_strict (
    revert XB
    k_fill
    intro XB
    subst hx
    have X := XB.keeps B.stays
    have T := TB.keeps B.stays
    have dcf := J.ocf
    have dcj := J.ocj
    have J0 : Jars news { v with F := .none } := by rw [← hF]; exact J
    have J1 := fun t => J0.setF (U1 t)
    have J2 := fun t u => (J1 t).setF (U2 t u)
    have J3 := fun t u => (J2 t u).pushL (U3 t u)
    have J4 := fun r => (J3 0 0).setF (U4 0 0 r)
    have W4 := fun r => ((((W.upd (U1 0) (by intro e; injection e with e; exact absurd e (by decide))).upd (U2 0 0) (by intro e; injection e with e; exact absurd e (by decide))).upd (U3 0 0) (by intro e; injection e with e; exact absurd e (by decide))).upd (U4 0 0 r) (by intro e; injection e with e; exact absurd e (by decide)))
    refine wpAny_call ?_
    k_dflt ktr_enter
    k_steps
    (with_reducible rename RaisedSN _ _ _ _ _ _ _ => rsX; with_reducible rename Heap.UpToSlots _ _ => rsU; exact exc_of rfl (by k_asm) B D T0 (by first | assumption | exact KtsTurn.refl) rsX rsU (fun _ _ a b c d e f => exc _ _ _ _ _ _ a b c d e f)))

set_option maxHeartbeats 8000000 in
theorem set_noN0 {w : World} {loose : List Str} {mean : ExcName → Option Value} {mg mb : Str → Option Value} {dp un : Nat} {gd : Option (List Code)} {cn : Str} {cs : Scope} {a : Addr} {ccd : Value} {cl : List (Str × Addr)} {outer : List Env} {A₀ : Around} {base h₀ g₀ : Heap} {L : Addr} {m : Str → Option Value}
    {news : List (Addr × Obj)} {s : Shared} {Q E : Value → Shared → Prop} {v : V} {x : Addr} {n₁ : Tok → List (Addr × Obj)} {n₂ : Tok → Tok → List (Addr × Obj)} {n' : List (Addr × Obj)} {u : Value}
    (XB : (Mine.hd.heap_39 w.params).In base) (TB : Top topProg loose mean mg mb base) (B : Below A₀ base outer h₀) (D : KtsDicts (frs outer) h₀) (T0 : KtsTurn (frs outer) g₀ h₀) (F : Fr h₀ L s.heap m) (N : News h₀ L s.heap news) (hk : cs.kind = .function) (J : Jars news v) (hx : v.x = x) (hdp : dp + 65 < recursionLimit) (hun : un + 250 < cLine) (W : Word news true u) (hF : v.F = .none) (hf : v.f0 = true) (U1 : ∀ t, Upd v.dx (dictOf (oneD v.ks (.ref v.y) (.bytes #[109] v.t0) .none .none (.int 0 v.tz) .none) 6) (dictOf (oneD v.ks (.ref v.y) (.bytes #[109] v.t0) .none (.int 0 t) (.int 0 v.tz) .none) 6) news (n₁ t)) (U2 : ∀ t u, Upd v.dx (dictOf (oneD v.ks (.ref v.y) (.bytes #[109] v.t0) .none (.int 0 t) (.int 0 v.tz) .none) 6) (dictOf (oneD v.ks (.ref v.y) (.bytes #[109] v.t0) .none (.int 1 u) (.int 0 v.tz) .none) 6) (n₁ t) (n₂ t u)) (U3 : ∀ t u, Upd v.dx (dictOf (oneD v.ks (.ref v.y) (.bytes #[109] v.t0) .none (.int 1 u) (.int 0 v.tz) .none) 6) (dictOf (oneD v.ks (.ref v.y) (.bytes #[109] v.t0) .none .none (.int 0 v.tz) .none) 6) (n₂ t u) n')
    (exc : ∀ h₀' g₁ h' tk' e, KtsTurn (frs outer) g₀ h₀' → Fr h₀' L g₁ m → Below A₀ base outer h₀' → KtsDicts (frs outer) h₀' → RaisedSN base g₁ (envX cn cs L a ccd cl :: outer) e (.type "ArithmeticError") n' h' → g₁.UpToSlots h' → E (.ref e) { s with heap := h', toks := tk' }) :
    wpAny (model PySem.Challenge.rw_am6027_01.row.prog w) (top none dp un gd cn cs L a ccd cl outer) (PySem.call (.ref 325) [.ref x, u]) Q E s := by
  w_top off
  w_strict (
    revert XB
    k_fill
    intro XB
    subst hx
    have X := XB.keeps B.stays
    have T := TB.keeps B.stays
    have dcf := J.ocf
    have dcj := J.ocj
    have J0 : Jars news { v with F := .none } := by rw [← hF]; exact J
    have J1 := fun t => J0.setF (U1 t)
    have J2 := fun t u => (J1 t).setF (U2 t u)
    refine wpAny_call ?_
    k_dflt ktr_enter
    k_steps
    (with_reducible rename RaisedSN _ _ _ _ _ _ _ => rsX; with_reducible rename Heap.UpToSlots _ _ => rsU; exact exc_of rfl (by k_asm) B D T0 (by first | assumption | exact KtsTurn.refl) rsX rsU (fun _ _ a b c d e f => exc _ _ _ _ _ a b c d e f)))
end Mine
end
section
open PySem PySem.W PyProof.Rows PySem.Calls
set_option Elab.async false
set_option maxRecDepth 100000
namespace Mine

abbrev noArgs : Arguments := { posonlyargs := [], args := [], vararg := none, kwonlyargs := [], kw_defaults := [], kwarg := none, defaults := [] }
abbrev deedB : Expr := .IfExp (.Compare (.Name "kind" ⟨324, 50, 324, 54⟩) [.Eq] [.Constant (.int 0) 0 ⟨324, 58, 324, 59⟩] ⟨324, 50, 324, 59⟩)
  (.Call (.Name "_law_set" ⟨324, 27, 324, 35⟩) [.Name "one" ⟨324, 36, 324, 39⟩, .Name "word" ⟨324, 41, 324, 45⟩] [] ⟨324, 27, 324, 46⟩)
  (.Call (.Attribute (.Name "one" ⟨324, 65, 324, 68⟩) "_p_set_changed_flag" ⟨324, 65, 324, 88⟩) [.Name "word" ⟨324, 89, 324, 93⟩] [] ⟨324, 65, 324, 94⟩) ⟨324, 27, 324, 94⟩
abbrev deedS : Scope := { kind := .function, names := [("kind", .free), ("one", .free), ("word", .free), ("_law_set", .globalImplicit)], isGenerator := false, isCoroutine := false }
abbrev regB : Expr := .Call (.Attribute (.Name "one" ⟨350, 33, 350, 36⟩) "_p_register" ⟨350, 33, 350, 48⟩) [] [] ⟨350, 33, 350, 50⟩
abbrev regS : Scope := { kind := .function, names := [("one", .free)], isGenerator := false, isCoroutine := false }
/-- what a deed reaches -/
structure Deed (news : List (Addr × Obj)) (f x : Addr) (kd : Int) (u : Value) : Prop where
  it : ∃ q ck co cw ps c us oc tk ok oo ow, (f, kla_obj "<lambda>" q noArgs deedB deedS [("word", cw), ("one", co), ("kind", ck)] ps c us) ∈ news ∧ (c, oc) ∈ news ∧ (∃ vs t, oc.data = .fields vs ∧ vs[1]? = some (.str q t)) ∧
    (ck, ok) ∈ news ∧ (co, oo) ∈ news ∧ (cw, ow) ∈ news ∧ ok.data = .cell (some (.int kd tk)) ∧ oo.data = .cell (some (.ref x)) ∧ ow.data = .cell (some u)
structure RegDeed (news : List (Addr × Obj)) (f x : Addr) : Prop where
  it : ∃ q co ps c us oc oo, (f, kla_obj "<lambda>" q noArgs regB regS [("one", co)] ps c us) ∈ news ∧ (c, oc) ∈ news ∧ (∃ vs t, oc.data = .fields vs ∧ vs[1]? = some (.str q t)) ∧ (co, oo) ∈ news ∧ oo.data = .cell (some (.ref x))
theorem sub_ArithB : isSubtype (.type "ArithmeticError") (.type "BaseException") = pure true := by rw [isSubtype_type]; kernel_rfl
theorem sub_Arith2 : isSubtype (.type "ArithmeticError") (.type "ArithmeticError") = pure true := by rw [isSubtype_type]; kernel_rfl
theorem notTuple_Arith : isSubtype (.type ((Manifest.find? "ArithmeticError").elim "type" fun x => x.metatype)) (.type "tuple") = pure false := by
  rw [show ((Manifest.find? "ArithmeticError").elim "type" fun x => x.metatype) = "type" from by kernel_rfl, isSubtype_type]; kernel_rfl
theorem news_tl3 {h₀ h : Heap} {L : Addr} {p q : Addr × Obj} {l : List (Addr × Obj)} (N : News h₀ L h (p :: q :: l)) : News h₀ L h l := fun r hr => N r (.tail _ (.tail _ hr))
theorem codeRec_of {news : List (Addr × Obj)} {h₀ h : Heap} {L c : Addr} {oc : Obj} {q : Str} (N : News h₀ L h news) (hm : (c, oc) ∈ news) (d : ∃ vs t, oc.data = .fields vs ∧ vs[1]? = some (.str q t)) : h.CodeRec (.ref c) q := by
  obtain ⟨vs, t, d1, d2⟩ := d
  exact codeRec_news N hm d1 d2
end Mine
end
section
open PySem PySem.W PyProof.Rows PySem.Calls
set_option Elab.async false
set_option maxRecDepth 100000
namespace Mine

local macro_rules | `(tactic| k_room) => `(tactic| ((try simp only [depth_mark, depth_under_make, depth_under_kw, depth_in1, depth_deeper, depth_caller]); (try dsimp only [top]); omega))
local macro_rules | `(tactic| k_units) => `(tactic| ((try simp only [units_in1, units_deeper, Around.mark_units, units_caller]); (try dsimp only [top]); (have hcL9 := cLine_is); omega))
local macro_rules | `(tactic| k_handed) => `(tactic| assumption)
local macro_rules | `(tactic| k_upd) => `(tactic| assumption)
local macro_rules | `(tactic| k_mem) => `(tactic| first | (refine' Jars.x' ?J ?h; (case J => first | assumption | apply_assumption); (case h => exact rfl)) | (refine' Jars.dx' ?J ?h; (case J => first | assumption | apply_assumption); (case h => exact rfl)) | (refine' Jars.y' ?J ?h; (case J => first | assumption | apply_assumption); (case h => exact rfl)) | (refine' Jars.dy' ?J ?h; (case J => first | assumption | apply_assumption); (case h => exact rfl)) | (refine' Jars.ll' ?J ?h; (case J => first | assumption | apply_assumption); (case h => exact rfl)) | (refine' Jars.lc' ?J ?h; (case J => first | assumption | apply_assumption); (case h => exact rfl)) | (refine' Jars.fs' ?J ?h; (case J => first | assumption | apply_assumption); (case h => exact rfl)) | (refine' Jars.fr' ?J ?h; (case J => first | assumption | apply_assumption); (case h => exact rfl)) | (refine' Jars.cf' ?J ?h; (case J => first | assumption | apply_assumption); (case h => exact rfl)) | (refine' Jars.cj' ?J ?h; (case J => first | assumption | apply_assumption); (case h => exact rfl)) | (refine' Jars.fl' ?J ?h; (case J => first | assumption | apply_assumption); (case h => exact rfl)) | (refine' Jars.cs' ?J ?h; (case J => first | assumption | apply_assumption); (case h => exact rfl)) | (refine' Jars.cr' ?J ?h; (case J => first | assumption | apply_assumption); (case h => exact rfl)))
local macro_rules | `(tactic| size_fits) => `(tactic| (simp only [List.size_toArray, PySem.sizeLine_eq]; omega))

local macro_rules | `(tactic| walk_at "eval Name") => `(tactic| (k_here; k_dflt (refine' nameX_F ?N ?c ?m ?d ?_ ?a ?b; (case a => rfl); (case b => rfl); (case N => k_asm); (case c => rfl); (case m => k_mem); (case d => k_asm); k_whole)))
local macro_rules | `(tactic| ktr_room) => `(tactic| ((try simp only [depth_mark, depth_under_make, depth_under_kw, depth_in1, depth_deeper, depth_caller, units_in1, units_deeper, Around.mark_units, units_caller]); (try dsimp only [top]); first | omega | (have hcL9 := cLine_is; omega) | decide))
local macro_rules | `(tactic| ktr_enter) => `(tactic| (refine' enterT ?B ?D ?T0 ?F ?N ?XB ?TB ?kA ?kF ?kK ?ho ?hcd ?hroom ?hbind ?hloc ?_ ?c1 ?c2 ?c3 ?c4; (case kA => exact rfl); (case kF => exact rfl); (case kK => first | assumption | exact rfl); (case B => k_asm); (case D => k_asm); (case T0 => first | assumption | exact KtsTurn.refl); (case F => k_asm); (case N => k_asm); (case XB => k_asm); (case TB => k_asm); (case ho => k_is); (case hcd => k_is); (case hroom => k_room); (case hbind => first | exact BindsTo.of_eq rfl | exact binds_K (by k_in) rfl (by k_is) rfl rfl rfl); (case hloc => exact locs rfl); (case c1 => exact rfl); (case c2 => exact rfl); (case c3 => exact rfl); (case c4 => decide); k_whole; intro g' L' h' FG' F' N' B' D' X' T'; (try dsimp only); (try k_fold)))
local macro_rules | `(tactic| kla_enter) => `(tactic| (refine' enterTL ?B ?D ?T0 ?F ?N ?XB ?TB ?kA ?kF ?kK ?ho ?hcd ?hroom ?hbind ?hloc ?_ ?c1 ?c2 ?c3 ?c4; (case kA => exact rfl); (case kF => exact rfl); (case kK => first | assumption | exact rfl); (case B => k_asm); (case D => k_asm); (case T0 => first | assumption | exact KtsTurn.refl); (case F => k_asm); (case N => k_asm); (case XB => k_asm); (case TB => k_asm); (case ho => k_mem); (case hcd => first | exact jars_codeS (by k_asm) (by k_asm) | exact jars_codeR (by k_asm) (by k_asm)); (case hroom => k_room); (case hbind => exact rfl); (case hloc => exact locs rfl); (case c1 => exact rfl); (case c2 => exact rfl); (case c3 => exact rfl); (case c4 => decide); k_whole; intro g' L' h' FG' F' N' B' D' X' T'; (try dsimp only); (try k_fold)))
local macro_rules | `(tactic| walk_at "LeaveT") => `(tactic| (k_dflt (refine' leaveT_ ?F ?N ?T ?_; (case F => k_asm); (case N => k_asm); (case T => first | assumption | exact KtsTurn.refl); k_whole); intro h₀' T' F' N' B' D'; (try dsimp only)))
local macro_rules | `(tactic| walk_at "subscriptTail Name Constant ref int") => `(tactic| ((with_reducible show wpAny _ _ (subscriptTail _ _ (Value.ref _) (Value.int _ _)) _ _ _); k_dflt (refine' item_fl ?N ?m ?a ?b ?x ?_; (case N => k_asm); (case m => k_mem); (case a => decide); (case b => decide); (case x => rfl); k_whole)))
local macro_rules | `(tactic| walk_at "callWith ref") => `(tactic| (k_here; (show wpAny _ _ (callWith _ (Value.ref (V.fr _)) _ _ _) _ _ _); k_dflt (first
  | (refine' callWith_F ?k1 ?_; (case k1 => exact FnAt.of (by k_asm) (by k_mem)); k_whole)
  | (refine' callWith_F0 ?k1 ?_; (case k1 => exact FnAt.of (by k_asm) (by k_mem)); k_whole; try dsimp only [List.nil_append, List.cons_append]))))
local macro_rules | `(tactic| walk_at "callWith ref") => `(tactic| (k_here; (show wpAny _ _ (callWith _ (Value.ref (V.fs _)) _ _ _) _ _ _); k_dflt (first
  | (refine' callWith_F ?k1 ?_; (case k1 => exact FnAt.of (by k_asm) (by k_mem)); k_whole)
  | (refine' callWith_F0 ?k1 ?_; (case k1 => exact FnAt.of (by k_asm) (by k_mem)); k_whole; try dsimp only [List.nil_append, List.cons_append]))))
local macro_rules | `(tactic| walk_at "getMethod ref") => `(tactic| (k_here; k_dflt (refine' method_shadow ?k1 ?k2 ?k3 ?k4 ?k5 ?k6 ?k7 ?k8 ?k9 ?k10 ?k11 ?_; (case k1 => k_asm); (case k2 => k_asm); (case k3 => k_inst); (case k4 => k_is); (case k5 => k_is); (case k6 => k_is); (case k7 => k_is); (case k8 => k_is); (case k9 => k_is); (case k10 => k_get); (case k11 => first | rfl | k_handed); k_whole)))
local macro_rules | `(tactic| walk_at "leaving ref") => `(tactic| (k_here; first
  | (with_reducible rename RaisedSN _ _ _ _ _ _ _ => rsX; k_dflt (refine' passX ?f ?K ?F ?R ?U ?_; (case R => exact rsX); (case f => exact rfl); (case K => k_asm); (case F => k_asm); (case U => k_asm); k_whole); clear rsX; intro h' R' U'; (try dsimp only at R' U' ⊢); (try k_unfold); (try dsimp only); (try (with_reducible rename RaisedSN _ _ _ _ _ _ _ => rsX; with_reducible rename Heap.UpToSlots _ _ => rsU; (show wpAny _ _ _ _ _ _); k_dflt (refine' exc_of rfl ?FG ?B ?D ?T0 ?T rsX rsU ?_; (case T => assumption); (case FG => k_asm); (case B => k_asm); (case D => k_asm); (case T0 => first | assumption | exact KtsTurn.refl); k_whole); clear rsX rsU; intro h₀' g' T' FG' B' D' R' U'; (try dsimp only))))
  | (k_dflt (refine' leave_raiseS ?k1 ?k0 ?k2 ?k3 ?_; (case k0 => first | assumption | exact Heap.MadeExc.of (by assumption)); (case k2 => assumption); (case k1 => assumption); (case k3 => k_asm); k_whole); intro h' t' S' R' U'; (try dsimp only at S' R' U' ⊢); (replace S' := toSN S'); clear R')))
local macro_rules | `(tactic| walk_at "call ref") => `(tactic| (k_here; (show wpAny _ _ (PySem.call (Value.ref 35) [_, Value.str (PySem.Str.ofString "_Persistent__flags") _]) _ _ _); k_dflt (refine' oga_flags ?X ?B ?F ?N ?T ?hk ?J ?hx ?dp ?un ?hF ?hh ?_; (case X => k_asm); (case B => k_asm); (case F => k_asm); (case N => k_asm); (case T => k_asm); (case hk => first | assumption | exact rfl); (case J => first | k_asm | apply_assumption); (case hx => exact rfl); (case dp => ktr_room); (case un => ktr_room); (case hF => first | assumption | exact rfl); (case hh => first | rfl | assumption); k_whole); intro h' tk' F' N'; (try dsimp only); (try k_sweep)))
local macro_rules | `(tactic| walk_at "call ref") => `(tactic| (k_here; (show wpAny _ _ (PySem.call (Value.ref 35) [_, Value.str (PySem.Str.ofString "_Persistent__jar") _]) _ _ _); k_dflt (refine' oga_jar ?X ?B ?F ?N ?T ?hk ?J ?hx ?dp ?un ?_; (case X => k_asm); (case B => k_asm); (case F => k_asm); (case N => k_asm); (case T => k_asm); (case hk => first | assumption | exact rfl); (case J => first | k_asm | apply_assumption); (case hx => exact rfl); (case dp => ktr_room); (case un => ktr_room); k_whole); intro h' tk' F' N'; (try dsimp only); (try k_sweep)))
local macro_rules | `(tactic| walk_at "call ref") => `(tactic| (k_here; (show wpAny _ _ (PySem.call (Value.ref 35) [_, Value.str (PySem.Str.ofString "_Persistent__oid") _]) _ _ _); k_dflt (refine' oga_oid ?X ?B ?F ?N ?T ?hk ?J ?hx ?dp ?un ?_; (case X => k_asm); (case B => k_asm); (case F => k_asm); (case N => k_asm); (case T => k_asm); (case hk => first | assumption | exact rfl); (case J => first | k_asm | apply_assumption); (case hx => exact rfl); (case dp => ktr_room); (case un => ktr_room); k_whole); intro h' tk' F' N'; (try dsimp only); (try k_sweep)))
local macro_rules | `(tactic| walk_at "call ref") => `(tactic| (k_here; (show wpAny _ _ (PySem.call (Value.ref 42) [_, Value.str (PySem.Str.ofString "_Persistent__flags") _, _]) _ _ _); k_dflt (refine' osa_flags ?X ?B ?F ?N ?T ?hk ?J ?hx ?dp ?un ?U ?_; (case X => k_asm); (case B => k_asm); (case F => k_asm); (case N => k_asm); (case T => k_asm); (case hk => first | assumption | exact rfl); (case J => first | k_asm | apply_assumption); (case hx => exact rfl); (case dp => ktr_room); (case un => ktr_room); (case U => first | assumption | apply_assumption); k_whole); intro h' tk' F' N'; (try dsimp only); (try k_sweep)))

local macro_rules | `(tactic| walk_at "truthy") => `(tactic| (k_dflt (refine' Word.truthy ?W ?N ?_; (case N => k_asm); (case W => k_asm); k_whole); intro tk'))
local macro_rules | `(tactic| walk_at "compareOp Is") => `(tactic| (k_dflt (refine' Word.notNone ?W ?_; (case W => k_asm); k_whole)))

set_option maxHeartbeats 8000000 in
theorem stick0_true {w : World} {loose : List Str} {mean : ExcName → Option Value} {mg mb : Str → Option Value} {dp un : Nat} {gd : Option (List Code)} {cn : Str} {cs : Scope} {a : Addr} {ccd : Value} {cl : List (Str × Addr)} {outer : List Env} {A₀ : Around} {base h₀ g₀ : Heap} {L : Addr} {m : Str → Option Value}
    {news : List (Addr × Obj)} {s : Shared} {Q E : Value → Shared → Prop} {v : V} {x : Addr} {n' : Tok → List (Addr × Obj)} {tf : Tok}
    (XB : (Mine.hd.heap_39 w.params).In base) (TB : Top topProg loose mean mg mb base) (B : Below A₀ base outer h₀) (D : KtsDicts (frs outer) h₀) (T0 : KtsTurn (frs outer) g₀ h₀) (F : Fr h₀ L s.heap m) (N : News h₀ L s.heap news) (hk : cs.kind = .function) (J : Jars news v) (hx : v.x = x) (hdp : dp + 65 < recursionLimit) (hun : un + 250 < cLine) (hF : v.F = .int 0 tf) (U : ∀ t, Upd v.dx (dictOf (oneD v.ks (.ref v.y) (.bytes #[109] v.t0) .none v.F (.int 0 v.tz) .none) 6) (dictOf (oneD v.ks (.ref v.y) (.bytes #[109] v.t0) .none (.int 2 t) (.int 0 v.tz) .none) 6) news (n' t))
    (ret : ∀ h₀' h' tk' t, KtsTurn (frs outer) g₀ h₀' → Fr h₀' L h' m → News h₀' L h' (n' t) → Below A₀ base outer h₀' → KtsDicts (frs outer) h₀' → (Mine.hd.heap_39 w.params).In h₀' → Top topProg loose mean mg mb h₀' → Q .none { s with heap := h', toks := tk' }) :
    wpAny (model PySem.Challenge.rw_am6027_01.row.prog w) (top none dp un gd cn cs L a ccd cl outer) (PySem.call (.ref 223) [.ref x, .bool true]) Q E s := by
  w_top off
  w_strict (
    revert XB
    k_fill
    intro XB
    subst hx
    have X := XB.keeps B.stays
    have T := TB.keeps B.stays
    have dcf := J.ocf
    have dcj := J.ocj
    refine wpAny_call ?_
    k_dflt ktr_enter
    k_steps
    exact ret _ _ _ _ (by k_asm) (by k_asm) (by k_asm) (by k_asm) (by k_asm) (XB.keeps (Below.stays (by k_asm))) (TB.keeps (Below.stays (by k_asm))))

set_option maxHeartbeats 8000000 in
theorem stick0_false {w : World} {loose : List Str} {mean : ExcName → Option Value} {mg mb : Str → Option Value} {dp un : Nat} {gd : Option (List Code)} {cn : Str} {cs : Scope} {a : Addr} {ccd : Value} {cl : List (Str × Addr)} {outer : List Env} {A₀ : Around} {base h₀ g₀ : Heap} {L : Addr} {m : Str → Option Value}
    {news : List (Addr × Obj)} {s : Shared} {Q E : Value → Shared → Prop} {v : V} {x : Addr} {n' : Tok → List (Addr × Obj)} {tf : Tok}
    (XB : (Mine.hd.heap_39 w.params).In base) (TB : Top topProg loose mean mg mb base) (B : Below A₀ base outer h₀) (D : KtsDicts (frs outer) h₀) (T0 : KtsTurn (frs outer) g₀ h₀) (F : Fr h₀ L s.heap m) (N : News h₀ L s.heap news) (hk : cs.kind = .function) (J : Jars news v) (hx : v.x = x) (hdp : dp + 65 < recursionLimit) (hun : un + 250 < cLine) (hF : v.F = .int 0 tf) (U : ∀ t, Upd v.dx (dictOf (oneD v.ks (.ref v.y) (.bytes #[109] v.t0) .none v.F (.int 0 v.tz) .none) 6) (dictOf (oneD v.ks (.ref v.y) (.bytes #[109] v.t0) .none (.int 0 t) (.int 0 v.tz) .none) 6) news (n' t))
    (ret : ∀ h₀' h' tk' t, KtsTurn (frs outer) g₀ h₀' → Fr h₀' L h' m → News h₀' L h' (n' t) → Below A₀ base outer h₀' → KtsDicts (frs outer) h₀' → (Mine.hd.heap_39 w.params).In h₀' → Top topProg loose mean mg mb h₀' → Q .none { s with heap := h', toks := tk' }) :
    wpAny (model PySem.Challenge.rw_am6027_01.row.prog w) (top none dp un gd cn cs L a ccd cl outer) (PySem.call (.ref 223) [.ref x, .bool false]) Q E s := by
  w_top off
  w_strict (
    revert XB
    k_fill
    intro XB
    subst hx
    have X := XB.keeps B.stays
    have T := TB.keeps B.stays
    have dcf := J.ocf
    have dcj := J.ocj
    refine wpAny_call ?_
    k_dflt ktr_enter
    k_steps
    exact ret _ _ _ _ (by k_asm) (by k_asm) (by k_asm) (by k_asm) (by k_asm) (XB.keeps (Below.stays (by k_asm))) (TB.keeps (Below.stays (by k_asm))))

set_option maxHeartbeats 8000000 in
theorem stick1_true {w : World} {loose : List Str} {mean : ExcName → Option Value} {mg mb : Str → Option Value} {dp un : Nat} {gd : Option (List Code)} {cn : Str} {cs : Scope} {a : Addr} {ccd : Value} {cl : List (Str × Addr)} {outer : List Env} {A₀ : Around} {base h₀ g₀ : Heap} {L : Addr} {m : Str → Option Value}
    {news : List (Addr × Obj)} {s : Shared} {Q E : Value → Shared → Prop} {v : V} {x : Addr} {n' : Tok → List (Addr × Obj)} {tf : Tok}
    (XB : (Mine.hd.heap_39 w.params).In base) (TB : Top topProg loose mean mg mb base) (B : Below A₀ base outer h₀) (D : KtsDicts (frs outer) h₀) (T0 : KtsTurn (frs outer) g₀ h₀) (F : Fr h₀ L s.heap m) (N : News h₀ L s.heap news) (hk : cs.kind = .function) (J : Jars news v) (hx : v.x = x) (hdp : dp + 65 < recursionLimit) (hun : un + 250 < cLine) (hF : v.F = .int 1 tf) (U : ∀ t, Upd v.dx (dictOf (oneD v.ks (.ref v.y) (.bytes #[109] v.t0) .none v.F (.int 0 v.tz) .none) 6) (dictOf (oneD v.ks (.ref v.y) (.bytes #[109] v.t0) .none (.int 3 t) (.int 0 v.tz) .none) 6) news (n' t))
    (ret : ∀ h₀' h' tk' t, KtsTurn (frs outer) g₀ h₀' → Fr h₀' L h' m → News h₀' L h' (n' t) → Below A₀ base outer h₀' → KtsDicts (frs outer) h₀' → (Mine.hd.heap_39 w.params).In h₀' → Top topProg loose mean mg mb h₀' → Q .none { s with heap := h', toks := tk' }) :
    wpAny (model PySem.Challenge.rw_am6027_01.row.prog w) (top none dp un gd cn cs L a ccd cl outer) (PySem.call (.ref 223) [.ref x, .bool true]) Q E s := by
  w_top off
  w_strict (
    revert XB
    k_fill
    intro XB
    subst hx
    have X := XB.keeps B.stays
    have T := TB.keeps B.stays
    have dcf := J.ocf
    have dcj := J.ocj
    refine wpAny_call ?_
    k_dflt ktr_enter
    k_steps
    exact ret _ _ _ _ (by k_asm) (by k_asm) (by k_asm) (by k_asm) (by k_asm) (XB.keeps (Below.stays (by k_asm))) (TB.keeps (Below.stays (by k_asm))))

set_option maxHeartbeats 8000000 in
theorem stick1_false {w : World} {loose : List Str} {mean : ExcName → Option Value} {mg mb : Str → Option Value} {dp un : Nat} {gd : Option (List Code)} {cn : Str} {cs : Scope} {a : Addr} {ccd : Value} {cl : List (Str × Addr)} {outer : List Env} {A₀ : Around} {base h₀ g₀ : Heap} {L : Addr} {m : Str → Option Value}
    {news : List (Addr × Obj)} {s : Shared} {Q E : Value → Shared → Prop} {v : V} {x : Addr} {n' : Tok → List (Addr × Obj)} {tf : Tok}
    (XB : (Mine.hd.heap_39 w.params).In base) (TB : Top topProg loose mean mg mb base) (B : Below A₀ base outer h₀) (D : KtsDicts (frs outer) h₀) (T0 : KtsTurn (frs outer) g₀ h₀) (F : Fr h₀ L s.heap m) (N : News h₀ L s.heap news) (hk : cs.kind = .function) (J : Jars news v) (hx : v.x = x) (hdp : dp + 65 < recursionLimit) (hun : un + 250 < cLine) (hF : v.F = .int 1 tf) (U : ∀ t, Upd v.dx (dictOf (oneD v.ks (.ref v.y) (.bytes #[109] v.t0) .none v.F (.int 0 v.tz) .none) 6) (dictOf (oneD v.ks (.ref v.y) (.bytes #[109] v.t0) .none (.int 1 t) (.int 0 v.tz) .none) 6) news (n' t))
    (ret : ∀ h₀' h' tk' t, KtsTurn (frs outer) g₀ h₀' → Fr h₀' L h' m → News h₀' L h' (n' t) → Below A₀ base outer h₀' → KtsDicts (frs outer) h₀' → (Mine.hd.heap_39 w.params).In h₀' → Top topProg loose mean mg mb h₀' → Q .none { s with heap := h', toks := tk' }) :
    wpAny (model PySem.Challenge.rw_am6027_01.row.prog w) (top none dp un gd cn cs L a ccd cl outer) (PySem.call (.ref 223) [.ref x, .bool false]) Q E s := by
  w_top off
  w_strict (
    revert XB
    k_fill
    intro XB
    subst hx
    have X := XB.keeps B.stays
    have T := TB.keeps B.stays
    have dcf := J.ocf
    have dcj := J.ocj
    refine wpAny_call ?_
    k_dflt ktr_enter
    k_steps
    exact ret _ _ _ _ (by k_asm) (by k_asm) (by k_asm) (by k_asm) (by k_asm) (XB.keeps (Below.stays (by k_asm))) (TB.keeps (Below.stays (by k_asm))))

set_option maxHeartbeats 8000000 in
theorem stick2_true {w : World} {loose : List Str} {mean : ExcName → Option Value} {mg mb : Str → Option Value} {dp un : Nat} {gd : Option (List Code)} {cn : Str} {cs : Scope} {a : Addr} {ccd : Value} {cl : List (Str × Addr)} {outer : List Env} {A₀ : Around} {base h₀ g₀ : Heap} {L : Addr} {m : Str → Option Value}
    {news : List (Addr × Obj)} {s : Shared} {Q E : Value → Shared → Prop} {v : V} {x : Addr} {n' : Tok → List (Addr × Obj)} {tf : Tok}
    (XB : (Mine.hd.heap_39 w.params).In base) (TB : Top topProg loose mean mg mb base) (B : Below A₀ base outer h₀) (D : KtsDicts (frs outer) h₀) (T0 : KtsTurn (frs outer) g₀ h₀) (F : Fr h₀ L s.heap m) (N : News h₀ L s.heap news) (hk : cs.kind = .function) (J : Jars news v) (hx : v.x = x) (hdp : dp + 65 < recursionLimit) (hun : un + 250 < cLine) (hF : v.F = .int 2 tf) (U : ∀ t, Upd v.dx (dictOf (oneD v.ks (.ref v.y) (.bytes #[109] v.t0) .none v.F (.int 0 v.tz) .none) 6) (dictOf (oneD v.ks (.ref v.y) (.bytes #[109] v.t0) .none (.int 2 t) (.int 0 v.tz) .none) 6) news (n' t))
    (ret : ∀ h₀' h' tk' t, KtsTurn (frs outer) g₀ h₀' → Fr h₀' L h' m → News h₀' L h' (n' t) → Below A₀ base outer h₀' → KtsDicts (frs outer) h₀' → (Mine.hd.heap_39 w.params).In h₀' → Top topProg loose mean mg mb h₀' → Q .none { s with heap := h', toks := tk' }) :
    wpAny (model PySem.Challenge.rw_am6027_01.row.prog w) (top none dp un gd cn cs L a ccd cl outer) (PySem.call (.ref 223) [.ref x, .bool true]) Q E s := by
  w_top off
  w_strict (
    revert XB
    k_fill
    intro XB
    subst hx
    have X := XB.keeps B.stays
    have T := TB.keeps B.stays
    have dcf := J.ocf
    have dcj := J.ocj
    refine wpAny_call ?_
    k_dflt ktr_enter
    k_steps
    exact ret _ _ _ _ (by k_asm) (by k_asm) (by k_asm) (by k_asm) (by k_asm) (XB.keeps (Below.stays (by k_asm))) (TB.keeps (Below.stays (by k_asm))))

set_option maxHeartbeats 8000000 in
theorem stick2_false {w : World} {loose : List Str} {mean : ExcName → Option Value} {mg mb : Str → Option Value} {dp un : Nat} {gd : Option (List Code)} {cn : Str} {cs : Scope} {a : Addr} {ccd : Value} {cl : List (Str × Addr)} {outer : List Env} {A₀ : Around} {base h₀ g₀ : Heap} {L : Addr} {m : Str → Option Value}
    {news : List (Addr × Obj)} {s : Shared} {Q E : Value → Shared → Prop} {v : V} {x : Addr} {n' : Tok → List (Addr × Obj)} {tf : Tok}
    (XB : (Mine.hd.heap_39 w.params).In base) (TB : Top topProg loose mean mg mb base) (B : Below A₀ base outer h₀) (D : KtsDicts (frs outer) h₀) (T0 : KtsTurn (frs outer) g₀ h₀) (F : Fr h₀ L s.heap m) (N : News h₀ L s.heap news) (hk : cs.kind = .function) (J : Jars news v) (hx : v.x = x) (hdp : dp + 65 < recursionLimit) (hun : un + 250 < cLine) (hF : v.F = .int 2 tf) (U : ∀ t, Upd v.dx (dictOf (oneD v.ks (.ref v.y) (.bytes #[109] v.t0) .none v.F (.int 0 v.tz) .none) 6) (dictOf (oneD v.ks (.ref v.y) (.bytes #[109] v.t0) .none (.int 0 t) (.int 0 v.tz) .none) 6) news (n' t))
    (ret : ∀ h₀' h' tk' t, KtsTurn (frs outer) g₀ h₀' → Fr h₀' L h' m → News h₀' L h' (n' t) → Below A₀ base outer h₀' → KtsDicts (frs outer) h₀' → (Mine.hd.heap_39 w.params).In h₀' → Top topProg loose mean mg mb h₀' → Q .none { s with heap := h', toks := tk' }) :
    wpAny (model PySem.Challenge.rw_am6027_01.row.prog w) (top none dp un gd cn cs L a ccd cl outer) (PySem.call (.ref 223) [.ref x, .bool false]) Q E s := by
  w_top off
  w_strict (
    revert XB
    k_fill
    intro XB
    subst hx
    have X := XB.keeps B.stays
    have T := TB.keeps B.stays
    have dcf := J.ocf
    have dcj := J.ocj
    refine wpAny_call ?_
    k_dflt ktr_enter
    k_steps
    exact ret _ _ _ _ (by k_asm) (by k_asm) (by k_asm) (by k_asm) (by k_asm) (XB.keeps (Below.stays (by k_asm))) (TB.keeps (Below.stays (by k_asm))))

set_option maxHeartbeats 8000000 in
theorem stick3_true {w : World} {loose : List Str} {mean : ExcName → Option Value} {mg mb : Str → Option Value} {dp un : Nat} {gd : Option (List Code)} {cn : Str} {cs : Scope} {a : Addr} {ccd : Value} {cl : List (Str × Addr)} {outer : List Env} {A₀ : Around} {base h₀ g₀ : Heap} {L : Addr} {m : Str → Option Value}
    {news : List (Addr × Obj)} {s : Shared} {Q E : Value → Shared → Prop} {v : V} {x : Addr} {n' : Tok → List (Addr × Obj)} {tf : Tok}
    (XB : (Mine.hd.heap_39 w.params).In base) (TB : Top topProg loose mean mg mb base) (B : Below A₀ base outer h₀) (D : KtsDicts (frs outer) h₀) (T0 : KtsTurn (frs outer) g₀ h₀) (F : Fr h₀ L s.heap m) (N : News h₀ L s.heap news) (hk : cs.kind = .function) (J : Jars news v) (hx : v.x = x) (hdp : dp + 65 < recursionLimit) (hun : un + 250 < cLine) (hF : v.F = .int 3 tf) (U : ∀ t, Upd v.dx (dictOf (oneD v.ks (.ref v.y) (.bytes #[109] v.t0) .none v.F (.int 0 v.tz) .none) 6) (dictOf (oneD v.ks (.ref v.y) (.bytes #[109] v.t0) .none (.int 3 t) (.int 0 v.tz) .none) 6) news (n' t))
    (ret : ∀ h₀' h' tk' t, KtsTurn (frs outer) g₀ h₀' → Fr h₀' L h' m → News h₀' L h' (n' t) → Below A₀ base outer h₀' → KtsDicts (frs outer) h₀' → (Mine.hd.heap_39 w.params).In h₀' → Top topProg loose mean mg mb h₀' → Q .none { s with heap := h', toks := tk' }) :
    wpAny (model PySem.Challenge.rw_am6027_01.row.prog w) (top none dp un gd cn cs L a ccd cl outer) (PySem.call (.ref 223) [.ref x, .bool true]) Q E s := by
  w_top off
  w_strict (
    revert XB
    k_fill
    intro XB
    subst hx
    have X := XB.keeps B.stays
    have T := TB.keeps B.stays
    have dcf := J.ocf
    have dcj := J.ocj
    refine wpAny_call ?_
    k_dflt ktr_enter
    k_steps
    exact ret _ _ _ _ (by k_asm) (by k_asm) (by k_asm) (by k_asm) (by k_asm) (XB.keeps (Below.stays (by k_asm))) (TB.keeps (Below.stays (by k_asm))))

set_option maxHeartbeats 8000000 in
theorem stick3_false {w : World} {loose : List Str} {mean : ExcName → Option Value} {mg mb : Str → Option Value} {dp un : Nat} {gd : Option (List Code)} {cn : Str} {cs : Scope} {a : Addr} {ccd : Value} {cl : List (Str × Addr)} {outer : List Env} {A₀ : Around} {base h₀ g₀ : Heap} {L : Addr} {m : Str → Option Value}
    {news : List (Addr × Obj)} {s : Shared} {Q E : Value → Shared → Prop} {v : V} {x : Addr} {n' : Tok → List (Addr × Obj)} {tf : Tok}
    (XB : (Mine.hd.heap_39 w.params).In base) (TB : Top topProg loose mean mg mb base) (B : Below A₀ base outer h₀) (D : KtsDicts (frs outer) h₀) (T0 : KtsTurn (frs outer) g₀ h₀) (F : Fr h₀ L s.heap m) (N : News h₀ L s.heap news) (hk : cs.kind = .function) (J : Jars news v) (hx : v.x = x) (hdp : dp + 65 < recursionLimit) (hun : un + 250 < cLine) (hF : v.F = .int 3 tf) (U : ∀ t, Upd v.dx (dictOf (oneD v.ks (.ref v.y) (.bytes #[109] v.t0) .none v.F (.int 0 v.tz) .none) 6) (dictOf (oneD v.ks (.ref v.y) (.bytes #[109] v.t0) .none (.int 1 t) (.int 0 v.tz) .none) 6) news (n' t))
    (ret : ∀ h₀' h' tk' t, KtsTurn (frs outer) g₀ h₀' → Fr h₀' L h' m → News h₀' L h' (n' t) → Below A₀ base outer h₀' → KtsDicts (frs outer) h₀' → (Mine.hd.heap_39 w.params).In h₀' → Top topProg loose mean mg mb h₀' → Q .none { s with heap := h', toks := tk' }) :
    wpAny (model PySem.Challenge.rw_am6027_01.row.prog w) (top none dp un gd cn cs L a ccd cl outer) (PySem.call (.ref 223) [.ref x, .bool false]) Q E s := by
  w_top off
  w_strict (
    revert XB
    k_fill
    intro XB
    subst hx
    have X := XB.keeps B.stays
    have T := TB.keeps B.stays
    have dcf := J.ocf
    have dcj := J.ocj
    refine wpAny_call ?_
    k_dflt ktr_enter
    k_steps
    exact ret _ _ _ _ (by k_asm) (by k_asm) (by k_asm) (by k_asm) (by k_asm) (XB.keeps (Below.stays (by k_asm))) (TB.keeps (Below.stays (by k_asm))))
end Mine
end
section
open PySem PySem.W PyProof.Rows PySem.Calls
set_option Elab.async false
set_option maxRecDepth 100000
namespace Mine

local macro_rules | `(tactic| k_room) => `(tactic| ((try simp only [depth_mark, depth_under_make, depth_under_kw, depth_in1, depth_deeper, depth_caller]); (try dsimp only [top]); omega))
local macro_rules | `(tactic| k_units) => `(tactic| ((try simp only [units_in1, units_deeper, Around.mark_units, units_caller]); (try dsimp only [top]); (have hcL9 := cLine_is); omega))
local macro_rules | `(tactic| k_handed) => `(tactic| assumption)
local macro_rules | `(tactic| k_upd) => `(tactic| assumption)
local macro_rules | `(tactic| k_mem) => `(tactic| first | (refine' Jars.x' ?J ?h; (case J => first | assumption | apply_assumption); (case h => exact rfl)) | (refine' Jars.dx' ?J ?h; (case J => first | assumption | apply_assumption); (case h => exact rfl)) | (refine' Jars.y' ?J ?h; (case J => first | assumption | apply_assumption); (case h => exact rfl)) | (refine' Jars.dy' ?J ?h; (case J => first | assumption | apply_assumption); (case h => exact rfl)) | (refine' Jars.ll' ?J ?h; (case J => first | assumption | apply_assumption); (case h => exact rfl)) | (refine' Jars.lc' ?J ?h; (case J => first | assumption | apply_assumption); (case h => exact rfl)) | (refine' Jars.fs' ?J ?h; (case J => first | assumption | apply_assumption); (case h => exact rfl)) | (refine' Jars.fr' ?J ?h; (case J => first | assumption | apply_assumption); (case h => exact rfl)) | (refine' Jars.cf' ?J ?h; (case J => first | assumption | apply_assumption); (case h => exact rfl)) | (refine' Jars.cj' ?J ?h; (case J => first | assumption | apply_assumption); (case h => exact rfl)) | (refine' Jars.fl' ?J ?h; (case J => first | assumption | apply_assumption); (case h => exact rfl)) | (refine' Jars.cs' ?J ?h; (case J => first | assumption | apply_assumption); (case h => exact rfl)) | (refine' Jars.cr' ?J ?h; (case J => first | assumption | apply_assumption); (case h => exact rfl)))
local macro_rules | `(tactic| size_fits) => `(tactic| (simp only [List.size_toArray, PySem.sizeLine_eq]; omega))

local macro_rules | `(tactic| walk_at "eval Name") => `(tactic| (k_here; k_dflt (refine' nameX_F ?N ?c ?m ?d ?_ ?a ?b; (case a => rfl); (case b => rfl); (case N => k_asm); (case c => rfl); (case m => k_mem); (case d => k_asm); k_whole)))
local macro_rules | `(tactic| ktr_room) => `(tactic| ((try simp only [depth_mark, depth_under_make, depth_under_kw, depth_in1, depth_deeper, depth_caller, units_in1, units_deeper, Around.mark_units, units_caller]); (try dsimp only [top]); first | omega | (have hcL9 := cLine_is; omega) | decide))
local macro_rules | `(tactic| ktr_enter) => `(tactic| (refine' enterT ?B ?D ?T0 ?F ?N ?XB ?TB ?kA ?kF ?kK ?ho ?hcd ?hroom ?hbind ?hloc ?_ ?c1 ?c2 ?c3 ?c4; (case kA => exact rfl); (case kF => exact rfl); (case kK => first | assumption | exact rfl); (case B => k_asm); (case D => k_asm); (case T0 => first | assumption | exact KtsTurn.refl); (case F => k_asm); (case N => k_asm); (case XB => k_asm); (case TB => k_asm); (case ho => k_is); (case hcd => k_is); (case hroom => k_room); (case hbind => first | exact BindsTo.of_eq rfl | exact binds_K (by k_in) rfl (by k_is) rfl rfl rfl); (case hloc => exact locs rfl); (case c1 => exact rfl); (case c2 => exact rfl); (case c3 => exact rfl); (case c4 => decide); k_whole; intro g' L' h' FG' F' N' B' D' X' T'; (try dsimp only); (try k_fold)))
local macro_rules | `(tactic| kla_enter) => `(tactic| (refine' enterTL ?B ?D ?T0 ?F ?N ?XB ?TB ?kA ?kF ?kK ?ho ?hcd ?hroom ?hbind ?hloc ?_ ?c1 ?c2 ?c3 ?c4; (case kA => exact rfl); (case kF => exact rfl); (case kK => first | assumption | exact rfl); (case B => k_asm); (case D => k_asm); (case T0 => first | assumption | exact KtsTurn.refl); (case F => k_asm); (case N => k_asm); (case XB => k_asm); (case TB => k_asm); (case ho => k_mem); (case hcd => first | exact jars_codeS (by k_asm) (by k_asm) | exact jars_codeR (by k_asm) (by k_asm)); (case hroom => k_room); (case hbind => exact rfl); (case hloc => exact locs rfl); (case c1 => exact rfl); (case c2 => exact rfl); (case c3 => exact rfl); (case c4 => decide); k_whole; intro g' L' h' FG' F' N' B' D' X' T'; (try dsimp only); (try k_fold)))
local macro_rules | `(tactic| walk_at "LeaveT") => `(tactic| (k_dflt (refine' leaveT_ ?F ?N ?T ?_; (case F => k_asm); (case N => k_asm); (case T => first | assumption | exact KtsTurn.refl); k_whole); intro h₀' T' F' N' B' D'; (try dsimp only)))
local macro_rules | `(tactic| walk_at "subscriptTail Name Constant ref int") => `(tactic| ((with_reducible show wpAny _ _ (subscriptTail _ _ (Value.ref _) (Value.int _ _)) _ _ _); k_dflt (refine' item_fl ?N ?m ?a ?b ?x ?_; (case N => k_asm); (case m => k_mem); (case a => decide); (case b => decide); (case x => rfl); k_whole)))
local macro_rules | `(tactic| walk_at "callWith ref") => `(tactic| (k_here; (show wpAny _ _ (callWith _ (Value.ref (V.fr _)) _ _ _) _ _ _); k_dflt (first
  | (refine' callWith_F ?k1 ?_; (case k1 => exact FnAt.of (by k_asm) (by k_mem)); k_whole)
  | (refine' callWith_F0 ?k1 ?_; (case k1 => exact FnAt.of (by k_asm) (by k_mem)); k_whole; try dsimp only [List.nil_append, List.cons_append]))))
local macro_rules | `(tactic| walk_at "callWith ref") => `(tactic| (k_here; (show wpAny _ _ (callWith _ (Value.ref (V.fs _)) _ _ _) _ _ _); k_dflt (first
  | (refine' callWith_F ?k1 ?_; (case k1 => exact FnAt.of (by k_asm) (by k_mem)); k_whole)
  | (refine' callWith_F0 ?k1 ?_; (case k1 => exact FnAt.of (by k_asm) (by k_mem)); k_whole; try dsimp only [List.nil_append, List.cons_append]))))
local macro_rules | `(tactic| walk_at "getMethod ref") => `(tactic| (k_here; k_dflt (refine' method_shadow ?k1 ?k2 ?k3 ?k4 ?k5 ?k6 ?k7 ?k8 ?k9 ?k10 ?k11 ?_; (case k1 => k_asm); (case k2 => k_asm); (case k3 => k_inst); (case k4 => k_is); (case k5 => k_is); (case k6 => k_is); (case k7 => k_is); (case k8 => k_is); (case k9 => k_is); (case k10 => k_get); (case k11 => first | rfl | k_handed); k_whole)))
local macro_rules | `(tactic| walk_at "leaving ref") => `(tactic| (k_here; first
  | (with_reducible rename RaisedSN _ _ _ _ _ _ _ => rsX; k_dflt (refine' passX ?f ?K ?F ?R ?U ?_; (case R => exact rsX); (case f => exact rfl); (case K => k_asm); (case F => k_asm); (case U => k_asm); k_whole); clear rsX; intro h' R' U'; (try dsimp only at R' U' ⊢); (try k_unfold); (try dsimp only); (try (with_reducible rename RaisedSN _ _ _ _ _ _ _ => rsX; with_reducible rename Heap.UpToSlots _ _ => rsU; (show wpAny _ _ _ _ _ _); k_dflt (refine' exc_of rfl ?FG ?B ?D ?T0 ?T rsX rsU ?_; (case T => assumption); (case FG => k_asm); (case B => k_asm); (case D => k_asm); (case T0 => first | assumption | exact KtsTurn.refl); k_whole); clear rsX rsU; intro h₀' g' T' FG' B' D' R' U'; (try dsimp only))))
  | (k_dflt (refine' leave_raiseS ?k1 ?k0 ?k2 ?k3 ?_; (case k0 => first | assumption | exact Heap.MadeExc.of (by assumption)); (case k2 => assumption); (case k1 => assumption); (case k3 => k_asm); k_whole); intro h' t' S' R' U'; (try dsimp only at S' R' U' ⊢); (replace S' := toSN S'); clear R')))
local macro_rules | `(tactic| kla_enter) => `(tactic| (refine' enterTL ?B ?D ?T0 ?F ?N ?XB ?TB ?kA ?kF ?kK ?ho ?hcd ?hroom ?hbind ?hloc ?_ ?c1 ?c2 ?c3 ?c4; (case kA => exact rfl); (case kF => exact rfl); (case kK => first | assumption | exact rfl); (case B => k_asm); (case D => k_asm); (case T0 => first | assumption | exact KtsTurn.refl); (case F => k_asm); (case N => k_asm); (case XB => k_asm); (case TB => k_asm); (case ho => assumption); (case hcd => exact codeRec_of (by k_asm) (by assumption) (by assumption)); (case hroom => k_room); (case hbind => exact rfl); (case hloc => exact locs rfl); (case c1 => exact rfl); (case c2 => exact rfl); (case c3 => exact rfl); (case c4 => decide); k_whole; intro g' L' h' FG' F' N' B' D' X' T'; (try dsimp only); (try k_fold)))
local macro_rules | `(tactic| walk_at "call ref") => `(tactic| (k_here; k_dflt (refine wpAny_call ?_; kla_enter)))
local macro_rules | `(tactic| k_mem) => `(tactic| assumption)
local macro_rules | `(tactic| walk_at "callWith ref") => `(tactic| (k_here; k_dflt (refine' callWith_F0 ?k1 ?_; (case k1 => exact FnAt.of (by k_asm) (by assumption)); k_whole); (try dsimp only [List.nil_append, List.cons_append])))
local macro_rules | `(tactic| walk_at "noteFrame ref") => `(tactic| (k_here; (with_reducible rename RaisedSN _ _ _ _ _ _ _ => rsX); k_dflt (refine' caughtT (T' := "ArithmeticError") rsX ?F ?K ?U ?XB ?TB ?D ?T0 ?ex ?hv ?hn ?e1 ?e2 ?e3 ?_ ?hk ?hx ?hd ?hE; (case F => k_asm); (case U => k_asm); (case K => k_asm); (case XB => k_asm); (case TB => k_asm); (case D => k_asm); (case T0 => first | assumption | exact KtsTurn.refl); (case ex => k_is); (case hv => exact PyProof.Rows.Boot.«ArithmeticError»); (case hn => decide); (case e1 => exact sub_ArithB); (case e2 => exact notTuple_Arith); (case e3 => exact sub_Arith2); (case hk => exact rfl); (case hx => exact rfl); (case hd => decide); (case hE => passes_own); k_whole); clear rsX; intro h' g' oe' T' oT' T1' F' N' xa' ne' B' D' X' P'; (replace N' := news_tl3 N'); clear xa' ne'; (try dsimp only)))
local macro_rules | `(tactic| walk_at "call ref") => `(tactic| (k_here; k_dflt (show wpAny _ _ (PySem.call (Value.ref 325) [_, _]) _ _ _); k_dflt (refine' set_on0 ?XB ?TB ?B ?D ?T0 ?F ?N ?hk ?J ?hx ?dp ?un ?W ?hF ?hf ?hz ?U1 ?U ?_; (case B => k_asm); (case D => k_asm); (case T0 => first | assumption | exact KtsTurn.refl); (case F => k_asm); (case N => k_asm); (case XB => k_asm); (case TB => k_asm); (case hk => first | assumption | exact rfl); (case J => first | k_asm | apply_assumption); (case hx => exact rfl); (case dp => ktr_room); (case un => ktr_room); (case W => first | assumption | apply_assumption); (case hF => first | assumption | exact rfl); (case hf => first | assumption | exact rfl); (case hz => assumption); (case U1 => first | assumption | (intro _; apply_assumption) | apply_assumption); (case U => first | assumption | (intro _; apply_assumption) | apply_assumption); k_whole); intro h₀' h' tk' T' F' N' B' D' X' T2'; (try dsimp only)))
local macro_rules | `(tactic| walk_at "call ref") => `(tactic| (k_here; k_dflt (show wpAny _ _ (PySem.call (Value.ref 325) [_, _]) _ _ _); k_dflt (refine' set_no0 ?XB ?TB ?B ?D ?T0 ?F ?N ?hk ?J ?hx ?dp ?un ?W ?hF ?hf ?_; (case B => k_asm); (case D => k_asm); (case T0 => first | assumption | exact KtsTurn.refl); (case F => k_asm); (case N => k_asm); (case XB => k_asm); (case TB => k_asm); (case hk => first | assumption | exact rfl); (case J => first | k_asm | apply_assumption); (case hx => exact rfl); (case dp => ktr_room); (case un => ktr_room); (case W => first | assumption | apply_assumption); (case hF => first | assumption | exact rfl); (case hf => first | assumption | exact rfl); k_whole); intro h₀' g' h' tk' e' T' FG' B' D' R' U'; (try dsimp only); (try k_unfold); (try dsimp only)))
local macro_rules | `(tactic| walk_at "call ref") => `(tactic| (k_here; k_dflt (show wpAny _ _ (PySem.call (Value.ref 325) [_, _]) _ _ _); k_dflt (refine' set_on1 ?XB ?TB ?B ?D ?T0 ?F ?N ?hk ?J ?hx ?dp ?un ?W ?hF ?U ?_; (case B => k_asm); (case D => k_asm); (case T0 => first | assumption | exact KtsTurn.refl); (case F => k_asm); (case N => k_asm); (case XB => k_asm); (case TB => k_asm); (case hk => first | assumption | exact rfl); (case J => first | k_asm | apply_assumption); (case hx => exact rfl); (case dp => ktr_room); (case un => ktr_room); (case W => first | assumption | apply_assumption); (case hF => first | assumption | exact rfl); (case U => first | assumption | (intro _; apply_assumption) | apply_assumption); k_whole); intro h₀' h' tk' T' F' N' B' D' X' T2'; (try dsimp only)))
local macro_rules | `(tactic| walk_at "call ref") => `(tactic| (k_here; k_dflt (show wpAny _ _ (PySem.call (Value.ref 325) [_, _]) _ _ _); k_dflt (refine' set_on2 ?XB ?TB ?B ?D ?T0 ?F ?N ?hk ?J ?hx ?dp ?un ?W ?hF ?hf ?hz ?U1 ?U ?_; (case B => k_asm); (case D => k_asm); (case T0 => first | assumption | exact KtsTurn.refl); (case F => k_asm); (case N => k_asm); (case XB => k_asm); (case TB => k_asm); (case hk => first | assumption | exact rfl); (case J => first | k_asm | apply_assumption); (case hx => exact rfl); (case dp => ktr_room); (case un => ktr_room); (case W => first | assumption | apply_assumption); (case hF => first | assumption | exact rfl); (case hf => first | assumption | exact rfl); (case hz => assumption); (case U1 => first | assumption | (intro _; apply_assumption) | apply_assumption); (case U => first | assumption | (intro _; apply_assumption) | apply_assumption); k_whole); intro h₀' h' tk' T' F' N' B' D' X' T2'; (try dsimp only)))
local macro_rules | `(tactic| walk_at "call ref") => `(tactic| (k_here; k_dflt (show wpAny _ _ (PySem.call (Value.ref 325) [_, _]) _ _ _); k_dflt (refine' set_no2 ?XB ?TB ?B ?D ?T0 ?F ?N ?hk ?J ?hx ?dp ?un ?W ?hF ?hf ?_; (case B => k_asm); (case D => k_asm); (case T0 => first | assumption | exact KtsTurn.refl); (case F => k_asm); (case N => k_asm); (case XB => k_asm); (case TB => k_asm); (case hk => first | assumption | exact rfl); (case J => first | k_asm | apply_assumption); (case hx => exact rfl); (case dp => ktr_room); (case un => ktr_room); (case W => first | assumption | apply_assumption); (case hF => first | assumption | exact rfl); (case hf => first | assumption | exact rfl); k_whole); intro h₀' g' h' tk' e' T' FG' B' D' R' U'; (try dsimp only); (try k_unfold); (try dsimp only)))
local macro_rules | `(tactic| walk_at "call ref") => `(tactic| (k_here; k_dflt (show wpAny _ _ (PySem.call (Value.ref 325) [_, _]) _ _ _); k_dflt (refine' set_on3 ?XB ?TB ?B ?D ?T0 ?F ?N ?hk ?J ?hx ?dp ?un ?W ?hF ?U ?_; (case B => k_asm); (case D => k_asm); (case T0 => first | assumption | exact KtsTurn.refl); (case F => k_asm); (case N => k_asm); (case XB => k_asm); (case TB => k_asm); (case hk => first | assumption | exact rfl); (case J => first | k_asm | apply_assumption); (case hx => exact rfl); (case dp => ktr_room); (case un => ktr_room); (case W => first | assumption | apply_assumption); (case hF => first | assumption | exact rfl); (case U => first | assumption | (intro _; apply_assumption) | apply_assumption); k_whole); intro h₀' h' tk' T' F' N' B' D' X' T2'; (try dsimp only)))
local macro_rules | `(tactic| walk_at "call ref") => `(tactic| (k_here; k_dflt (show wpAny _ _ (PySem.call (Value.ref 325) [_, _]) _ _ _); k_dflt (refine' set_onN ?XB ?TB ?B ?D ?T0 ?F ?N ?hk ?J ?hx ?dp ?un ?W ?hF ?hf ?hf2 ?hz ?hz2 ?U1 ?U2 ?U3 ?U4 ?U5 ?U6 ?_; (case B => k_asm); (case D => k_asm); (case T0 => first | assumption | exact KtsTurn.refl); (case F => k_asm); (case N => k_asm); (case XB => k_asm); (case TB => k_asm); (case hk => first | assumption | exact rfl); (case J => first | k_asm | apply_assumption); (case hx => exact rfl); (case dp => ktr_room); (case un => ktr_room); (case W => first | assumption | apply_assumption); (case hF => first | assumption | exact rfl); (case hf => first | assumption | exact rfl); (case hf2 => assumption); (case hz => assumption); (case hz2 => assumption); (case U1 => first | assumption | (intro _; apply_assumption) | apply_assumption); (case U2 => first | assumption | (intro _ _; apply_assumption) | apply_assumption); (case U3 => first | assumption | (intro _ _; apply_assumption) | apply_assumption); (case U4 => first | assumption | (intro _ _ _; apply_assumption) | apply_assumption); (case U5 => first | assumption | (intro _; apply_assumption) | apply_assumption); (case U6 => first | assumption | (intro _ _; apply_assumption) | apply_assumption); k_whole); intro h₀' h' tk' T' F' N' B' D' X' T2'; (try dsimp only)))
local macro_rules | `(tactic| walk_at "call ref") => `(tactic| (k_here; k_dflt (show wpAny _ _ (PySem.call (Value.ref 325) [_, _]) _ _ _); k_dflt (refine' set_noN1 ?XB ?TB ?B ?D ?T0 ?F ?N ?hk ?J ?hx ?dp ?un ?W ?hF ?hf ?hf2 ?hz ?U1 ?U2 ?U3 ?U4 ?_; (case B => k_asm); (case D => k_asm); (case T0 => first | assumption | exact KtsTurn.refl); (case F => k_asm); (case N => k_asm); (case XB => k_asm); (case TB => k_asm); (case hk => first | assumption | exact rfl); (case J => first | k_asm | apply_assumption); (case hx => exact rfl); (case dp => ktr_room); (case un => ktr_room); (case W => first | assumption | apply_assumption); (case hF => first | assumption | exact rfl); (case hf => first | assumption | exact rfl); (case hf2 => assumption); (case hz => assumption); (case U1 => first | assumption | (intro _; apply_assumption) | apply_assumption); (case U2 => first | assumption | (intro _ _; apply_assumption) | apply_assumption); (case U3 => first | assumption | (intro _ _; apply_assumption) | apply_assumption); (case U4 => first | assumption | (intro _ _ _; apply_assumption) | apply_assumption); k_whole); intro h₀' g' h' tk' e' T' FG' B' D' R' U'; (try dsimp only); (try k_unfold); (try dsimp only)))
local macro_rules | `(tactic| walk_at "call ref") => `(tactic| (k_here; k_dflt (show wpAny _ _ (PySem.call (Value.ref 325) [_, _]) _ _ _); k_dflt (refine' set_noN0 ?XB ?TB ?B ?D ?T0 ?F ?N ?hk ?J ?hx ?dp ?un ?W ?hF ?hf ?U1 ?U2 ?U3 ?_; (case B => k_asm); (case D => k_asm); (case T0 => first | assumption | exact KtsTurn.refl); (case F => k_asm); (case N => k_asm); (case XB => k_asm); (case TB => k_asm); (case hk => first | assumption | exact rfl); (case J => first | k_asm | apply_assumption); (case hx => exact rfl); (case dp => ktr_room); (case un => ktr_room); (case W => first | assumption | apply_assumption); (case hF => first | assumption | exact rfl); (case hf => first | assumption | exact rfl); (case U1 => first | assumption | (intro _; apply_assumption) | apply_assumption); (case U2 => first | assumption | (intro _ _; apply_assumption) | apply_assumption); (case U3 => first | assumption | (intro _ _; apply_assumption) | apply_assumption); k_whole); intro h₀' g' h' tk' e' T' FG' B' D' R' U'; (try dsimp only); (try k_unfold); (try dsimp only)))

set_option maxHeartbeats 8000000 in
theorem t0_on0 {w : World} {loose : List Str} {mean : ExcName → Option Value} {mg mb : Str → Option Value} {dp un : Nat} {gd : Option (List Code)} {cn : Str} {cs : Scope} {a : Addr} {ccd : Value} {cl : List (Str × Addr)} {outer : List Env} {A₀ : Around} {base h₀ g₀ : Heap} {L : Addr} {m : Str → Option Value}
    {news : List (Addr × Obj)} {s : Shared} {Q E : Value → Shared → Prop} {v : V} {x : Addr} {n₁ : List (Addr × Obj)} {n' : Tok → List (Addr × Obj)} {u : Value} {tf : Tok} {f : Addr}
    (XB : (Mine.hd.heap_39 w.params).In base) (TB : Top topProg loose mean mg mb base) (B : Below A₀ base outer h₀) (D : KtsDicts (frs outer) h₀) (T0 : KtsTurn (frs outer) g₀ h₀) (F : Fr h₀ L s.heap m) (N : News h₀ L s.heap news) (hk : cs.kind = .function) (J : Jars news v) (hx : v.x = x) (hdp : dp + 70 < recursionLimit) (hun : un + 300 < cLine) (DD : Deed news f x 0 u) (W : Word news true u) (hF : v.F = .int 0 tf) (hf : v.f1 = false) (hz : v.vc.length ≤ 1000) (U1 : Upd v.lc (PySem.W.listOf v.vc.toArray v.nc) (PySem.W.listOf (v.vc.toArray.push (.bytes #[109] v.t0)) (v.nc + 1)) news n₁) (U : ∀ t, Upd v.dx (dictOf (oneD v.ks (.ref v.y) (.bytes #[109] v.t0) .none v.F (.int 0 v.tz) .none) 6) (dictOf (oneD v.ks (.ref v.y) (.bytes #[109] v.t0) .none (.int 1 t) (.int 0 v.tz) .none) 6) n₁ (n' t))
    (ret : ∀ h₀' h' tk' ts t, KtsTurn (frs outer) g₀ h₀' → Fr h₀' L h' m → News h₀' L h' (n' t) → Below A₀ base outer h₀' → KtsDicts (frs outer) h₀' → (Mine.hd.heap_39 w.params).In h₀' → Top topProg loose mean mg mb h₀' → Q (.str "done" ts) { s with heap := h', toks := tk' }) :
    wpAny (model PySem.Challenge.rw_am6027_01.row.prog w) (top none dp un gd cn cs L a ccd cl outer) (PySem.call (.ref 339) [.ref f]) Q E s := by
  w_top off
  w_strict (
    revert XB
    k_fill
    intro XB
    subst hx
    have X := XB.keeps B.stays
    have T := TB.keeps B.stays
    have dcf := J.ocf
    have dcj := J.ocj
    obtain ⟨q9, ck9, co9, cw9, ps9, c9, us9, oc9, tk9, ok9, oo9, ow9, m1, m2, m3, m4, m5, m6, m7, m8, m9⟩ := DD.it
    refine wpAny_call ?_
    k_dflt ktr_enter
    k_steps
    exact ret _ _ _ _ _ (by k_asm) (by k_asm) (by k_asm) (by k_asm) (by k_asm) (XB.keeps (Below.stays (by k_asm))) (TB.keeps (Below.stays (by k_asm))))

set_option maxHeartbeats 8000000 in
theorem t0_no0 {w : World} {loose : List Str} {mean : ExcName → Option Value} {mg mb : Str → Option Value} {dp un : Nat} {gd : Option (List Code)} {cn : Str} {cs : Scope} {a : Addr} {ccd : Value} {cl : List (Str × Addr)} {outer : List Env} {A₀ : Around} {base h₀ g₀ : Heap} {L : Addr} {m : Str → Option Value}
    {news : List (Addr × Obj)} {s : Shared} {Q E : Value → Shared → Prop} {v : V} {x : Addr} {u : Value} {tf : Tok} {f : Addr}
    (XB : (Mine.hd.heap_39 w.params).In base) (TB : Top topProg loose mean mg mb base) (B : Below A₀ base outer h₀) (D : KtsDicts (frs outer) h₀) (T0 : KtsTurn (frs outer) g₀ h₀) (F : Fr h₀ L s.heap m) (N : News h₀ L s.heap news) (hk : cs.kind = .function) (J : Jars news v) (hx : v.x = x) (hdp : dp + 70 < recursionLimit) (hun : un + 300 < cLine) (DD : Deed news f x 0 u) (W : Word news true u) (hF : v.F = .int 0 tf) (hf : v.f1 = true)
    (ret : ∀ h₀' h' tk' ts, KtsTurn (frs outer) g₀ h₀' → Fr h₀' L h' m → News h₀' L h' (news) → Below A₀ base outer h₀' → KtsDicts (frs outer) h₀' → (Mine.hd.heap_39 w.params).In h₀' → Top topProg loose mean mg mb h₀' → Q (.str "failed" ts) { s with heap := h', toks := tk' }) :
    wpAny (model PySem.Challenge.rw_am6027_01.row.prog w) (top none dp un gd cn cs L a ccd cl outer) (PySem.call (.ref 339) [.ref f]) Q E s := by
  w_top off
  w_strict (
    revert XB
    k_fill
    intro XB
    subst hx
    have X := XB.keeps B.stays
    have T := TB.keeps B.stays
    have dcf := J.ocf
    have dcj := J.ocj
    obtain ⟨q9, ck9, co9, cw9, ps9, c9, us9, oc9, tk9, ok9, oo9, ow9, m1, m2, m3, m4, m5, m6, m7, m8, m9⟩ := DD.it
    refine wpAny_call ?_
    k_dflt ktr_enter
    k_steps
    exact ret _ _ _ _ (by k_asm) (by k_asm) (by k_asm) (by k_asm) (by k_asm) (XB.keeps (Below.stays (by k_asm))) (TB.keeps (Below.stays (by k_asm))))

set_option maxHeartbeats 8000000 in
theorem t0_on1 {w : World} {loose : List Str} {mean : ExcName → Option Value} {mg mb : Str → Option Value} {dp un : Nat} {gd : Option (List Code)} {cn : Str} {cs : Scope} {a : Addr} {ccd : Value} {cl : List (Str × Addr)} {outer : List Env} {A₀ : Around} {base h₀ g₀ : Heap} {L : Addr} {m : Str → Option Value}
    {news : List (Addr × Obj)} {s : Shared} {Q E : Value → Shared → Prop} {v : V} {x : Addr} {n' : Tok → List (Addr × Obj)} {u : Value} {tf : Tok} {f : Addr}
    (XB : (Mine.hd.heap_39 w.params).In base) (TB : Top topProg loose mean mg mb base) (B : Below A₀ base outer h₀) (D : KtsDicts (frs outer) h₀) (T0 : KtsTurn (frs outer) g₀ h₀) (F : Fr h₀ L s.heap m) (N : News h₀ L s.heap news) (hk : cs.kind = .function) (J : Jars news v) (hx : v.x = x) (hdp : dp + 70 < recursionLimit) (hun : un + 300 < cLine) (DD : Deed news f x 0 u) (W : Word news true u) (hF : v.F = .int 1 tf) (U : ∀ t, Upd v.dx (dictOf (oneD v.ks (.ref v.y) (.bytes #[109] v.t0) .none v.F (.int 0 v.tz) .none) 6) (dictOf (oneD v.ks (.ref v.y) (.bytes #[109] v.t0) .none (.int 1 t) (.int 0 v.tz) .none) 6) news (n' t))
    (ret : ∀ h₀' h' tk' ts t, KtsTurn (frs outer) g₀ h₀' → Fr h₀' L h' m → News h₀' L h' (n' t) → Below A₀ base outer h₀' → KtsDicts (frs outer) h₀' → (Mine.hd.heap_39 w.params).In h₀' → Top topProg loose mean mg mb h₀' → Q (.str "done" ts) { s with heap := h', toks := tk' }) :
    wpAny (model PySem.Challenge.rw_am6027_01.row.prog w) (top none dp un gd cn cs L a ccd cl outer) (PySem.call (.ref 339) [.ref f]) Q E s := by
  w_top off
  w_strict (
    revert XB
    k_fill
    intro XB
    subst hx
    have X := XB.keeps B.stays
    have T := TB.keeps B.stays
    have dcf := J.ocf
    have dcj := J.ocj
    obtain ⟨q9, ck9, co9, cw9, ps9, c9, us9, oc9, tk9, ok9, oo9, ow9, m1, m2, m3, m4, m5, m6, m7, m8, m9⟩ := DD.it
    refine wpAny_call ?_
    k_dflt ktr_enter
    k_steps
    exact ret _ _ _ _ _ (by k_asm) (by k_asm) (by k_asm) (by k_asm) (by k_asm) (XB.keeps (Below.stays (by k_asm))) (TB.keeps (Below.stays (by k_asm))))

set_option maxHeartbeats 8000000 in
theorem t0_on2 {w : World} {loose : List Str} {mean : ExcName → Option Value} {mg mb : Str → Option Value} {dp un : Nat} {gd : Option (List Code)} {cn : Str} {cs : Scope} {a : Addr} {ccd : Value} {cl : List (Str × Addr)} {outer : List Env} {A₀ : Around} {base h₀ g₀ : Heap} {L : Addr} {m : Str → Option Value}
    {news : List (Addr × Obj)} {s : Shared} {Q E : Value → Shared → Prop} {v : V} {x : Addr} {n₁ : List (Addr × Obj)} {n' : Tok → List (Addr × Obj)} {u : Value} {tf : Tok} {f : Addr}
    (XB : (Mine.hd.heap_39 w.params).In base) (TB : Top topProg loose mean mg mb base) (B : Below A₀ base outer h₀) (D : KtsDicts (frs outer) h₀) (T0 : KtsTurn (frs outer) g₀ h₀) (F : Fr h₀ L s.heap m) (N : News h₀ L s.heap news) (hk : cs.kind = .function) (J : Jars news v) (hx : v.x = x) (hdp : dp + 70 < recursionLimit) (hun : un + 300 < cLine) (DD : Deed news f x 0 u) (W : Word news true u) (hF : v.F = .int 2 tf) (hf : v.f1 = false) (hz : v.vc.length ≤ 1000) (U1 : Upd v.lc (PySem.W.listOf v.vc.toArray v.nc) (PySem.W.listOf (v.vc.toArray.push (.bytes #[109] v.t0)) (v.nc + 1)) news n₁) (U : ∀ t, Upd v.dx (dictOf (oneD v.ks (.ref v.y) (.bytes #[109] v.t0) .none v.F (.int 0 v.tz) .none) 6) (dictOf (oneD v.ks (.ref v.y) (.bytes #[109] v.t0) .none (.int 3 t) (.int 0 v.tz) .none) 6) n₁ (n' t))
    (ret : ∀ h₀' h' tk' ts t, KtsTurn (frs outer) g₀ h₀' → Fr h₀' L h' m → News h₀' L h' (n' t) → Below A₀ base outer h₀' → KtsDicts (frs outer) h₀' → (Mine.hd.heap_39 w.params).In h₀' → Top topProg loose mean mg mb h₀' → Q (.str "done" ts) { s with heap := h', toks := tk' }) :
    wpAny (model PySem.Challenge.rw_am6027_01.row.prog w) (top none dp un gd cn cs L a ccd cl outer) (PySem.call (.ref 339) [.ref f]) Q E s := by
  w_top off
  w_strict (
    revert XB
    k_fill
    intro XB
    subst hx
    have X := XB.keeps B.stays
    have T := TB.keeps B.stays
    have dcf := J.ocf
    have dcj := J.ocj
    obtain ⟨q9, ck9, co9, cw9, ps9, c9, us9, oc9, tk9, ok9, oo9, ow9, m1, m2, m3, m4, m5, m6, m7, m8, m9⟩ := DD.it
    refine wpAny_call ?_
    k_dflt ktr_enter
    k_steps
    exact ret _ _ _ _ _ (by k_asm) (by k_asm) (by k_asm) (by k_asm) (by k_asm) (XB.keeps (Below.stays (by k_asm))) (TB.keeps (Below.stays (by k_asm))))

set_option maxHeartbeats 8000000 in
theorem t0_no2 {w : World} {loose : List Str} {mean : ExcName → Option Value} {mg mb : Str → Option Value} {dp un : Nat} {gd : Option (List Code)} {cn : Str} {cs : Scope} {a : Addr} {ccd : Value} {cl : List (Str × Addr)} {outer : List Env} {A₀ : Around} {base h₀ g₀ : Heap} {L : Addr} {m : Str → Option Value}
    {news : List (Addr × Obj)} {s : Shared} {Q E : Value → Shared → Prop} {v : V} {x : Addr} {u : Value} {tf : Tok} {f : Addr}
    (XB : (Mine.hd.heap_39 w.params).In base) (TB : Top topProg loose mean mg mb base) (B : Below A₀ base outer h₀) (D : KtsDicts (frs outer) h₀) (T0 : KtsTurn (frs outer) g₀ h₀) (F : Fr h₀ L s.heap m) (N : News h₀ L s.heap news) (hk : cs.kind = .function) (J : Jars news v) (hx : v.x = x) (hdp : dp + 70 < recursionLimit) (hun : un + 300 < cLine) (DD : Deed news f x 0 u) (W : Word news true u) (hF : v.F = .int 2 tf) (hf : v.f1 = true)
    (ret : ∀ h₀' h' tk' ts, KtsTurn (frs outer) g₀ h₀' → Fr h₀' L h' m → News h₀' L h' (news) → Below A₀ base outer h₀' → KtsDicts (frs outer) h₀' → (Mine.hd.heap_39 w.params).In h₀' → Top topProg loose mean mg mb h₀' → Q (.str "failed" ts) { s with heap := h', toks := tk' }) :
    wpAny (model PySem.Challenge.rw_am6027_01.row.prog w) (top none dp un gd cn cs L a ccd cl outer) (PySem.call (.ref 339) [.ref f]) Q E s := by
  w_top off
  w_strict (
    revert XB
    k_fill
    intro XB
    subst hx
    have X := XB.keeps B.stays
    have T := TB.keeps B.stays
    have dcf := J.ocf
    have dcj := J.ocj
    obtain ⟨q9, ck9, co9, cw9, ps9, c9, us9, oc9, tk9, ok9, oo9, ow9, m1, m2, m3, m4, m5, m6, m7, m8, m9⟩ := DD.it
    refine wpAny_call ?_
    k_dflt ktr_enter
    k_steps
    exact ret _ _ _ _ (by k_asm) (by k_asm) (by k_asm) (by k_asm) (by k_asm) (XB.keeps (Below.stays (by k_asm))) (TB.keeps (Below.stays (by k_asm))))

set_option maxHeartbeats 8000000 in
theorem t0_on3 {w : World} {loose : List Str} {mean : ExcName → Option Value} {mg mb : Str → Option Value} {dp un : Nat} {gd : Option (List Code)} {cn : Str} {cs : Scope} {a : Addr} {ccd : Value} {cl : List (Str × Addr)} {outer : List Env} {A₀ : Around} {base h₀ g₀ : Heap} {L : Addr} {m : Str → Option Value}
    {news : List (Addr × Obj)} {s : Shared} {Q E : Value → Shared → Prop} {v : V} {x : Addr} {n' : Tok → List (Addr × Obj)} {u : Value} {tf : Tok} {f : Addr}
    (XB : (Mine.hd.heap_39 w.params).In base) (TB : Top topProg loose mean mg mb base) (B : Below A₀ base outer h₀) (D : KtsDicts (frs outer) h₀) (T0 : KtsTurn (frs outer) g₀ h₀) (F : Fr h₀ L s.heap m) (N : News h₀ L s.heap news) (hk : cs.kind = .function) (J : Jars news v) (hx : v.x = x) (hdp : dp + 70 < recursionLimit) (hun : un + 300 < cLine) (DD : Deed news f x 0 u) (W : Word news true u) (hF : v.F = .int 3 tf) (U : ∀ t, Upd v.dx (dictOf (oneD v.ks (.ref v.y) (.bytes #[109] v.t0) .none v.F (.int 0 v.tz) .none) 6) (dictOf (oneD v.ks (.ref v.y) (.bytes #[109] v.t0) .none (.int 3 t) (.int 0 v.tz) .none) 6) news (n' t))
    (ret : ∀ h₀' h' tk' ts t, KtsTurn (frs outer) g₀ h₀' → Fr h₀' L h' m → News h₀' L h' (n' t) → Below A₀ base outer h₀' → KtsDicts (frs outer) h₀' → (Mine.hd.heap_39 w.params).In h₀' → Top topProg loose mean mg mb h₀' → Q (.str "done" ts) { s with heap := h', toks := tk' }) :
    wpAny (model PySem.Challenge.rw_am6027_01.row.prog w) (top none dp un gd cn cs L a ccd cl outer) (PySem.call (.ref 339) [.ref f]) Q E s := by
  w_top off
  w_strict (
    revert XB
    k_fill
    intro XB
    subst hx
    have X := XB.keeps B.stays
    have T := TB.keeps B.stays
    have dcf := J.ocf
    have dcj := J.ocj
    obtain ⟨q9, ck9, co9, cw9, ps9, c9, us9, oc9, tk9, ok9, oo9, ow9, m1, m2, m3, m4, m5, m6, m7, m8, m9⟩ := DD.it
    refine wpAny_call ?_
    k_dflt ktr_enter
    k_steps
    exact ret _ _ _ _ _ (by k_asm) (by k_asm) (by k_asm) (by k_asm) (by k_asm) (XB.keeps (Below.stays (by k_asm))) (TB.keeps (Below.stays (by k_asm))))

set_option maxHeartbeats 8000000 in
theorem t0_onN {w : World} {loose : List Str} {mean : ExcName → Option Value} {mg mb : Str → Option Value} {dp un : Nat} {gd : Option (List Code)} {cn : Str} {cs : Scope} {a : Addr} {ccd : Value} {cl : List (Str × Addr)} {outer : List Env} {A₀ : Around} {base h₀ g₀ : Heap} {L : Addr} {m : Str → Option Value}
    {news : List (Addr × Obj)} {s : Shared} {Q E : Value → Shared → Prop} {v : V} {x : Addr} {n₁ n₄ n₅ : Tok → List (Addr × Obj)} {n₂ n₃ : Tok → Tok → List (Addr × Obj)} {n' : Tok → List (Addr × Obj)} {u : Value} {f : Addr}
    (XB : (Mine.hd.heap_39 w.params).In base) (TB : Top topProg loose mean mg mb base) (B : Below A₀ base outer h₀) (D : KtsDicts (frs outer) h₀) (T0 : KtsTurn (frs outer) g₀ h₀) (F : Fr h₀ L s.heap m) (N : News h₀ L s.heap news) (hk : cs.kind = .function) (J : Jars news v) (hx : v.x = x) (hdp : dp + 70 < recursionLimit) (hun : un + 300 < cLine) (DD : Deed news f x 0 u) (W : Word news true u) (hF : v.F = .none) (hf : v.f0 = false) (hf2 : v.f1 = false) (hz : v.vl.length ≤ 1000) (hz2 : v.vc.length ≤ 1000) (U1 : ∀ t, Upd v.dx (dictOf (oneD v.ks (.ref v.y) (.bytes #[109] v.t0) .none .none (.int 0 v.tz) .none) 6) (dictOf (oneD v.ks (.ref v.y) (.bytes #[109] v.t0) .none (.int 0 t) (.int 0 v.tz) .none) 6) news (n₁ t)) (U2 : ∀ t u, Upd v.dx (dictOf (oneD v.ks (.ref v.y) (.bytes #[109] v.t0) .none (.int 0 t) (.int 0 v.tz) .none) 6) (dictOf (oneD v.ks (.ref v.y) (.bytes #[109] v.t0) .none (.int 1 u) (.int 0 v.tz) .none) 6) (n₁ t) (n₂ t u)) (U3 : ∀ t u, Upd v.ll (PySem.W.listOf v.vl.toArray v.nl) (PySem.W.listOf (v.vl.toArray.push (.bytes #[109] v.t0)) (v.nl + 1)) (n₂ t u) (n₃ t u)) (U4 : ∀ t u r, Upd v.dx (dictOf (oneD v.ks (.ref v.y) (.bytes #[109] v.t0) .none (.int 1 u) (.int 0 v.tz) .none) 6) (dictOf (oneD v.ks (.ref v.y) (.bytes #[109] v.t0) .none (.int 0 r) (.int 0 v.tz) .none) 6) (n₃ t u) (n₄ r)) (U5 : ∀ r, Upd v.lc (PySem.W.listOf v.vc.toArray v.nc) (PySem.W.listOf (v.vc.toArray.push (.bytes #[109] v.t0)) (v.nc + 1)) (n₄ r) (n₅ r)) (U6 : ∀ r t, Upd v.dx (dictOf (oneD v.ks (.ref v.y) (.bytes #[109] v.t0) .none (.int 0 r) (.int 0 v.tz) .none) 6) (dictOf (oneD v.ks (.ref v.y) (.bytes #[109] v.t0) .none (.int 1 t) (.int 0 v.tz) .none) 6) (n₅ r) (n' t))
    (ret : ∀ h₀' h' tk' ts t, KtsTurn (frs outer) g₀ h₀' → Fr h₀' L h' m → News h₀' L h' (n' t) → Below A₀ base outer h₀' → KtsDicts (frs outer) h₀' → (Mine.hd.heap_39 w.params).In h₀' → Top topProg loose mean mg mb h₀' → Q (.str "done" ts) { s with heap := h', toks := tk' }) :
    wpAny (model PySem.Challenge.rw_am6027_01.row.prog w) (top none dp un gd cn cs L a ccd cl outer) (PySem.call (.ref 339) [.ref f]) Q E s := by
  w_top off
  w_strict (
    revert XB
    k_fill
    intro XB
    subst hx
    have X := XB.keeps B.stays
    have T := TB.keeps B.stays
    have dcf := J.ocf
    have dcj := J.ocj
    obtain ⟨q9, ck9, co9, cw9, ps9, c9, us9, oc9, tk9, ok9, oo9, ow9, m1, m2, m3, m4, m5, m6, m7, m8, m9⟩ := DD.it
    refine wpAny_call ?_
    k_dflt ktr_enter
    k_steps
    exact ret _ _ _ _ _ (by k_asm) (by k_asm) (by k_asm) (by k_asm) (by k_asm) (XB.keeps (Below.stays (by k_asm))) (TB.keeps (Below.stays (by k_asm))))

set_option maxHeartbeats 8000000 in
theorem t0_noN1 {w : World} {loose : List Str} {mean : ExcName → Option Value} {mg mb : Str → Option Value} {dp un : Nat} {gd : Option (List Code)} {cn : Str} {cs : Scope} {a : Addr} {ccd : Value} {cl : List (Str × Addr)} {outer : List Env} {A₀ : Around} {base h₀ g₀ : Heap} {L : Addr} {m : Str → Option Value}
    {news : List (Addr × Obj)} {s : Shared} {Q E : Value → Shared → Prop} {v : V} {x : Addr} {n₁ n₄ : Tok → List (Addr × Obj)} {n₂ n₃ : Tok → Tok → List (Addr × Obj)} {u : Value} {f : Addr}
    (XB : (Mine.hd.heap_39 w.params).In base) (TB : Top topProg loose mean mg mb base) (B : Below A₀ base outer h₀) (D : KtsDicts (frs outer) h₀) (T0 : KtsTurn (frs outer) g₀ h₀) (F : Fr h₀ L s.heap m) (N : News h₀ L s.heap news) (hk : cs.kind = .function) (J : Jars news v) (hx : v.x = x) (hdp : dp + 70 < recursionLimit) (hun : un + 300 < cLine) (DD : Deed news f x 0 u) (W : Word news true u) (hF : v.F = .none) (hf : v.f0 = false) (hf2 : v.f1 = true) (hz : v.vl.length ≤ 1000) (U1 : ∀ t, Upd v.dx (dictOf (oneD v.ks (.ref v.y) (.bytes #[109] v.t0) .none .none (.int 0 v.tz) .none) 6) (dictOf (oneD v.ks (.ref v.y) (.bytes #[109] v.t0) .none (.int 0 t) (.int 0 v.tz) .none) 6) news (n₁ t)) (U2 : ∀ t u, Upd v.dx (dictOf (oneD v.ks (.ref v.y) (.bytes #[109] v.t0) .none (.int 0 t) (.int 0 v.tz) .none) 6) (dictOf (oneD v.ks (.ref v.y) (.bytes #[109] v.t0) .none (.int 1 u) (.int 0 v.tz) .none) 6) (n₁ t) (n₂ t u)) (U3 : ∀ t u, Upd v.ll (PySem.W.listOf v.vl.toArray v.nl) (PySem.W.listOf (v.vl.toArray.push (.bytes #[109] v.t0)) (v.nl + 1)) (n₂ t u) (n₃ t u)) (U4 : ∀ t u r, Upd v.dx (dictOf (oneD v.ks (.ref v.y) (.bytes #[109] v.t0) .none (.int 1 u) (.int 0 v.tz) .none) 6) (dictOf (oneD v.ks (.ref v.y) (.bytes #[109] v.t0) .none (.int 0 r) (.int 0 v.tz) .none) 6) (n₃ t u) (n₄ r))
    (ret : ∀ h₀' h' tk' ts t, KtsTurn (frs outer) g₀ h₀' → Fr h₀' L h' m → News h₀' L h' (n₄ t) → Below A₀ base outer h₀' → KtsDicts (frs outer) h₀' → (Mine.hd.heap_39 w.params).In h₀' → Top topProg loose mean mg mb h₀' → Q (.str "failed" ts) { s with heap := h', toks := tk' }) :
    wpAny (model PySem.Challenge.rw_am6027_01.row.prog w) (top none dp un gd cn cs L a ccd cl outer) (PySem.call (.ref 339) [.ref f]) Q E s := by
  w_top off
  w_strict (
    revert XB
    k_fill
    intro XB
    subst hx
    have X := XB.keeps B.stays
    have T := TB.keeps B.stays
    have dcf := J.ocf
    have dcj := J.ocj
    obtain ⟨q9, ck9, co9, cw9, ps9, c9, us9, oc9, tk9, ok9, oo9, ow9, m1, m2, m3, m4, m5, m6, m7, m8, m9⟩ := DD.it
    refine wpAny_call ?_
    k_dflt ktr_enter
    k_steps
    exact ret _ _ _ _ _ (by k_asm) (by k_asm) (by k_asm) (by k_asm) (by k_asm) (XB.keeps (Below.stays (by k_asm))) (TB.keeps (Below.stays (by k_asm))))

set_option maxHeartbeats 8000000 in
theorem t0_noN0 {w : World} {loose : List Str} {mean : ExcName → Option Value} {mg mb : Str → Option Value} {dp un : Nat} {gd : Option (List Code)} {cn : Str} {cs : Scope} {a : Addr} {ccd : Value} {cl : List (Str × Addr)} {outer : List Env} {A₀ : Around} {base h₀ g₀ : Heap} {L : Addr} {m : Str → Option Value}
    {news : List (Addr × Obj)} {s : Shared} {Q E : Value → Shared → Prop} {v : V} {x : Addr} {n₁ : Tok → List (Addr × Obj)} {n₂ : Tok → Tok → List (Addr × Obj)} {n' : List (Addr × Obj)} {u : Value} {f : Addr}
    (XB : (Mine.hd.heap_39 w.params).In base) (TB : Top topProg loose mean mg mb base) (B : Below A₀ base outer h₀) (D : KtsDicts (frs outer) h₀) (T0 : KtsTurn (frs outer) g₀ h₀) (F : Fr h₀ L s.heap m) (N : News h₀ L s.heap news) (hk : cs.kind = .function) (J : Jars news v) (hx : v.x = x) (hdp : dp + 70 < recursionLimit) (hun : un + 300 < cLine) (DD : Deed news f x 0 u) (W : Word news true u) (hF : v.F = .none) (hf : v.f0 = true) (U1 : ∀ t, Upd v.dx (dictOf (oneD v.ks (.ref v.y) (.bytes #[109] v.t0) .none .none (.int 0 v.tz) .none) 6) (dictOf (oneD v.ks (.ref v.y) (.bytes #[109] v.t0) .none (.int 0 t) (.int 0 v.tz) .none) 6) news (n₁ t)) (U2 : ∀ t u, Upd v.dx (dictOf (oneD v.ks (.ref v.y) (.bytes #[109] v.t0) .none (.int 0 t) (.int 0 v.tz) .none) 6) (dictOf (oneD v.ks (.ref v.y) (.bytes #[109] v.t0) .none (.int 1 u) (.int 0 v.tz) .none) 6) (n₁ t) (n₂ t u)) (U3 : ∀ t u, Upd v.dx (dictOf (oneD v.ks (.ref v.y) (.bytes #[109] v.t0) .none (.int 1 u) (.int 0 v.tz) .none) 6) (dictOf (oneD v.ks (.ref v.y) (.bytes #[109] v.t0) .none .none (.int 0 v.tz) .none) 6) (n₂ t u) n')
    (ret : ∀ h₀' h' tk' ts, KtsTurn (frs outer) g₀ h₀' → Fr h₀' L h' m → News h₀' L h' (n') → Below A₀ base outer h₀' → KtsDicts (frs outer) h₀' → (Mine.hd.heap_39 w.params).In h₀' → Top topProg loose mean mg mb h₀' → Q (.str "failed" ts) { s with heap := h', toks := tk' }) :
    wpAny (model PySem.Challenge.rw_am6027_01.row.prog w) (top none dp un gd cn cs L a ccd cl outer) (PySem.call (.ref 339) [.ref f]) Q E s := by
  w_top off
  w_strict (
    revert XB
    k_fill
    intro XB
    subst hx
    have X := XB.keeps B.stays
    have T := TB.keeps B.stays
    have dcf := J.ocf
    have dcj := J.ocj
    obtain ⟨q9, ck9, co9, cw9, ps9, c9, us9, oc9, tk9, ok9, oo9, ow9, m1, m2, m3, m4, m5, m6, m7, m8, m9⟩ := DD.it
    refine wpAny_call ?_
    k_dflt ktr_enter
    k_steps
    exact ret _ _ _ _ (by k_asm) (by k_asm) (by k_asm) (by k_asm) (by k_asm) (XB.keeps (Below.stays (by k_asm))) (TB.keeps (Below.stays (by k_asm))))
end Mine
end
section
open PySem PySem.W PyProof.Rows PySem.Calls
set_option Elab.async false
set_option maxRecDepth 100000
namespace Mine

local macro_rules | `(tactic| k_room) => `(tactic| ((try simp only [depth_mark, depth_under_make, depth_under_kw, depth_in1, depth_deeper, depth_caller]); (try dsimp only [top]); omega))
local macro_rules | `(tactic| k_units) => `(tactic| ((try simp only [units_in1, units_deeper, Around.mark_units, units_caller]); (try dsimp only [top]); (have hcL9 := cLine_is); omega))
local macro_rules | `(tactic| k_handed) => `(tactic| assumption)
local macro_rules | `(tactic| k_upd) => `(tactic| assumption)
local macro_rules | `(tactic| k_mem) => `(tactic| first | (refine' Jars.x' ?J ?h; (case J => first | assumption | apply_assumption); (case h => exact rfl)) | (refine' Jars.dx' ?J ?h; (case J => first | assumption | apply_assumption); (case h => exact rfl)) | (refine' Jars.y' ?J ?h; (case J => first | assumption | apply_assumption); (case h => exact rfl)) | (refine' Jars.dy' ?J ?h; (case J => first | assumption | apply_assumption); (case h => exact rfl)) | (refine' Jars.ll' ?J ?h; (case J => first | assumption | apply_assumption); (case h => exact rfl)) | (refine' Jars.lc' ?J ?h; (case J => first | assumption | apply_assumption); (case h => exact rfl)) | (refine' Jars.fs' ?J ?h; (case J => first | assumption | apply_assumption); (case h => exact rfl)) | (refine' Jars.fr' ?J ?h; (case J => first | assumption | apply_assumption); (case h => exact rfl)) | (refine' Jars.cf' ?J ?h; (case J => first | assumption | apply_assumption); (case h => exact rfl)) | (refine' Jars.cj' ?J ?h; (case J => first | assumption | apply_assumption); (case h => exact rfl)) | (refine' Jars.fl' ?J ?h; (case J => first | assumption | apply_assumption); (case h => exact rfl)) | (refine' Jars.cs' ?J ?h; (case J => first | assumption | apply_assumption); (case h => exact rfl)) | (refine' Jars.cr' ?J ?h; (case J => first | assumption | apply_assumption); (case h => exact rfl)))
local macro_rules | `(tactic| size_fits) => `(tactic| (simp only [List.size_toArray, PySem.sizeLine_eq]; omega))

local macro_rules | `(tactic| walk_at "eval Name") => `(tactic| (k_here; k_dflt (refine' nameX_F ?N ?c ?m ?d ?_ ?a ?b; (case a => rfl); (case b => rfl); (case N => k_asm); (case c => rfl); (case m => k_mem); (case d => k_asm); k_whole)))
local macro_rules | `(tactic| ktr_room) => `(tactic| ((try simp only [depth_mark, depth_under_make, depth_under_kw, depth_in1, depth_deeper, depth_caller, units_in1, units_deeper, Around.mark_units, units_caller]); (try dsimp only [top]); first | omega | (have hcL9 := cLine_is; omega) | decide))
local macro_rules | `(tactic| ktr_enter) => `(tactic| (refine' enterT ?B ?D ?T0 ?F ?N ?XB ?TB ?kA ?kF ?kK ?ho ?hcd ?hroom ?hbind ?hloc ?_ ?c1 ?c2 ?c3 ?c4; (case kA => exact rfl); (case kF => exact rfl); (case kK => first | assumption | exact rfl); (case B => k_asm); (case D => k_asm); (case T0 => first | assumption | exact KtsTurn.refl); (case F => k_asm); (case N => k_asm); (case XB => k_asm); (case TB => k_asm); (case ho => k_is); (case hcd => k_is); (case hroom => k_room); (case hbind => first | exact BindsTo.of_eq rfl | exact binds_K (by k_in) rfl (by k_is) rfl rfl rfl); (case hloc => exact locs rfl); (case c1 => exact rfl); (case c2 => exact rfl); (case c3 => exact rfl); (case c4 => decide); k_whole; intro g' L' h' FG' F' N' B' D' X' T'; (try dsimp only); (try k_fold)))
local macro_rules | `(tactic| kla_enter) => `(tactic| (refine' enterTL ?B ?D ?T0 ?F ?N ?XB ?TB ?kA ?kF ?kK ?ho ?hcd ?hroom ?hbind ?hloc ?_ ?c1 ?c2 ?c3 ?c4; (case kA => exact rfl); (case kF => exact rfl); (case kK => first | assumption | exact rfl); (case B => k_asm); (case D => k_asm); (case T0 => first | assumption | exact KtsTurn.refl); (case F => k_asm); (case N => k_asm); (case XB => k_asm); (case TB => k_asm); (case ho => k_mem); (case hcd => first | exact jars_codeS (by k_asm) (by k_asm) | exact jars_codeR (by k_asm) (by k_asm)); (case hroom => k_room); (case hbind => exact rfl); (case hloc => exact locs rfl); (case c1 => exact rfl); (case c2 => exact rfl); (case c3 => exact rfl); (case c4 => decide); k_whole; intro g' L' h' FG' F' N' B' D' X' T'; (try dsimp only); (try k_fold)))
local macro_rules | `(tactic| walk_at "LeaveT") => `(tactic| (k_dflt (refine' leaveT_ ?F ?N ?T ?_; (case F => k_asm); (case N => k_asm); (case T => first | assumption | exact KtsTurn.refl); k_whole); intro h₀' T' F' N' B' D'; (try dsimp only)))
local macro_rules | `(tactic| walk_at "subscriptTail Name Constant ref int") => `(tactic| ((with_reducible show wpAny _ _ (subscriptTail _ _ (Value.ref _) (Value.int _ _)) _ _ _); k_dflt (refine' item_fl ?N ?m ?a ?b ?x ?_; (case N => k_asm); (case m => k_mem); (case a => decide); (case b => decide); (case x => rfl); k_whole)))
local macro_rules | `(tactic| walk_at "callWith ref") => `(tactic| (k_here; (show wpAny _ _ (callWith _ (Value.ref (V.fr _)) _ _ _) _ _ _); k_dflt (first
  | (refine' callWith_F ?k1 ?_; (case k1 => exact FnAt.of (by k_asm) (by k_mem)); k_whole)
  | (refine' callWith_F0 ?k1 ?_; (case k1 => exact FnAt.of (by k_asm) (by k_mem)); k_whole; try dsimp only [List.nil_append, List.cons_append]))))
local macro_rules | `(tactic| walk_at "callWith ref") => `(tactic| (k_here; (show wpAny _ _ (callWith _ (Value.ref (V.fs _)) _ _ _) _ _ _); k_dflt (first
  | (refine' callWith_F ?k1 ?_; (case k1 => exact FnAt.of (by k_asm) (by k_mem)); k_whole)
  | (refine' callWith_F0 ?k1 ?_; (case k1 => exact FnAt.of (by k_asm) (by k_mem)); k_whole; try dsimp only [List.nil_append, List.cons_append]))))
local macro_rules | `(tactic| walk_at "getMethod ref") => `(tactic| (k_here; k_dflt (refine' method_shadow ?k1 ?k2 ?k3 ?k4 ?k5 ?k6 ?k7 ?k8 ?k9 ?k10 ?k11 ?_; (case k1 => k_asm); (case k2 => k_asm); (case k3 => k_inst); (case k4 => k_is); (case k5 => k_is); (case k6 => k_is); (case k7 => k_is); (case k8 => k_is); (case k9 => k_is); (case k10 => k_get); (case k11 => first | rfl | k_handed); k_whole)))
local macro_rules | `(tactic| walk_at "leaving ref") => `(tactic| (k_here; first
  | (with_reducible rename RaisedSN _ _ _ _ _ _ _ => rsX; k_dflt (refine' passX ?f ?K ?F ?R ?U ?_; (case R => exact rsX); (case f => exact rfl); (case K => k_asm); (case F => k_asm); (case U => k_asm); k_whole); clear rsX; intro h' R' U'; (try dsimp only at R' U' ⊢); (try k_unfold); (try dsimp only); (try (with_reducible rename RaisedSN _ _ _ _ _ _ _ => rsX; with_reducible rename Heap.UpToSlots _ _ => rsU; (show wpAny _ _ _ _ _ _); k_dflt (refine' exc_of rfl ?FG ?B ?D ?T0 ?T rsX rsU ?_; (case T => assumption); (case FG => k_asm); (case B => k_asm); (case D => k_asm); (case T0 => first | assumption | exact KtsTurn.refl); k_whole); clear rsX rsU; intro h₀' g' T' FG' B' D' R' U'; (try dsimp only))))
  | (k_dflt (refine' leave_raiseS ?k1 ?k0 ?k2 ?k3 ?_; (case k0 => first | assumption | exact Heap.MadeExc.of (by assumption)); (case k2 => assumption); (case k1 => assumption); (case k3 => k_asm); k_whole); intro h' t' S' R' U'; (try dsimp only at S' R' U' ⊢); (replace S' := toSN S'); clear R')))
local macro_rules | `(tactic| kla_enter) => `(tactic| (refine' enterTL ?B ?D ?T0 ?F ?N ?XB ?TB ?kA ?kF ?kK ?ho ?hcd ?hroom ?hbind ?hloc ?_ ?c1 ?c2 ?c3 ?c4; (case kA => exact rfl); (case kF => exact rfl); (case kK => first | assumption | exact rfl); (case B => k_asm); (case D => k_asm); (case T0 => first | assumption | exact KtsTurn.refl); (case F => k_asm); (case N => k_asm); (case XB => k_asm); (case TB => k_asm); (case ho => assumption); (case hcd => exact codeRec_of (by k_asm) (by assumption) (by assumption)); (case hroom => k_room); (case hbind => exact rfl); (case hloc => exact locs rfl); (case c1 => exact rfl); (case c2 => exact rfl); (case c3 => exact rfl); (case c4 => decide); k_whole; intro g' L' h' FG' F' N' B' D' X' T'; (try dsimp only); (try k_fold)))
local macro_rules | `(tactic| walk_at "call ref") => `(tactic| (k_here; k_dflt (refine wpAny_call ?_; kla_enter)))
local macro_rules | `(tactic| k_mem) => `(tactic| assumption)
local macro_rules | `(tactic| walk_at "callWith ref") => `(tactic| (k_here; k_dflt (refine' callWith_F0 ?k1 ?_; (case k1 => exact FnAt.of (by k_asm) (by assumption)); k_whole); (try dsimp only [List.nil_append, List.cons_append])))
local macro_rules | `(tactic| walk_at "noteFrame ref") => `(tactic| (k_here; (with_reducible rename RaisedSN _ _ _ _ _ _ _ => rsX); k_dflt (refine' caughtT (T' := "ArithmeticError") rsX ?F ?K ?U ?XB ?TB ?D ?T0 ?ex ?hv ?hn ?e1 ?e2 ?e3 ?_ ?hk ?hx ?hd ?hE; (case F => k_asm); (case U => k_asm); (case K => k_asm); (case XB => k_asm); (case TB => k_asm); (case D => k_asm); (case T0 => first | assumption | exact KtsTurn.refl); (case ex => k_is); (case hv => exact PyProof.Rows.Boot.«ArithmeticError»); (case hn => decide); (case e1 => exact sub_ArithB); (case e2 => exact notTuple_Arith); (case e3 => exact sub_Arith2); (case hk => exact rfl); (case hx => exact rfl); (case hd => decide); (case hE => passes_own); k_whole); clear rsX; intro h' g' oe' T' oT' T1' F' N' xa' ne' B' D' X' P'; (replace N' := news_tl3 N'); clear xa' ne'; (try dsimp only)))
local macro_rules | `(tactic| walk_at "call ref") => `(tactic| (k_here; k_dflt (show wpAny _ _ (PySem.call (Value.ref 275) [_, _]) _ _ _); k_dflt (refine' flag_on0 ?XB ?TB ?B ?D ?T0 ?F ?N ?hk ?J ?hx ?dp ?un ?W ?hF ?hf ?hz ?U1 ?U ?_; (case B => k_asm); (case D => k_asm); (case T0 => first | assumption | exact KtsTurn.refl); (case F => k_asm); (case N => k_asm); (case XB => k_asm); (case TB => k_asm); (case hk => first | assumption | exact rfl); (case J => first | k_asm | apply_assumption); (case hx => exact rfl); (case dp => ktr_room); (case un => ktr_room); (case W => first | assumption | apply_assumption); (case hF => first | assumption | exact rfl); (case hf => first | assumption | exact rfl); (case hz => assumption); (case U1 => first | assumption | (intro _; apply_assumption) | apply_assumption); (case U => first | assumption | (intro _; apply_assumption) | apply_assumption); k_whole); intro h₀' h' tk' T' F' N' B' D' X' T2'; (try dsimp only)))
local macro_rules | `(tactic| walk_at "call ref") => `(tactic| (k_here; k_dflt (show wpAny _ _ (PySem.call (Value.ref 275) [_, _]) _ _ _); k_dflt (refine' flag_no0 ?XB ?TB ?B ?D ?T0 ?F ?N ?hk ?J ?hx ?dp ?un ?W ?hF ?hf ?_; (case B => k_asm); (case D => k_asm); (case T0 => first | assumption | exact KtsTurn.refl); (case F => k_asm); (case N => k_asm); (case XB => k_asm); (case TB => k_asm); (case hk => first | assumption | exact rfl); (case J => first | k_asm | apply_assumption); (case hx => exact rfl); (case dp => ktr_room); (case un => ktr_room); (case W => first | assumption | apply_assumption); (case hF => first | assumption | exact rfl); (case hf => first | assumption | exact rfl); k_whole); intro h₀' g' h' tk' e' T' FG' B' D' R' U'; (try dsimp only); (try k_unfold); (try dsimp only)))
local macro_rules | `(tactic| walk_at "call ref") => `(tactic| (k_here; k_dflt (show wpAny _ _ (PySem.call (Value.ref 275) [_, _]) _ _ _); k_dflt (refine' flag_on1 ?XB ?TB ?B ?D ?T0 ?F ?N ?hk ?J ?hx ?dp ?un ?W ?hF ?U ?_; (case B => k_asm); (case D => k_asm); (case T0 => first | assumption | exact KtsTurn.refl); (case F => k_asm); (case N => k_asm); (case XB => k_asm); (case TB => k_asm); (case hk => first | assumption | exact rfl); (case J => first | k_asm | apply_assumption); (case hx => exact rfl); (case dp => ktr_room); (case un => ktr_room); (case W => first | assumption | apply_assumption); (case hF => first | assumption | exact rfl); (case U => first | assumption | (intro _; apply_assumption) | apply_assumption); k_whole); intro h₀' h' tk' T' F' N' B' D' X' T2'; (try dsimp only)))
local macro_rules | `(tactic| walk_at "call ref") => `(tactic| (k_here; k_dflt (show wpAny _ _ (PySem.call (Value.ref 275) [_, _]) _ _ _); k_dflt (refine' flag_on2 ?XB ?TB ?B ?D ?T0 ?F ?N ?hk ?J ?hx ?dp ?un ?W ?hF ?hf ?hz ?U1 ?U ?_; (case B => k_asm); (case D => k_asm); (case T0 => first | assumption | exact KtsTurn.refl); (case F => k_asm); (case N => k_asm); (case XB => k_asm); (case TB => k_asm); (case hk => first | assumption | exact rfl); (case J => first | k_asm | apply_assumption); (case hx => exact rfl); (case dp => ktr_room); (case un => ktr_room); (case W => first | assumption | apply_assumption); (case hF => first | assumption | exact rfl); (case hf => first | assumption | exact rfl); (case hz => assumption); (case U1 => first | assumption | (intro _; apply_assumption) | apply_assumption); (case U => first | assumption | (intro _; apply_assumption) | apply_assumption); k_whole); intro h₀' h' tk' T' F' N' B' D' X' T2'; (try dsimp only)))
local macro_rules | `(tactic| walk_at "call ref") => `(tactic| (k_here; k_dflt (show wpAny _ _ (PySem.call (Value.ref 275) [_, _]) _ _ _); k_dflt (refine' flag_no2 ?XB ?TB ?B ?D ?T0 ?F ?N ?hk ?J ?hx ?dp ?un ?W ?hF ?hf ?_; (case B => k_asm); (case D => k_asm); (case T0 => first | assumption | exact KtsTurn.refl); (case F => k_asm); (case N => k_asm); (case XB => k_asm); (case TB => k_asm); (case hk => first | assumption | exact rfl); (case J => first | k_asm | apply_assumption); (case hx => exact rfl); (case dp => ktr_room); (case un => ktr_room); (case W => first | assumption | apply_assumption); (case hF => first | assumption | exact rfl); (case hf => first | assumption | exact rfl); k_whole); intro h₀' g' h' tk' e' T' FG' B' D' R' U'; (try dsimp only); (try k_unfold); (try dsimp only)))
local macro_rules | `(tactic| walk_at "call ref") => `(tactic| (k_here; k_dflt (show wpAny _ _ (PySem.call (Value.ref 275) [_, _]) _ _ _); k_dflt (refine' flag_on3 ?XB ?TB ?B ?D ?T0 ?F ?N ?hk ?J ?hx ?dp ?un ?W ?hF ?U ?_; (case B => k_asm); (case D => k_asm); (case T0 => first | assumption | exact KtsTurn.refl); (case F => k_asm); (case N => k_asm); (case XB => k_asm); (case TB => k_asm); (case hk => first | assumption | exact rfl); (case J => first | k_asm | apply_assumption); (case hx => exact rfl); (case dp => ktr_room); (case un => ktr_room); (case W => first | assumption | apply_assumption); (case hF => first | assumption | exact rfl); (case U => first | assumption | (intro _; apply_assumption) | apply_assumption); k_whole); intro h₀' h' tk' T' F' N' B' D' X' T2'; (try dsimp only)))

set_option maxHeartbeats 8000000 in
theorem t7_on0 {w : World} {loose : List Str} {mean : ExcName → Option Value} {mg mb : Str → Option Value} {dp un : Nat} {gd : Option (List Code)} {cn : Str} {cs : Scope} {a : Addr} {ccd : Value} {cl : List (Str × Addr)} {outer : List Env} {A₀ : Around} {base h₀ g₀ : Heap} {L : Addr} {m : Str → Option Value}
    {news : List (Addr × Obj)} {s : Shared} {Q E : Value → Shared → Prop} {v : V} {x : Addr} {n₁ : List (Addr × Obj)} {n' : Tok → List (Addr × Obj)} {u : Value} {tf : Tok} {f : Addr}
    (XB : (Mine.hd.heap_39 w.params).In base) (TB : Top topProg loose mean mg mb base) (B : Below A₀ base outer h₀) (D : KtsDicts (frs outer) h₀) (T0 : KtsTurn (frs outer) g₀ h₀) (F : Fr h₀ L s.heap m) (N : News h₀ L s.heap news) (hk : cs.kind = .function) (J : Jars news v) (hx : v.x = x) (hdp : dp + 70 < recursionLimit) (hun : un + 300 < cLine) (DD : Deed news f x 7 u) (W : Word news true u) (hF : v.F = .int 0 tf) (hf : v.f1 = false) (hz : v.vc.length ≤ 1000) (U1 : Upd v.lc (PySem.W.listOf v.vc.toArray v.nc) (PySem.W.listOf (v.vc.toArray.push (.bytes #[109] v.t0)) (v.nc + 1)) news n₁) (U : ∀ t, Upd v.dx (dictOf (oneD v.ks (.ref v.y) (.bytes #[109] v.t0) .none v.F (.int 0 v.tz) .none) 6) (dictOf (oneD v.ks (.ref v.y) (.bytes #[109] v.t0) .none (.int 1 t) (.int 0 v.tz) .none) 6) n₁ (n' t))
    (ret : ∀ h₀' h' tk' ts t, KtsTurn (frs outer) g₀ h₀' → Fr h₀' L h' m → News h₀' L h' (n' t) → Below A₀ base outer h₀' → KtsDicts (frs outer) h₀' → (Mine.hd.heap_39 w.params).In h₀' → Top topProg loose mean mg mb h₀' → Q (.str "done" ts) { s with heap := h', toks := tk' }) :
    wpAny (model PySem.Challenge.rw_am6027_01.row.prog w) (top none dp un gd cn cs L a ccd cl outer) (PySem.call (.ref 339) [.ref f]) Q E s := by
  w_top off
  w_strict (
    revert XB
    k_fill
    intro XB
    subst hx
    have X := XB.keeps B.stays
    have T := TB.keeps B.stays
    have dcf := J.ocf
    have dcj := J.ocj
    obtain ⟨q9, ck9, co9, cw9, ps9, c9, us9, oc9, tk9, ok9, oo9, ow9, m1, m2, m3, m4, m5, m6, m7, m8, m9⟩ := DD.it
    refine wpAny_call ?_
    k_dflt ktr_enter
    k_steps
    exact ret _ _ _ _ _ (by k_asm) (by k_asm) (by k_asm) (by k_asm) (by k_asm) (XB.keeps (Below.stays (by k_asm))) (TB.keeps (Below.stays (by k_asm))))

set_option maxHeartbeats 8000000 in
theorem t7_no0 {w : World} {loose : List Str} {mean : ExcName → Option Value} {mg mb : Str → Option Value} {dp un : Nat} {gd : Option (List Code)} {cn : Str} {cs : Scope} {a : Addr} {ccd : Value} {cl : List (Str × Addr)} {outer : List Env} {A₀ : Around} {base h₀ g₀ : Heap} {L : Addr} {m : Str → Option Value}
    {news : List (Addr × Obj)} {s : Shared} {Q E : Value → Shared → Prop} {v : V} {x : Addr} {u : Value} {tf : Tok} {f : Addr}
    (XB : (Mine.hd.heap_39 w.params).In base) (TB : Top topProg loose mean mg mb base) (B : Below A₀ base outer h₀) (D : KtsDicts (frs outer) h₀) (T0 : KtsTurn (frs outer) g₀ h₀) (F : Fr h₀ L s.heap m) (N : News h₀ L s.heap news) (hk : cs.kind = .function) (J : Jars news v) (hx : v.x = x) (hdp : dp + 70 < recursionLimit) (hun : un + 300 < cLine) (DD : Deed news f x 7 u) (W : Word news true u) (hF : v.F = .int 0 tf) (hf : v.f1 = true)
    (ret : ∀ h₀' h' tk' ts, KtsTurn (frs outer) g₀ h₀' → Fr h₀' L h' m → News h₀' L h' (news) → Below A₀ base outer h₀' → KtsDicts (frs outer) h₀' → (Mine.hd.heap_39 w.params).In h₀' → Top topProg loose mean mg mb h₀' → Q (.str "failed" ts) { s with heap := h', toks := tk' }) :
    wpAny (model PySem.Challenge.rw_am6027_01.row.prog w) (top none dp un gd cn cs L a ccd cl outer) (PySem.call (.ref 339) [.ref f]) Q E s := by
  w_top off
  w_strict (
    revert XB
    k_fill
    intro XB
    subst hx
    have X := XB.keeps B.stays
    have T := TB.keeps B.stays
    have dcf := J.ocf
    have dcj := J.ocj
    obtain ⟨q9, ck9, co9, cw9, ps9, c9, us9, oc9, tk9, ok9, oo9, ow9, m1, m2, m3, m4, m5, m6, m7, m8, m9⟩ := DD.it
    refine wpAny_call ?_
    k_dflt ktr_enter
    k_steps
    exact ret _ _ _ _ (by k_asm) (by k_asm) (by k_asm) (by k_asm) (by k_asm) (XB.keeps (Below.stays (by k_asm))) (TB.keeps (Below.stays (by k_asm))))

set_option maxHeartbeats 8000000 in
theorem t7_on1 {w : World} {loose : List Str} {mean : ExcName → Option Value} {mg mb : Str → Option Value} {dp un : Nat} {gd : Option (List Code)} {cn : Str} {cs : Scope} {a : Addr} {ccd : Value} {cl : List (Str × Addr)} {outer : List Env} {A₀ : Around} {base h₀ g₀ : Heap} {L : Addr} {m : Str → Option Value}
    {news : List (Addr × Obj)} {s : Shared} {Q E : Value → Shared → Prop} {v : V} {x : Addr} {n' : Tok → List (Addr × Obj)} {u : Value} {tf : Tok} {f : Addr}
    (XB : (Mine.hd.heap_39 w.params).In base) (TB : Top topProg loose mean mg mb base) (B : Below A₀ base outer h₀) (D : KtsDicts (frs outer) h₀) (T0 : KtsTurn (frs outer) g₀ h₀) (F : Fr h₀ L s.heap m) (N : News h₀ L s.heap news) (hk : cs.kind = .function) (J : Jars news v) (hx : v.x = x) (hdp : dp + 70 < recursionLimit) (hun : un + 300 < cLine) (DD : Deed news f x 7 u) (W : Word news true u) (hF : v.F = .int 1 tf) (U : ∀ t, Upd v.dx (dictOf (oneD v.ks (.ref v.y) (.bytes #[109] v.t0) .none v.F (.int 0 v.tz) .none) 6) (dictOf (oneD v.ks (.ref v.y) (.bytes #[109] v.t0) .none (.int 1 t) (.int 0 v.tz) .none) 6) news (n' t))
    (ret : ∀ h₀' h' tk' ts t, KtsTurn (frs outer) g₀ h₀' → Fr h₀' L h' m → News h₀' L h' (n' t) → Below A₀ base outer h₀' → KtsDicts (frs outer) h₀' → (Mine.hd.heap_39 w.params).In h₀' → Top topProg loose mean mg mb h₀' → Q (.str "done" ts) { s with heap := h', toks := tk' }) :
    wpAny (model PySem.Challenge.rw_am6027_01.row.prog w) (top none dp un gd cn cs L a ccd cl outer) (PySem.call (.ref 339) [.ref f]) Q E s := by
  w_top off
  w_strict (
    revert XB
    k_fill
    intro XB
    subst hx
    have X := XB.keeps B.stays
    have T := TB.keeps B.stays
    have dcf := J.ocf
    have dcj := J.ocj
    obtain ⟨q9, ck9, co9, cw9, ps9, c9, us9, oc9, tk9, ok9, oo9, ow9, m1, m2, m3, m4, m5, m6, m7, m8, m9⟩ := DD.it
    refine wpAny_call ?_
    k_dflt ktr_enter
    k_steps
    exact ret _ _ _ _ _ (by k_asm) (by k_asm) (by k_asm) (by k_asm) (by k_asm) (XB.keeps (Below.stays (by k_asm))) (TB.keeps (Below.stays (by k_asm))))

set_option maxHeartbeats 8000000 in
theorem t7_on2 {w : World} {loose : List Str} {mean : ExcName → Option Value} {mg mb : Str → Option Value} {dp un : Nat} {gd : Option (List Code)} {cn : Str} {cs : Scope} {a : Addr} {ccd : Value} {cl : List (Str × Addr)} {outer : List Env} {A₀ : Around} {base h₀ g₀ : Heap} {L : Addr} {m : Str → Option Value}
    {news : List (Addr × Obj)} {s : Shared} {Q E : Value → Shared → Prop} {v : V} {x : Addr} {n₁ : List (Addr × Obj)} {n' : Tok → List (Addr × Obj)} {u : Value} {tf : Tok} {f : Addr}
    (XB : (Mine.hd.heap_39 w.params).In base) (TB : Top topProg loose mean mg mb base) (B : Below A₀ base outer h₀) (D : KtsDicts (frs outer) h₀) (T0 : KtsTurn (frs outer) g₀ h₀) (F : Fr h₀ L s.heap m) (N : News h₀ L s.heap news) (hk : cs.kind = .function) (J : Jars news v) (hx : v.x = x) (hdp : dp + 70 < recursionLimit) (hun : un + 300 < cLine) (DD : Deed news f x 7 u) (W : Word news true u) (hF : v.F = .int 2 tf) (hf : v.f1 = false) (hz : v.vc.length ≤ 1000) (U1 : Upd v.lc (PySem.W.listOf v.vc.toArray v.nc) (PySem.W.listOf (v.vc.toArray.push (.bytes #[109] v.t0)) (v.nc + 1)) news n₁) (U : ∀ t, Upd v.dx (dictOf (oneD v.ks (.ref v.y) (.bytes #[109] v.t0) .none v.F (.int 0 v.tz) .none) 6) (dictOf (oneD v.ks (.ref v.y) (.bytes #[109] v.t0) .none (.int 3 t) (.int 0 v.tz) .none) 6) n₁ (n' t))
    (ret : ∀ h₀' h' tk' ts t, KtsTurn (frs outer) g₀ h₀' → Fr h₀' L h' m → News h₀' L h' (n' t) → Below A₀ base outer h₀' → KtsDicts (frs outer) h₀' → (Mine.hd.heap_39 w.params).In h₀' → Top topProg loose mean mg mb h₀' → Q (.str "done" ts) { s with heap := h', toks := tk' }) :
    wpAny (model PySem.Challenge.rw_am6027_01.row.prog w) (top none dp un gd cn cs L a ccd cl outer) (PySem.call (.ref 339) [.ref f]) Q E s := by
  w_top off
  w_strict (
    revert XB
    k_fill
    intro XB
    subst hx
    have X := XB.keeps B.stays
    have T := TB.keeps B.stays
    have dcf := J.ocf
    have dcj := J.ocj
    obtain ⟨q9, ck9, co9, cw9, ps9, c9, us9, oc9, tk9, ok9, oo9, ow9, m1, m2, m3, m4, m5, m6, m7, m8, m9⟩ := DD.it
    refine wpAny_call ?_
    k_dflt ktr_enter
    k_steps
    exact ret _ _ _ _ _ (by k_asm) (by k_asm) (by k_asm) (by k_asm) (by k_asm) (XB.keeps (Below.stays (by k_asm))) (TB.keeps (Below.stays (by k_asm))))

set_option maxHeartbeats 8000000 in
theorem t7_no2 {w : World} {loose : List Str} {mean : ExcName → Option Value} {mg mb : Str → Option Value} {dp un : Nat} {gd : Option (List Code)} {cn : Str} {cs : Scope} {a : Addr} {ccd : Value} {cl : List (Str × Addr)} {outer : List Env} {A₀ : Around} {base h₀ g₀ : Heap} {L : Addr} {m : Str → Option Value}
    {news : List (Addr × Obj)} {s : Shared} {Q E : Value → Shared → Prop} {v : V} {x : Addr} {u : Value} {tf : Tok} {f : Addr}
    (XB : (Mine.hd.heap_39 w.params).In base) (TB : Top topProg loose mean mg mb base) (B : Below A₀ base outer h₀) (D : KtsDicts (frs outer) h₀) (T0 : KtsTurn (frs outer) g₀ h₀) (F : Fr h₀ L s.heap m) (N : News h₀ L s.heap news) (hk : cs.kind = .function) (J : Jars news v) (hx : v.x = x) (hdp : dp + 70 < recursionLimit) (hun : un + 300 < cLine) (DD : Deed news f x 7 u) (W : Word news true u) (hF : v.F = .int 2 tf) (hf : v.f1 = true)
    (ret : ∀ h₀' h' tk' ts, KtsTurn (frs outer) g₀ h₀' → Fr h₀' L h' m → News h₀' L h' (news) → Below A₀ base outer h₀' → KtsDicts (frs outer) h₀' → (Mine.hd.heap_39 w.params).In h₀' → Top topProg loose mean mg mb h₀' → Q (.str "failed" ts) { s with heap := h', toks := tk' }) :
    wpAny (model PySem.Challenge.rw_am6027_01.row.prog w) (top none dp un gd cn cs L a ccd cl outer) (PySem.call (.ref 339) [.ref f]) Q E s := by
  w_top off
  w_strict (
    revert XB
    k_fill
    intro XB
    subst hx
    have X := XB.keeps B.stays
    have T := TB.keeps B.stays
    have dcf := J.ocf
    have dcj := J.ocj
    obtain ⟨q9, ck9, co9, cw9, ps9, c9, us9, oc9, tk9, ok9, oo9, ow9, m1, m2, m3, m4, m5, m6, m7, m8, m9⟩ := DD.it
    refine wpAny_call ?_
    k_dflt ktr_enter
    k_steps
    exact ret _ _ _ _ (by k_asm) (by k_asm) (by k_asm) (by k_asm) (by k_asm) (XB.keeps (Below.stays (by k_asm))) (TB.keeps (Below.stays (by k_asm))))

set_option maxHeartbeats 8000000 in
theorem t7_on3 {w : World} {loose : List Str} {mean : ExcName → Option Value} {mg mb : Str → Option Value} {dp un : Nat} {gd : Option (List Code)} {cn : Str} {cs : Scope} {a : Addr} {ccd : Value} {cl : List (Str × Addr)} {outer : List Env} {A₀ : Around} {base h₀ g₀ : Heap} {L : Addr} {m : Str → Option Value}
    {news : List (Addr × Obj)} {s : Shared} {Q E : Value → Shared → Prop} {v : V} {x : Addr} {n' : Tok → List (Addr × Obj)} {u : Value} {tf : Tok} {f : Addr}
    (XB : (Mine.hd.heap_39 w.params).In base) (TB : Top topProg loose mean mg mb base) (B : Below A₀ base outer h₀) (D : KtsDicts (frs outer) h₀) (T0 : KtsTurn (frs outer) g₀ h₀) (F : Fr h₀ L s.heap m) (N : News h₀ L s.heap news) (hk : cs.kind = .function) (J : Jars news v) (hx : v.x = x) (hdp : dp + 70 < recursionLimit) (hun : un + 300 < cLine) (DD : Deed news f x 7 u) (W : Word news true u) (hF : v.F = .int 3 tf) (U : ∀ t, Upd v.dx (dictOf (oneD v.ks (.ref v.y) (.bytes #[109] v.t0) .none v.F (.int 0 v.tz) .none) 6) (dictOf (oneD v.ks (.ref v.y) (.bytes #[109] v.t0) .none (.int 3 t) (.int 0 v.tz) .none) 6) news (n' t))
    (ret : ∀ h₀' h' tk' ts t, KtsTurn (frs outer) g₀ h₀' → Fr h₀' L h' m → News h₀' L h' (n' t) → Below A₀ base outer h₀' → KtsDicts (frs outer) h₀' → (Mine.hd.heap_39 w.params).In h₀' → Top topProg loose mean mg mb h₀' → Q (.str "done" ts) { s with heap := h', toks := tk' }) :
    wpAny (model PySem.Challenge.rw_am6027_01.row.prog w) (top none dp un gd cn cs L a ccd cl outer) (PySem.call (.ref 339) [.ref f]) Q E s := by
  w_top off
  w_strict (
    revert XB
    k_fill
    intro XB
    subst hx
    have X := XB.keeps B.stays
    have T := TB.keeps B.stays
    have dcf := J.ocf
    have dcj := J.ocj
    obtain ⟨q9, ck9, co9, cw9, ps9, c9, us9, oc9, tk9, ok9, oo9, ow9, m1, m2, m3, m4, m5, m6, m7, m8, m9⟩ := DD.it
    refine wpAny_call ?_
    k_dflt ktr_enter
    k_steps
    exact ret _ _ _ _ _ (by k_asm) (by k_asm) (by k_asm) (by k_asm) (by k_asm) (XB.keeps (Below.stays (by k_asm))) (TB.keeps (Below.stays (by k_asm))))
local macro_rules | `(tactic| walk_at "call ref") => `(tactic| (k_here; k_dflt (show wpAny _ _ (PySem.call (Value.ref 268) [_]) _ _ _); k_dflt (refine' reg_ok ?XB ?TB ?B ?D ?T0 ?F ?N ?hk ?J ?hx ?dp ?un ?hf ?hz ?U ?_; (case B => k_asm); (case D => k_asm); (case T0 => first | assumption | exact KtsTurn.refl); (case F => k_asm); (case N => k_asm); (case XB => k_asm); (case TB => k_asm); (case hk => first | assumption | exact rfl); (case J => first | k_asm | apply_assumption); (case hx => exact rfl); (case dp => ktr_room); (case un => ktr_room); (case hf => assumption); (case hz => assumption); (case U => assumption); k_whole); intro h₀' h' tk' T' F' N' B' D' X' T2'; (try dsimp only)))
local macro_rules | `(tactic| walk_at "call ref") => `(tactic| (k_here; k_dflt (show wpAny _ _ (PySem.call (Value.ref 268) [_]) _ _ _); k_dflt (refine' reg_no ?XB ?TB ?B ?D ?T0 ?F ?N ?hk ?J ?hx ?dp ?un ?hf ?_; (case B => k_asm); (case D => k_asm); (case T0 => first | assumption | exact KtsTurn.refl); (case F => k_asm); (case N => k_asm); (case XB => k_asm); (case TB => k_asm); (case hk => first | assumption | exact rfl); (case J => first | k_asm | apply_assumption); (case hx => exact rfl); (case dp => ktr_room); (case un => ktr_room); (case hf => assumption); k_whole); intro h₀' g' h' tk' e' T' FG' B' D' R' U'; (try dsimp only); (try k_unfold); (try dsimp only)))

set_option maxHeartbeats 8000000 in
theorem tr_ok {w : World} {loose : List Str} {mean : ExcName → Option Value} {mg mb : Str → Option Value} {dp un : Nat} {gd : Option (List Code)} {cn : Str} {cs : Scope} {a : Addr} {ccd : Value} {cl : List (Str × Addr)} {outer : List Env} {A₀ : Around} {base h₀ g₀ : Heap} {L : Addr} {m : Str → Option Value}
    {news : List (Addr × Obj)} {s : Shared} {Q E : Value → Shared → Prop} {v : V} {x : Addr} {n' : List (Addr × Obj)} {f : Addr}
    (XB : (Mine.hd.heap_39 w.params).In base) (TB : Top topProg loose mean mg mb base) (B : Below A₀ base outer h₀) (D : KtsDicts (frs outer) h₀) (T0 : KtsTurn (frs outer) g₀ h₀) (F : Fr h₀ L s.heap m) (N : News h₀ L s.heap news) (hk : cs.kind = .function) (J : Jars news v) (hx : v.x = x) (hdp : dp + 70 < recursionLimit) (hun : un + 300 < cLine) (DD : RegDeed news f x) (hf : v.f1 = false) (hz : v.vc.length ≤ 1000) (U : Upd v.lc (PySem.W.listOf v.vc.toArray v.nc) (PySem.W.listOf (v.vc.toArray.push (.bytes #[109] v.t0)) (v.nc + 1)) news n')
    (ret : ∀ h₀' h' tk' ts, KtsTurn (frs outer) g₀ h₀' → Fr h₀' L h' m → News h₀' L h' (n') → Below A₀ base outer h₀' → KtsDicts (frs outer) h₀' → (Mine.hd.heap_39 w.params).In h₀' → Top topProg loose mean mg mb h₀' → Q (.str "done" ts) { s with heap := h', toks := tk' }) :
    wpAny (model PySem.Challenge.rw_am6027_01.row.prog w) (top none dp un gd cn cs L a ccd cl outer) (PySem.call (.ref 339) [.ref f]) Q E s := by
  w_top off
  w_strict (
    revert XB
    k_fill
    intro XB
    subst hx
    have X := XB.keeps B.stays
    have T := TB.keeps B.stays
    have dcf := J.ocf
    have dcj := J.ocj
    obtain ⟨q9, co9, ps9, c9, us9, oc9, oo9, m1, m2, m3, m5, m8⟩ := DD.it
    refine wpAny_call ?_
    k_dflt ktr_enter
    k_steps
    exact ret _ _ _ _ (by k_asm) (by k_asm) (by k_asm) (by k_asm) (by k_asm) (XB.keeps (Below.stays (by k_asm))) (TB.keeps (Below.stays (by k_asm))))

set_option maxHeartbeats 8000000 in
theorem tr_no {w : World} {loose : List Str} {mean : ExcName → Option Value} {mg mb : Str → Option Value} {dp un : Nat} {gd : Option (List Code)} {cn : Str} {cs : Scope} {a : Addr} {ccd : Value} {cl : List (Str × Addr)} {outer : List Env} {A₀ : Around} {base h₀ g₀ : Heap} {L : Addr} {m : Str → Option Value}
    {news : List (Addr × Obj)} {s : Shared} {Q E : Value → Shared → Prop} {v : V} {x : Addr} {f : Addr}
    (XB : (Mine.hd.heap_39 w.params).In base) (TB : Top topProg loose mean mg mb base) (B : Below A₀ base outer h₀) (D : KtsDicts (frs outer) h₀) (T0 : KtsTurn (frs outer) g₀ h₀) (F : Fr h₀ L s.heap m) (N : News h₀ L s.heap news) (hk : cs.kind = .function) (J : Jars news v) (hx : v.x = x) (hdp : dp + 70 < recursionLimit) (hun : un + 300 < cLine) (DD : RegDeed news f x) (hf : v.f1 = true)
    (ret : ∀ h₀' h' tk' ts, KtsTurn (frs outer) g₀ h₀' → Fr h₀' L h' m → News h₀' L h' (news) → Below A₀ base outer h₀' → KtsDicts (frs outer) h₀' → (Mine.hd.heap_39 w.params).In h₀' → Top topProg loose mean mg mb h₀' → Q (.str "failed" ts) { s with heap := h', toks := tk' }) :
    wpAny (model PySem.Challenge.rw_am6027_01.row.prog w) (top none dp un gd cn cs L a ccd cl outer) (PySem.call (.ref 339) [.ref f]) Q E s := by
  w_top off
  w_strict (
    revert XB
    k_fill
    intro XB
    subst hx
    have X := XB.keeps B.stays
    have T := TB.keeps B.stays
    have dcf := J.ocf
    have dcj := J.ocj
    obtain ⟨q9, co9, ps9, c9, us9, oc9, oo9, m1, m2, m3, m5, m8⟩ := DD.it
    refine wpAny_call ?_
    k_dflt ktr_enter
    k_steps
    exact ret _ _ _ _ (by k_asm) (by k_asm) (by k_asm) (by k_asm) (by k_asm) (XB.keeps (Below.stays (by k_asm))) (TB.keeps (Below.stays (by k_asm))))
end Mine
end
section
open PySem PySem.W PyProof.Rows PySem.Calls
set_option Elab.async false
set_option maxRecDepth 100000
namespace Mine
/-- what the law's own frame reaches beside the jar's things -/
structure U where
  ck : Addr
  co : Addr
  cw : Addr
  la : Addr
  lt : Addr
  ok : Obj
  oo : Obj
  ow : Obj
  va : List Value
  vt : List Value
  na : Nat
  nt : Nat
  ps : Array Value
  rest : List (Addr × Obj)
abbrev rows (v : V) (u : U) : List (Addr × Obj) :=
  [(v.x, instObj 293 v.dx), (v.dx, dictOf (oneD v.ks (.ref v.y) (.bytes #[109] v.t0) .none v.F (.int 0 v.tz) .none) 6), (v.y, instObj 73 v.dy), (v.dy, dictOf (jarD v.jk (.ref v.ll) (.ref v.lc) (.ref v.fs) (.ref v.fr)) 4),
   (v.ll, PySem.W.listOf v.vl.toArray v.nl), (v.lc, PySem.W.listOf v.vc.toArray v.nc),
   (v.fs, kla_obj "<lambda>" v.qs (lamArgs 298) (lamBody "_law_load" 298) (lamScope "_law_load") [("jar", v.cj), ("fails", v.cf)] v.ps v.cs v.us), (v.cs, v.os),
   (v.fr, kla_obj "<lambda>" v.qr (lamArgs 299) (lamBody "_law_tell" 299) (lamScope "_law_tell") [("jar", v.cj), ("fails", v.cf)] v.pr v.cr v.ur), (v.cr, v.or),
   (v.cf, v.ocf), (v.cj, v.ocj), (v.fl, PySem.W.listOf #[.bool v.f0, .bool v.f1] v.nf),
   (u.ck, u.ok), (u.co, u.oo), (u.cw, u.ow), (u.la, PySem.W.listOf u.va.toArray u.na), (u.lt, PySem.W.listOf u.vt.toArray u.nt), (348, tabObj u.ps)]
abbrev adrs (v : V) (u : U) : List Addr := [v.x, v.dx, v.y, v.dy, v.ll, v.lc, v.fs, v.cs, v.fr, v.cr, v.cf, v.cj, v.fl, u.ck, u.co, u.cw, u.la, u.lt, 348]
structure Led (news : List (Addr × Obj)) (v : V) (u : U) : Prop where
  mem : ∀ p ∈ rows v u, p ∈ news
  nd : (news.map (·.1)).Nodup
  na : (adrs v u).Nodup
/-- what does not turn -/
structure Stat (v : V) (u : U) : Prop where
  os : ∃ vs t, v.os.data = .fields vs ∧ vs[1]? = some (.str v.qs t)
  or : ∃ vs t, v.or.data = .fields vs ∧ vs[1]? = some (.str v.qr t)
  ocf : v.ocf.data = .cell (some (.ref v.fl))
  ocj : v.ocj.data = .cell (some (.ref v.y))
  oo : u.oo.data = .cell (some (.ref v.x))

theorem nodup_at {l : List Addr} (h : l.Nodup) {i j : Nat} {a b : Addr} (hi : l[i]? = some a) (hj : l[j]? = some b) (hne : i ≠ j) : a ≠ b := fun e => by
  subst e
  obtain ⟨hi', e1⟩ := List.getElem?_eq_some_iff.mp hi
  obtain ⟨hj', e2⟩ := List.getElem?_eq_some_iff.mp hj
  rcases Nat.lt_or_gt_of_ne hne with z | z
  · exact List.pairwise_iff_getElem.mp h i j hi' hj' z (e1.trans e2.symm)
  · exact List.pairwise_iff_getElem.mp h j i hj' hi' z (e2.trans e1.symm)
theorem Led.jars {news : List (Addr × Obj)} {v : V} {u : U} (D : Led news v u) (S : Stat v u) : Jars news v where
  x := D.mem _ (by simp [rows])
  dx := D.mem _ (by simp [rows])
  y := D.mem _ (by simp [rows])
  dy := D.mem _ (by simp [rows])
  ll := D.mem _ (by simp [rows])
  lc := D.mem _ (by simp [rows])
  fs := D.mem _ (by simp [rows])
  cs := D.mem _ (by simp [rows])
  fr := D.mem _ (by simp [rows])
  cr := D.mem _ (by simp [rows])
  cf := D.mem _ (by simp [rows])
  cj := D.mem _ (by simp [rows])
  fl := D.mem _ (by simp [rows])
  os := S.os
  or := S.or
  ocf := S.ocf
  ocj := S.ocj
  ne1 := nodup_at D.na (i := 4) (j := 5) rfl rfl (by decide)
  ne2 := nodup_at D.na (i := 4) (j := 12) rfl rfl (by decide)
  ne3 := nodup_at D.na (i := 5) (j := 12) rfl rfl (by decide)

def put (d : Addr) (o' : Obj) (l : List (Addr × Obj)) : List (Addr × Obj) := l.map fun q => if q.1 = d then (d, o') else q
theorem put_none {d : Addr} {o' : Obj} : ∀ {l : List (Addr × Obj)}, (∀ p ∈ l, p.1 ≠ d) → put d o' l = l
  | [], _ => rfl
  | p :: r, h => by
    show (if p.1 = d then (d, o') else p) :: put d o' r = p :: r
    rw [if_neg (h p (.head _)), put_none fun q hq => h q (.tail _ hq)]
theorem put_upd {d : Addr} {o o' : Obj} : ∀ {l : List (Addr × Obj)}, (l.map (·.1)).Nodup → (d, o) ∈ l → Upd d o o' l (put d o' l)
  | p :: r, nd, h => by
    have nd' := List.nodup_cons.mp nd
    show Upd d o o' (p :: r) ((if p.1 = d then (d, o') else p) :: put d o' r)
    rcases List.mem_cons.mp h with e | h
    · subst e
      have z : ∀ q ∈ r, q.1 ≠ d := fun q hq e => nd'.1 (List.mem_map.mpr ⟨q, hq, e⟩)
      rw [if_pos rfl, put_none z]
      exact .head z
    · have n : p.1 ≠ d := fun e => nd'.1 (List.mem_map.mpr ⟨(d, o), h, e.symm⟩)
      rw [if_neg n]
      exact .tail n (put_upd nd'.2 h)
theorem put_updF {d : Addr} {o : Obj} : ∀ {l : List (Addr × Obj)}, (l.map (·.1)).Nodup → (d, o) ∈ l → UpdF d o l (fun o' => put d o' l)
  | p :: r, nd, h => by
    have nd' := List.nodup_cons.mp nd
    rcases List.mem_cons.mp h with e | h
    · subst e
      have z : ∀ q ∈ r, q.1 ≠ d := fun q hq e => nd'.1 (List.mem_map.mpr ⟨q, hq, e⟩)
      have e : (fun o' => put d o' ((d, o) :: r)) = fun o' => (d, o') :: r := funext fun o' => by
        show (if d = d then (d, o') else (d, o)) :: put d o' r = _
        rw [if_pos rfl, put_none z]
      rw [e]
      exact .head z
    · have n : p.1 ≠ d := fun e => nd'.1 (List.mem_map.mpr ⟨(d, o), h, e.symm⟩)
      have e : (fun o' => put d o' (p :: r)) = fun o' => p :: put d o' r := funext fun o' => by
        show (if p.1 = d then (d, o') else p) :: put d o' r = _
        rw [if_neg n]
      rw [e]
      exact .tail n (put_updF nd'.2 h)
theorem Led.upd {news news' : List (Addr × Obj)} {v v' : V} {u u' : U} {d : Addr} {o o' : Obj} (D : Led news v u) (i : Nat) (U₁ : Upd d o o' news news') (hi : (rows v u)[i]? = some (d, o)) (he : rows v' u' = (rows v u).set i (d, o')) (ha : adrs v' u' = adrs v u) : Led news' v' u' where
  nd := by rw [upd_keys U₁]; exact D.nd
  na := by rw [ha]; exact D.na
  mem p hp := by
    rw [he] at hp
    obtain ⟨j, hj⟩ := List.getElem?_of_mem hp
    by_cases hij : i = j
    · subst hij
      obtain ⟨hlt, _⟩ := List.getElem?_eq_some_iff.mp hi
      rw [List.getElem?_set_self hlt] at hj
      cases hj
      exact upd_here U₁
    · rw [List.getElem?_set_ne hij] at hj
      have hm := D.mem p (List.mem_of_getElem? hj)
      refine upd_keep (a := p.1) (oa := p.2) U₁ hm ?_
      have e1 : (adrs v u)[i]? = some d := by
        show ((rows v u).map (·.1))[i]? = some d
        rw [List.getElem?_map, hi]; rfl
      have e2 : (adrs v u)[j]? = some p.1 := by
        show ((rows v u).map (·.1))[j]? = some p.1
        rw [List.getElem?_map, hj]; rfl
      exact (nodup_at D.na e1 e2 hij).symm
theorem Led.push {news : List (Addr × Obj)} {v : V} {u : U} {a : Addr} {o : Obj} (D : Led news v u) (h : ∀ p ∈ news, p.1 < a) : Led ((a, o) :: news) v u where
  nd := by
    refine List.nodup_cons.mpr ⟨fun hm => ?_, D.nd⟩
    obtain ⟨p, hp, e⟩ := List.mem_map.mp hm
    exact Nat.lt_irrefl _ (e ▸ h p hp)
  na := D.na
  mem p hp := .tail _ (D.mem p hp)
section
variable {news : List (Addr × Obj)} {v : V} {u : U}
theorem Led.uF (D : Led news v u) (F' : Value) : Upd v.dx (dictOf (oneD v.ks (.ref v.y) (.bytes #[109] v.t0) .none v.F (.int 0 v.tz) .none) 6) (dictOf (oneD v.ks (.ref v.y) (.bytes #[109] v.t0) .none F' (.int 0 v.tz) .none) 6) news (put v.dx (dictOf (oneD v.ks (.ref v.y) (.bytes #[109] v.t0) .none F' (.int 0 v.tz) .none) 6) news) :=
  put_upd D.nd (D.mem _ (by simp [rows]))
theorem Led.uL (D : Led news v u) (o' : Obj) : Upd v.ll (PySem.W.listOf v.vl.toArray v.nl) o' news (put v.ll o' news) := put_upd D.nd (D.mem _ (by simp [rows]))
theorem Led.uC (D : Led news v u) (o' : Obj) : Upd v.lc (PySem.W.listOf v.vc.toArray v.nc) o' news (put v.lc o' news) := put_upd D.nd (D.mem _ (by simp [rows]))
theorem Led.uS (D : Led news v u) (o' : Obj) : Upd v.fl (PySem.W.listOf #[.bool v.f0, .bool v.f1] v.nf) o' news (put v.fl o' news) := put_upd D.nd (D.mem _ (by simp [rows]))
theorem Led.uA (D : Led news v u) (o' : Obj) : Upd u.la (PySem.W.listOf u.va.toArray u.na) o' news (put u.la o' news) := put_upd D.nd (D.mem _ (by simp [rows]))
theorem Led.uT (D : Led news v u) (o' : Obj) : Upd u.lt (PySem.W.listOf u.vt.toArray u.nt) o' news (put u.lt o' news) := put_upd D.nd (D.mem _ (by simp [rows]))
theorem Led.fK (D : Led news v u) : UpdF u.ck u.ok news (fun o' => put u.ck o' news) := put_updF D.nd (D.mem _ (by simp [rows]))
theorem Led.fW (D : Led news v u) : UpdF u.cw u.ow news (fun o' => put u.cw o' news) := put_updF D.nd (D.mem _ (by simp [rows]))
theorem Led.fP (D : Led news v u) : UpdF 348 (tabObj u.ps) news (fun o' => put 348 o' news) := put_updF D.nd (D.mem _ (by simp [rows]))
theorem Led.setF (D : Led news v u) (F' : Value) : Led (put v.dx (dictOf (oneD v.ks (.ref v.y) (.bytes #[109] v.t0) .none F' (.int 0 v.tz) .none) 6) news) { v with F := F' } u := D.upd 1 (D.uF F') rfl rfl rfl
theorem Led.pushL (D : Led news v u) (b : Value) : Led (put v.ll (PySem.W.listOf (v.vl.toArray.push b) (v.nl + 1)) news) { v with vl := v.vl ++ [b], nl := v.nl + 1 } u :=
  D.upd 4 (D.uL _) rfl (by rw [List.push_toArray]; rfl) rfl
theorem Led.pushC (D : Led news v u) (b : Value) : Led (put v.lc (PySem.W.listOf (v.vc.toArray.push b) (v.nc + 1)) news) { v with vc := v.vc ++ [b], nc := v.nc + 1 } u :=
  D.upd 5 (D.uC _) rfl (by rw [List.push_toArray]; rfl) rfl
theorem Led.pushA (D : Led news v u) (b : Value) : Led (put u.la (PySem.W.listOf (u.va.toArray.push b) (u.na + 1)) news) v { u with va := u.va ++ [b], na := u.na + 1 } :=
  D.upd 16 (D.uA _) rfl (by rw [List.push_toArray]; rfl) rfl
theorem Led.pushT (D : Led news v u) (b : Value) : Led (put u.lt (PySem.W.listOf (u.vt.toArray.push b) (u.nt + 1)) news) v { u with vt := u.vt ++ [b], nt := u.nt + 1 } :=
  D.upd 17 (D.uT _) rfl (by rw [List.push_toArray]; rfl) rfl
theorem Led.setS (D : Led news v u) (a b : Bool) (n : Nat) : Led (put v.fl (PySem.W.listOf #[.bool a, .bool b] n) news) { v with f0 := a, f1 := b, nf := n } u := D.upd 12 (D.uS _) rfl rfl rfl
theorem Led.setK (D : Led news v u) (o' : Obj) : Led (put u.ck o' news) v { u with ok := o' } := D.upd 13 (put_upd D.nd (D.mem _ (by simp [rows]))) rfl rfl rfl
theorem Led.setW (D : Led news v u) (o' : Obj) : Led (put u.cw o' news) v { u with ow := o' } := D.upd 15 (put_upd D.nd (D.mem _ (by simp [rows]))) rfl rfl rfl
theorem Led.setP (D : Led news v u) (ps : Array Value) : Led (put 348 (tabObj ps) news) v { u with ps := ps } := D.upd 18 (put_upd D.nd (D.mem _ (by simp [rows]))) rfl rfl rfl
end

/-- the code of a lambda, if it was made before -/
def CodeAt (news : List (Addr × Obj)) (ps : Array Value) (pos : Pos) (q : Str) : Prop :=
  codeAmong pos ps.toList = none ∨ ∃ c oc, codeAmong pos ps.toList = some (.ref c) ∧ c ≠ 348 ∧ (c, oc) ∈ news ∧ ∃ vs t, oc.data = .fields vs ∧ vs[1]? = some (.str q t)
abbrev lamQ : Str := ("law" : Str) ++ ".<locals>." ++ "<lambda>"
structure Codes (news : List (Addr × Obj)) (ps : Array Value) : Prop where
  t : TriplesOk ps.toList
  d : CodeAt news ps ⟨324, 19, 324, 94⟩ lamQ
  r : CodeAt news ps ⟨350, 25, 350, 50⟩ lamQ
theorem CodeAt.mono {news news' : List (Addr × Obj)} {ps : Array Value} {pos : Pos} {q : Str} (C : CodeAt news ps pos q) (h : ∀ c oc, (c, oc) ∈ news → tagO oc = 102 → (c, oc) ∈ news') : CodeAt news' ps pos q := by
  rcases C with C | ⟨c, oc, h1, h0, h2, vs, t, h3, h4⟩
  · exact .inl C
  · exact .inr ⟨c, oc, h1, h0, h _ _ h2 (tag_fields h3), vs, t, h3, h4⟩
theorem Codes.mono {news news' : List (Addr × Obj)} {ps : Array Value} (C : Codes news ps) (h : ∀ c oc, (c, oc) ∈ news → tagO oc = 102 → (c, oc) ∈ news') : Codes news' ps := ⟨C.t, C.d.mono h, C.r.mono h⟩
theorem Codes.upd {news news' : List (Addr × Obj)} {ps : Array Value} {d : Addr} {o o' : Obj} (C : Codes news ps) (U₁ : Upd d o o' news news') (h : tagO o ≠ 102) : Codes news' ps :=
  C.mono fun _ _ hm ht => upd_other U₁ hm (fun e => h (e ▸ ht))
theorem Codes.push {news : List (Addr × Obj)} {ps : Array Value} {p : Addr × Obj} (C : Codes news ps) : Codes (p :: news) ps := C.mono fun _ _ hm _ => .tail _ hm

inductive Flags : Value → Bool → Bool → Bool → Prop
  | ghost : Flags .none false false false
  | k0 (t : Tok) : Flags (.int 0 t) true false false
  | k1 (t : Tok) : Flags (.int 1 t) true true false
  | k2 (t : Tok) : Flags (.int 2 t) true false true
  | k3 (t : Tok) : Flags (.int 3 t) true true true
/-- the whole of the law's state -/
structure St (news : List (Addr × Obj)) (v : V) (u : U) (ld mk st : Bool) (n : Nat) : Prop where
  D : Led news v u
  S : Stat v u
  C : Codes news u.ps
  fl : Flags v.F ld mk st
  ml : Marks v.vl
  mc : Marks v.vc
  bl : v.vl.length ≤ n
  bc : v.vc.length ≤ n
  kc : ∃ c, u.ok.data = .cell c
  wc : ∃ c, u.ow.data = .cell c
  rs : ∀ p ∈ u.rest, p ∈ news ∧ p.1 ∉ adrs v u
theorem St.rsU {news news' : List (Addr × Obj)} {v : V} {u : U} {ld mk st : Bool} {n : Nat} {d : Addr} {o o' : Obj} (G : St news v u ld mk st n) (U₁ : Upd d o o' news news') (hd : d ∈ adrs v u) : ∀ p ∈ u.rest, p ∈ news' ∧ p.1 ∉ adrs v u := fun p hp =>
  ⟨upd_keep (a := p.1) (oa := p.2) U₁ (G.rs p hp).1 (fun e => (G.rs p hp).2 (e ▸ hd)), (G.rs p hp).2⟩
/-- asked and told as the jar's own lists -/
structure Same (v : V) (u : U) : Prop where
  ma : Marks u.va
  mt : Marks u.vt
  el : v.vl.length = u.va.length
  ec : v.vc.length = u.vt.length
end Mine
end
section
open PySem PySem.W PyProof.Rows PySem.Calls
set_option Elab.async false
set_option maxRecDepth 100000
namespace Mine

theorem put_same {d : Addr} {o o' : Obj} {l : List (Addr × Obj)} : put d o (put d o' l) = put d o l := by
  unfold put
  rw [List.map_map]
  refine List.map_congr_left fun q _ => ?_
  show (if (if q.1 = d then (d, o') else q).1 = d then (d, o) else (if q.1 = d then (d, o') else q)) = if q.1 = d then (d, o) else q
  by_cases h : q.1 = d
  · rw [if_pos h, if_pos rfl, if_pos h]
  · rw [if_neg h, if_neg h]
theorem put_drop {d d' : Addr} {o o' o₂ : Obj} {l : List (Addr × Obj)} (hn : d ≠ d') : put d o (put d' o₂ (put d o' l)) = put d o (put d' o₂ l) := by
  unfold put
  rw [List.map_map, List.map_map, List.map_map]
  refine List.map_congr_left fun q _ => ?_
  show (if (if (if q.1 = d then (d, o') else q).1 = d' then (d', o₂) else (if q.1 = d then (d, o') else q)).1 = d then (d, o) else (if (if q.1 = d then (d, o') else q).1 = d' then (d', o₂) else (if q.1 = d then (d, o') else q))) =
    if (if q.1 = d' then (d', o₂) else q).1 = d then (d, o) else (if q.1 = d' then (d', o₂) else q)
  by_cases h : q.1 = d
  · rw [if_pos h, if_neg hn, if_pos rfl, if_neg (fun e => hn (h.symm.trans e)), if_pos h]
  · rw [if_neg h]
theorem Flags.tt {F : Value} {st : Bool} (h : Flags F true true st) : ∃ t, (st = false ∧ F = .int 1 t) ∨ (st = true ∧ F = .int 3 t) := by
  cases h with
  | k1 t => exact ⟨t, .inl ⟨rfl, rfl⟩⟩
  | k3 t => exact ⟨t, .inr ⟨rfl, rfl⟩⟩
theorem Flags.tf {F : Value} {st : Bool} (h : Flags F true false st) : ∃ t, (st = false ∧ F = .int 0 t) ∨ (st = true ∧ F = .int 2 t) := by
  cases h with
  | k0 t => exact ⟨t, .inl ⟨rfl, rfl⟩⟩
  | k2 t => exact ⟨t, .inr ⟨rfl, rfl⟩⟩
theorem Flags.no {F : Value} {mk st : Bool} (h : Flags F false mk st) : F = .none ∧ mk = false ∧ st = false := by cases h; exact ⟨rfl, rfl, rfl⟩
theorem tag_dict {es : List DictEntry} {n : Nat} (h : n ≤ 20) : tagO (dictOf es n) ≠ 102 := by show 1 + n ≠ 102; omega
theorem tag_list {vs : Array Value} {n : Nat} : tagO (PySem.W.listOf vs n) ≠ 102 := by show (100 : Nat) ≠ 102; decide
section
variable {news : List (Addr × Obj)} {v : V} {u : U} {ld mk st ld' mk' st' : Bool} {n : Nat}
theorem St.setF (G : St news v u ld mk st n) {F' : Value} (h : Flags F' ld' mk' st') : St (put v.dx (dictOf (oneD v.ks (.ref v.y) (.bytes #[109] v.t0) .none F' (.int 0 v.tz) .none) 6) news) { v with F := F' } u ld' mk' st' n :=
  ⟨G.D.setF F', ⟨G.S.os, G.S.or, G.S.ocf, G.S.ocj, G.S.oo⟩, G.C.upd (G.D.uF F') (tag_dict (by decide)), h, G.ml, G.mc, G.bl, G.bc, G.kc, G.wc, G.rsU (G.D.uF F') (by simp)⟩
theorem St.pushC (G : St news v u ld mk st n) : St (put v.lc (PySem.W.listOf (v.vc.toArray.push (.bytes #[109] v.t0)) (v.nc + 1)) news) { v with vc := v.vc ++ [.bytes #[109] v.t0], nc := v.nc + 1 } u ld mk st (n + 1) :=
  ⟨G.D.pushC _, ⟨G.S.os, G.S.or, G.S.ocf, G.S.ocj, G.S.oo⟩, G.C.upd (G.D.uC _) tag_list, G.fl, G.ml, G.mc.push, Nat.le_succ_of_le G.bl, by rw [List.length_append]; exact Nat.succ_le_succ G.bc, G.kc, G.wc, G.rsU (G.D.uC _) (by simp)⟩
theorem St.pushL (G : St news v u ld mk st n) : St (put v.ll (PySem.W.listOf (v.vl.toArray.push (.bytes #[109] v.t0)) (v.nl + 1)) news) { v with vl := v.vl ++ [.bytes #[109] v.t0], nl := v.nl + 1 } u ld mk st (n + 1) :=
  ⟨G.D.pushL _, ⟨G.S.os, G.S.or, G.S.ocf, G.S.ocj, G.S.oo⟩, G.C.upd (G.D.uL _) tag_list, G.fl, G.ml.push, G.mc, by rw [List.length_append]; exact Nat.succ_le_succ G.bl, Nat.le_succ_of_le G.bc, G.kc, G.wc, G.rsU (G.D.uL _) (by simp)⟩
theorem St.more (G : St news v u ld mk st n) : St news v u ld mk st (n + 1) := ⟨G.D, G.S, G.C, G.fl, G.ml, G.mc, Nat.le_succ_of_le G.bl, Nat.le_succ_of_le G.bc, G.kc, G.wc, G.rs⟩
theorem St.isF (G : St news v u ld mk st n) {F' : Value} (e : v.F = F') : St news { v with F := F' } u ld mk st n := by rw [← e]; exact G
theorem St.nfl (G : St news v u ld mk st n) : v.dx ≠ v.ll := nodup_at G.D.na (i := 1) (j := 4) rfl rfl (by decide)
theorem St.nfc (G : St news v u ld mk st n) : v.dx ≠ v.lc := nodup_at G.D.na (i := 1) (j := 5) rfl rfl (by decide)
end

theorem wt0_on {w : World} {loose : List Str} {mean : ExcName → Option Value} {mg mb : Str → Option Value} {dp un : Nat} {gd : Option (List Code)} {cn : Str} {cs : Scope} {a : Addr} {ccd : Value} {cl : List (Str × Addr)} {outer : List Env} {A₀ : Around} {base h₀ g₀ : Heap} {L : Addr} {m : Str → Option Value}
    {news : List (Addr × Obj)} {s : Shared} {Q E : Value → Shared → Prop} {v : V} {u : U} {n : Nat} {f : Addr} {z : Value} {st : Bool}
    (XB : (Mine.hd.heap_39 w.params).In base) (TB : Top topProg loose mean mg mb base) (B : Below A₀ base outer h₀) (D : KtsDicts (frs outer) h₀) (T0 : KtsTurn (frs outer) g₀ h₀) (F : Fr h₀ L s.heap m) (N : News h₀ L s.heap news) (hk : cs.kind = .function) (hdp : dp + 80 < recursionLimit) (hun : un + 400 < cLine) (hn : n ≤ 100) (G : St news v u true true st n) (DD : Deed news f v.x 0 z) (W : Word news true z)
    (ret : ∀ h₀' h' tk' ts news' F', KtsTurn (frs outer) g₀ h₀' → Fr h₀' L h' m → News h₀' L h' news' → Below A₀ base outer h₀' → KtsDicts (frs outer) h₀' → (Mine.hd.heap_39 w.params).In h₀' → Top topProg loose mean mg mb h₀' → St news' { v with F := F' } u true true st (n + 1) → Q (.str "done" ts) { s with heap := h', toks := tk' }) :
    wpAny (model PySem.Challenge.rw_am6027_01.row.prog w) (top none dp un gd cn cs L a ccd cl outer) (PySem.call (.ref 339) [.ref f]) Q E s := by
  obtain ⟨t, ⟨rfl, e⟩ | ⟨rfl, e⟩⟩ := G.fl.tt
  · refine t0_on1 XB TB B D T0 F N hk (G.D.jars G.S) rfl (by omega) (by omega) DD W e (fun t => G.D.uF _) ?_; intro h₀' h' tk' ts t T' F' N' B' D' X' P'; exact ret _ _ _ _ _ _ T' F' N' B' D' X' P' ((G.setF (.k1 t)).more)
  · refine t0_on3 XB TB B D T0 F N hk (G.D.jars G.S) rfl (by omega) (by omega) DD W e (fun t => G.D.uF _) ?_; intro h₀' h' tk' ts t T' F' N' B' D' X' P'; exact ret _ _ _ _ _ _ T' F' N' B' D' X' P' ((G.setF (.k3 t)).more)

theorem wt0_mark {w : World} {loose : List Str} {mean : ExcName → Option Value} {mg mb : Str → Option Value} {dp un : Nat} {gd : Option (List Code)} {cn : Str} {cs : Scope} {a : Addr} {ccd : Value} {cl : List (Str × Addr)} {outer : List Env} {A₀ : Around} {base h₀ g₀ : Heap} {L : Addr} {m : Str → Option Value}
    {news : List (Addr × Obj)} {s : Shared} {Q E : Value → Shared → Prop} {v : V} {u : U} {n : Nat} {f : Addr} {z : Value} {st : Bool}
    (XB : (Mine.hd.heap_39 w.params).In base) (TB : Top topProg loose mean mg mb base) (B : Below A₀ base outer h₀) (D : KtsDicts (frs outer) h₀) (T0 : KtsTurn (frs outer) g₀ h₀) (F : Fr h₀ L s.heap m) (N : News h₀ L s.heap news) (hk : cs.kind = .function) (hdp : dp + 80 < recursionLimit) (hun : un + 400 < cLine) (hn : n ≤ 100) (G : St news v u true false st n) (DD : Deed news f v.x 0 z) (W : Word news true z) (hf : v.f1 = false)
    (ret : ∀ h₀' h' tk' ts news' F', KtsTurn (frs outer) g₀ h₀' → Fr h₀' L h' m → News h₀' L h' news' → Below A₀ base outer h₀' → KtsDicts (frs outer) h₀' → (Mine.hd.heap_39 w.params).In h₀' → Top topProg loose mean mg mb h₀' → St news' { v with F := F', vc := v.vc ++ [.bytes #[109] v.t0], nc := v.nc + 1 } u true true st (n + 1) → Q (.str "done" ts) { s with heap := h', toks := tk' }) :
    wpAny (model PySem.Challenge.rw_am6027_01.row.prog w) (top none dp un gd cn cs L a ccd cl outer) (PySem.call (.ref 339) [.ref f]) Q E s := by
  obtain ⟨t, ⟨rfl, e⟩ | ⟨rfl, e⟩⟩ := G.fl.tf
  · refine t0_on0 XB TB B D T0 F N hk (G.D.jars G.S) rfl (by omega) (by omega) DD W e hf (Nat.le_trans G.bc (by omega)) (G.D.uC _) (fun t => (G.pushC).D.uF _) ?_; intro h₀' h' tk' ts t T' F' N' B' D' X' P'; exact ret _ _ _ _ _ _ T' F' N' B' D' X' P' ((G.pushC).setF (.k1 t))
  · refine t0_on2 XB TB B D T0 F N hk (G.D.jars G.S) rfl (by omega) (by omega) DD W e hf (Nat.le_trans G.bc (by omega)) (G.D.uC _) (fun t => (G.pushC).D.uF _) ?_; intro h₀' h' tk' ts t T' F' N' B' D' X' P'; exact ret _ _ _ _ _ _ T' F' N' B' D' X' P' ((G.pushC).setF (.k3 t))

theorem wt0_no {w : World} {loose : List Str} {mean : ExcName → Option Value} {mg mb : Str → Option Value} {dp un : Nat} {gd : Option (List Code)} {cn : Str} {cs : Scope} {a : Addr} {ccd : Value} {cl : List (Str × Addr)} {outer : List Env} {A₀ : Around} {base h₀ g₀ : Heap} {L : Addr} {m : Str → Option Value}
    {news : List (Addr × Obj)} {s : Shared} {Q E : Value → Shared → Prop} {v : V} {u : U} {n : Nat} {f : Addr} {z : Value} {st : Bool}
    (XB : (Mine.hd.heap_39 w.params).In base) (TB : Top topProg loose mean mg mb base) (B : Below A₀ base outer h₀) (D : KtsDicts (frs outer) h₀) (T0 : KtsTurn (frs outer) g₀ h₀) (F : Fr h₀ L s.heap m) (N : News h₀ L s.heap news) (hk : cs.kind = .function) (hdp : dp + 80 < recursionLimit) (hun : un + 400 < cLine) (hn : n ≤ 100) (G : St news v u true false st n) (DD : Deed news f v.x 0 z) (W : Word news true z) (hf : v.f1 = true)
    (ret : ∀ h₀' h' tk' ts news' F', KtsTurn (frs outer) g₀ h₀' → Fr h₀' L h' m → News h₀' L h' news' → Below A₀ base outer h₀' → KtsDicts (frs outer) h₀' → (Mine.hd.heap_39 w.params).In h₀' → Top topProg loose mean mg mb h₀' → St news' { v with F := F' } u true false st (n + 1) → Q (.str "failed" ts) { s with heap := h', toks := tk' }) :
    wpAny (model PySem.Challenge.rw_am6027_01.row.prog w) (top none dp un gd cn cs L a ccd cl outer) (PySem.call (.ref 339) [.ref f]) Q E s := by
  obtain ⟨t, ⟨rfl, e⟩ | ⟨rfl, e⟩⟩ := G.fl.tf
  · refine t0_no0 XB TB B D T0 F N hk (G.D.jars G.S) rfl (by omega) (by omega) DD W e hf ?_; intro h₀' h' tk' ts T' F' N' B' D' X' P'; exact ret _ _ _ _ _ _ T' F' N' B' D' X' P' ((G.isF e).more)
  · refine t0_no2 XB TB B D T0 F N hk (G.D.jars G.S) rfl (by omega) (by omega) DD W e hf ?_; intro h₀' h' tk' ts T' F' N' B' D' X' P'; exact ret _ _ _ _ _ _ T' F' N' B' D' X' P' ((G.isF e).more)

theorem wt7_on {w : World} {loose : List Str} {mean : ExcName → Option Value} {mg mb : Str → Option Value} {dp un : Nat} {gd : Option (List Code)} {cn : Str} {cs : Scope} {a : Addr} {ccd : Value} {cl : List (Str × Addr)} {outer : List Env} {A₀ : Around} {base h₀ g₀ : Heap} {L : Addr} {m : Str → Option Value}
    {news : List (Addr × Obj)} {s : Shared} {Q E : Value → Shared → Prop} {v : V} {u : U} {n : Nat} {f : Addr} {z : Value} {st : Bool}
    (XB : (Mine.hd.heap_39 w.params).In base) (TB : Top topProg loose mean mg mb base) (B : Below A₀ base outer h₀) (D : KtsDicts (frs outer) h₀) (T0 : KtsTurn (frs outer) g₀ h₀) (F : Fr h₀ L s.heap m) (N : News h₀ L s.heap news) (hk : cs.kind = .function) (hdp : dp + 80 < recursionLimit) (hun : un + 400 < cLine) (hn : n ≤ 100) (G : St news v u true true st n) (DD : Deed news f v.x 7 z) (W : Word news true z)
    (ret : ∀ h₀' h' tk' ts news' F', KtsTurn (frs outer) g₀ h₀' → Fr h₀' L h' m → News h₀' L h' news' → Below A₀ base outer h₀' → KtsDicts (frs outer) h₀' → (Mine.hd.heap_39 w.params).In h₀' → Top topProg loose mean mg mb h₀' → St news' { v with F := F' } u true true st (n + 1) → Q (.str "done" ts) { s with heap := h', toks := tk' }) :
    wpAny (model PySem.Challenge.rw_am6027_01.row.prog w) (top none dp un gd cn cs L a ccd cl outer) (PySem.call (.ref 339) [.ref f]) Q E s := by
  obtain ⟨t, ⟨rfl, e⟩ | ⟨rfl, e⟩⟩ := G.fl.tt
  · refine t7_on1 XB TB B D T0 F N hk (G.D.jars G.S) rfl (by omega) (by omega) DD W e (fun t => G.D.uF _) ?_; intro h₀' h' tk' ts t T' F' N' B' D' X' P'; exact ret _ _ _ _ _ _ T' F' N' B' D' X' P' ((G.setF (.k1 t)).more)
  · refine t7_on3 XB TB B D T0 F N hk (G.D.jars G.S) rfl (by omega) (by omega) DD W e (fun t => G.D.uF _) ?_; intro h₀' h' tk' ts t T' F' N' B' D' X' P'; exact ret _ _ _ _ _ _ T' F' N' B' D' X' P' ((G.setF (.k3 t)).more)

theorem wt7_mark {w : World} {loose : List Str} {mean : ExcName → Option Value} {mg mb : Str → Option Value} {dp un : Nat} {gd : Option (List Code)} {cn : Str} {cs : Scope} {a : Addr} {ccd : Value} {cl : List (Str × Addr)} {outer : List Env} {A₀ : Around} {base h₀ g₀ : Heap} {L : Addr} {m : Str → Option Value}
    {news : List (Addr × Obj)} {s : Shared} {Q E : Value → Shared → Prop} {v : V} {u : U} {n : Nat} {f : Addr} {z : Value} {st : Bool}
    (XB : (Mine.hd.heap_39 w.params).In base) (TB : Top topProg loose mean mg mb base) (B : Below A₀ base outer h₀) (D : KtsDicts (frs outer) h₀) (T0 : KtsTurn (frs outer) g₀ h₀) (F : Fr h₀ L s.heap m) (N : News h₀ L s.heap news) (hk : cs.kind = .function) (hdp : dp + 80 < recursionLimit) (hun : un + 400 < cLine) (hn : n ≤ 100) (G : St news v u true false st n) (DD : Deed news f v.x 7 z) (W : Word news true z) (hf : v.f1 = false)
    (ret : ∀ h₀' h' tk' ts news' F', KtsTurn (frs outer) g₀ h₀' → Fr h₀' L h' m → News h₀' L h' news' → Below A₀ base outer h₀' → KtsDicts (frs outer) h₀' → (Mine.hd.heap_39 w.params).In h₀' → Top topProg loose mean mg mb h₀' → St news' { v with F := F', vc := v.vc ++ [.bytes #[109] v.t0], nc := v.nc + 1 } u true true st (n + 1) → Q (.str "done" ts) { s with heap := h', toks := tk' }) :
    wpAny (model PySem.Challenge.rw_am6027_01.row.prog w) (top none dp un gd cn cs L a ccd cl outer) (PySem.call (.ref 339) [.ref f]) Q E s := by
  obtain ⟨t, ⟨rfl, e⟩ | ⟨rfl, e⟩⟩ := G.fl.tf
  · refine t7_on0 XB TB B D T0 F N hk (G.D.jars G.S) rfl (by omega) (by omega) DD W e hf (Nat.le_trans G.bc (by omega)) (G.D.uC _) (fun t => (G.pushC).D.uF _) ?_; intro h₀' h' tk' ts t T' F' N' B' D' X' P'; exact ret _ _ _ _ _ _ T' F' N' B' D' X' P' ((G.pushC).setF (.k1 t))
  · refine t7_on2 XB TB B D T0 F N hk (G.D.jars G.S) rfl (by omega) (by omega) DD W e hf (Nat.le_trans G.bc (by omega)) (G.D.uC _) (fun t => (G.pushC).D.uF _) ?_; intro h₀' h' tk' ts t T' F' N' B' D' X' P'; exact ret _ _ _ _ _ _ T' F' N' B' D' X' P' ((G.pushC).setF (.k3 t))

theorem wt7_no {w : World} {loose : List Str} {mean : ExcName → Option Value} {mg mb : Str → Option Value} {dp un : Nat} {gd : Option (List Code)} {cn : Str} {cs : Scope} {a : Addr} {ccd : Value} {cl : List (Str × Addr)} {outer : List Env} {A₀ : Around} {base h₀ g₀ : Heap} {L : Addr} {m : Str → Option Value}
    {news : List (Addr × Obj)} {s : Shared} {Q E : Value → Shared → Prop} {v : V} {u : U} {n : Nat} {f : Addr} {z : Value} {st : Bool}
    (XB : (Mine.hd.heap_39 w.params).In base) (TB : Top topProg loose mean mg mb base) (B : Below A₀ base outer h₀) (D : KtsDicts (frs outer) h₀) (T0 : KtsTurn (frs outer) g₀ h₀) (F : Fr h₀ L s.heap m) (N : News h₀ L s.heap news) (hk : cs.kind = .function) (hdp : dp + 80 < recursionLimit) (hun : un + 400 < cLine) (hn : n ≤ 100) (G : St news v u true false st n) (DD : Deed news f v.x 7 z) (W : Word news true z) (hf : v.f1 = true)
    (ret : ∀ h₀' h' tk' ts news' F', KtsTurn (frs outer) g₀ h₀' → Fr h₀' L h' m → News h₀' L h' news' → Below A₀ base outer h₀' → KtsDicts (frs outer) h₀' → (Mine.hd.heap_39 w.params).In h₀' → Top topProg loose mean mg mb h₀' → St news' { v with F := F' } u true false st (n + 1) → Q (.str "failed" ts) { s with heap := h', toks := tk' }) :
    wpAny (model PySem.Challenge.rw_am6027_01.row.prog w) (top none dp un gd cn cs L a ccd cl outer) (PySem.call (.ref 339) [.ref f]) Q E s := by
  obtain ⟨t, ⟨rfl, e⟩ | ⟨rfl, e⟩⟩ := G.fl.tf
  · refine t7_no0 XB TB B D T0 F N hk (G.D.jars G.S) rfl (by omega) (by omega) DD W e hf ?_; intro h₀' h' tk' ts T' F' N' B' D' X' P'; exact ret _ _ _ _ _ _ T' F' N' B' D' X' P' ((G.isF e).more)
  · refine t7_no2 XB TB B D T0 F N hk (G.D.jars G.S) rfl (by omega) (by omega) DD W e hf ?_; intro h₀' h' tk' ts T' F' N' B' D' X' P'; exact ret _ _ _ _ _ _ T' F' N' B' D' X' P' ((G.isF e).more)

theorem wt0_noN1 {w : World} {loose : List Str} {mean : ExcName → Option Value} {mg mb : Str → Option Value} {dp un : Nat} {gd : Option (List Code)} {cn : Str} {cs : Scope} {a : Addr} {ccd : Value} {cl : List (Str × Addr)} {outer : List Env} {A₀ : Around} {base h₀ g₀ : Heap} {L : Addr} {m : Str → Option Value}
    {news : List (Addr × Obj)} {s : Shared} {Q E : Value → Shared → Prop} {v : V} {u : U} {n : Nat} {f : Addr} {z : Value}
    (XB : (Mine.hd.heap_39 w.params).In base) (TB : Top topProg loose mean mg mb base) (B : Below A₀ base outer h₀) (D : KtsDicts (frs outer) h₀) (T0 : KtsTurn (frs outer) g₀ h₀) (F : Fr h₀ L s.heap m) (N : News h₀ L s.heap news) (hk : cs.kind = .function) (hdp : dp + 80 < recursionLimit) (hun : un + 400 < cLine) (hn : n ≤ 100) (G : St news v u false false false n) (DD : Deed news f v.x 0 z) (W : Word news true z) (hf : v.f0 = false) (hf2 : v.f1 = true)
    (ret : ∀ h₀' h' tk' ts news' F', KtsTurn (frs outer) g₀ h₀' → Fr h₀' L h' m → News h₀' L h' news' → Below A₀ base outer h₀' → KtsDicts (frs outer) h₀' → (Mine.hd.heap_39 w.params).In h₀' → Top topProg loose mean mg mb h₀' → St news' { v with F := F', vl := v.vl ++ [.bytes #[109] v.t0], nl := v.nl + 1 } u true false false (n + 1) → Q (.str "failed" ts) { s with heap := h', toks := tk' }) :
    wpAny (model PySem.Challenge.rw_am6027_01.row.prog w) (top none dp un gd cn cs L a ccd cl outer) (PySem.call (.ref 339) [.ref f]) Q E s := by
  obtain ⟨e, -, -⟩ := G.fl.no
  have G0 := G.isF e
  have G1 := fun t => G0.setF (.k0 t)
  have G2 := fun t r => (G1 t).setF (.k1 r)
  have G3 := fun t r => (G2 t r).pushL
  have e4 : ∀ t r q, put v.dx (dictOf (oneD v.ks (.ref v.y) (.bytes #[109] v.t0) .none (.int 0 q) (.int 0 v.tz) .none) 6) (put v.ll (PySem.W.listOf (v.vl.toArray.push (.bytes #[109] v.t0)) (v.nl + 1)) (put v.dx (dictOf (oneD v.ks (.ref v.y) (.bytes #[109] v.t0) .none (.int 1 r) (.int 0 v.tz) .none) 6) (put v.dx (dictOf (oneD v.ks (.ref v.y) (.bytes #[109] v.t0) .none (.int 0 t) (.int 0 v.tz) .none) 6) news))) = put v.dx (dictOf (oneD v.ks (.ref v.y) (.bytes #[109] v.t0) .none (.int 0 q) (.int 0 v.tz) .none) 6) (put v.ll (PySem.W.listOf (v.vl.toArray.push (.bytes #[109] v.t0)) (v.nl + 1)) news) := fun t r q => by
    rw [put_same, put_drop G.nfl]
  have G4 : ∀ q, St (put v.dx (dictOf (oneD v.ks (.ref v.y) (.bytes #[109] v.t0) .none (.int 0 q) (.int 0 v.tz) .none) 6) (put v.ll (PySem.W.listOf (v.vl.toArray.push (.bytes #[109] v.t0)) (v.nl + 1)) news)) { v with F := .int 0 q, vl := v.vl ++ [.bytes #[109] v.t0], nl := v.nl + 1 } u true false false (n + 1) := fun q => by rw [← e4 0 0 q]; exact (G3 0 0).setF (.k0 q)
  have U4 : ∀ t r q, Upd v.dx (dictOf (oneD v.ks (.ref v.y) (.bytes #[109] v.t0) .none (.int 1 r) (.int 0 v.tz) .none) 6) (dictOf (oneD v.ks (.ref v.y) (.bytes #[109] v.t0) .none (.int 0 q) (.int 0 v.tz) .none) 6) (put v.ll (PySem.W.listOf (v.vl.toArray.push (.bytes #[109] v.t0)) (v.nl + 1)) (put v.dx (dictOf (oneD v.ks (.ref v.y) (.bytes #[109] v.t0) .none (.int 1 r) (.int 0 v.tz) .none) 6) (put v.dx (dictOf (oneD v.ks (.ref v.y) (.bytes #[109] v.t0) .none (.int 0 t) (.int 0 v.tz) .none) 6) news))) (put v.dx (dictOf (oneD v.ks (.ref v.y) (.bytes #[109] v.t0) .none (.int 0 q) (.int 0 v.tz) .none) 6) (put v.ll (PySem.W.listOf (v.vl.toArray.push (.bytes #[109] v.t0)) (v.nl + 1)) news)) := fun t r q => by rw [← e4 t r q]; exact (G3 t r).D.uF (.int 0 q)
  refine t0_noN1 (n₁ := fun t => put v.dx (dictOf (oneD v.ks (.ref v.y) (.bytes #[109] v.t0) .none (.int 0 t) (.int 0 v.tz) .none) 6) news) (n₂ := fun t r => put v.dx (dictOf (oneD v.ks (.ref v.y) (.bytes #[109] v.t0) .none (.int 1 r) (.int 0 v.tz) .none) 6) (put v.dx (dictOf (oneD v.ks (.ref v.y) (.bytes #[109] v.t0) .none (.int 0 t) (.int 0 v.tz) .none) 6) news)) (n₃ := fun t r => put v.ll (PySem.W.listOf (v.vl.toArray.push (.bytes #[109] v.t0)) (v.nl + 1)) (put v.dx (dictOf (oneD v.ks (.ref v.y) (.bytes #[109] v.t0) .none (.int 1 r) (.int 0 v.tz) .none) 6) (put v.dx (dictOf (oneD v.ks (.ref v.y) (.bytes #[109] v.t0) .none (.int 0 t) (.int 0 v.tz) .none) 6) news))) (n₄ := fun q => put v.dx (dictOf (oneD v.ks (.ref v.y) (.bytes #[109] v.t0) .none (.int 0 q) (.int 0 v.tz) .none) 6) (put v.ll (PySem.W.listOf (v.vl.toArray.push (.bytes #[109] v.t0)) (v.nl + 1)) news)) XB TB B D T0 F N hk (G.D.jars G.S) rfl (by omega) (by omega) DD W e hf hf2 (Nat.le_trans G.bl (by omega)) (fun t => G0.D.uF (.int 0 t)) (fun t r => (G1 t).D.uF (.int 1 r)) (fun t r => (G2 t r).D.uL _) U4 ?_; intro h₀' h' tk' ts q T' F' N' B' D' X' P'; exact ret _ _ _ _ _ _ T' F' N' B' D' X' P' (G4 q)

theorem wt0_onN {w : World} {loose : List Str} {mean : ExcName → Option Value} {mg mb : Str → Option Value} {dp un : Nat} {gd : Option (List Code)} {cn : Str} {cs : Scope} {a : Addr} {ccd : Value} {cl : List (Str × Addr)} {outer : List Env} {A₀ : Around} {base h₀ g₀ : Heap} {L : Addr} {m : Str → Option Value}
    {news : List (Addr × Obj)} {s : Shared} {Q E : Value → Shared → Prop} {v : V} {u : U} {n : Nat} {f : Addr} {z : Value}
    (XB : (Mine.hd.heap_39 w.params).In base) (TB : Top topProg loose mean mg mb base) (B : Below A₀ base outer h₀) (D : KtsDicts (frs outer) h₀) (T0 : KtsTurn (frs outer) g₀ h₀) (F : Fr h₀ L s.heap m) (N : News h₀ L s.heap news) (hk : cs.kind = .function) (hdp : dp + 80 < recursionLimit) (hun : un + 400 < cLine) (hn : n ≤ 100) (G : St news v u false false false n) (DD : Deed news f v.x 0 z) (W : Word news true z) (hf : v.f0 = false) (hf2 : v.f1 = false)
    (ret : ∀ h₀' h' tk' ts news' F', KtsTurn (frs outer) g₀ h₀' → Fr h₀' L h' m → News h₀' L h' news' → Below A₀ base outer h₀' → KtsDicts (frs outer) h₀' → (Mine.hd.heap_39 w.params).In h₀' → Top topProg loose mean mg mb h₀' → St news' { v with F := F', vl := v.vl ++ [.bytes #[109] v.t0], nl := v.nl + 1, vc := v.vc ++ [.bytes #[109] v.t0], nc := v.nc + 1 } u true true false (n + 1 + 1) → Q (.str "done" ts) { s with heap := h', toks := tk' }) :
    wpAny (model PySem.Challenge.rw_am6027_01.row.prog w) (top none dp un gd cn cs L a ccd cl outer) (PySem.call (.ref 339) [.ref f]) Q E s := by
  obtain ⟨e, -, -⟩ := G.fl.no
  have G0 := G.isF e
  have G1 := fun t => G0.setF (.k0 t)
  have G2 := fun t r => (G1 t).setF (.k1 r)
  have G3 := fun t r => (G2 t r).pushL
  have e4 : ∀ t r q, put v.dx (dictOf (oneD v.ks (.ref v.y) (.bytes #[109] v.t0) .none (.int 0 q) (.int 0 v.tz) .none) 6) (put v.ll (PySem.W.listOf (v.vl.toArray.push (.bytes #[109] v.t0)) (v.nl + 1)) (put v.dx (dictOf (oneD v.ks (.ref v.y) (.bytes #[109] v.t0) .none (.int 1 r) (.int 0 v.tz) .none) 6) (put v.dx (dictOf (oneD v.ks (.ref v.y) (.bytes #[109] v.t0) .none (.int 0 t) (.int 0 v.tz) .none) 6) news))) = put v.dx (dictOf (oneD v.ks (.ref v.y) (.bytes #[109] v.t0) .none (.int 0 q) (.int 0 v.tz) .none) 6) (put v.ll (PySem.W.listOf (v.vl.toArray.push (.bytes #[109] v.t0)) (v.nl + 1)) news) := fun t r q => by
    rw [put_same, put_drop G.nfl]
  have G4 : ∀ q, St (put v.dx (dictOf (oneD v.ks (.ref v.y) (.bytes #[109] v.t0) .none (.int 0 q) (.int 0 v.tz) .none) 6) (put v.ll (PySem.W.listOf (v.vl.toArray.push (.bytes #[109] v.t0)) (v.nl + 1)) news)) { v with F := .int 0 q, vl := v.vl ++ [.bytes #[109] v.t0], nl := v.nl + 1 } u true false false (n + 1) := fun q => by rw [← e4 0 0 q]; exact (G3 0 0).setF (.k0 q)
  have U4 : ∀ t r q, Upd v.dx (dictOf (oneD v.ks (.ref v.y) (.bytes #[109] v.t0) .none (.int 1 r) (.int 0 v.tz) .none) 6) (dictOf (oneD v.ks (.ref v.y) (.bytes #[109] v.t0) .none (.int 0 q) (.int 0 v.tz) .none) 6) (put v.ll (PySem.W.listOf (v.vl.toArray.push (.bytes #[109] v.t0)) (v.nl + 1)) (put v.dx (dictOf (oneD v.ks (.ref v.y) (.bytes #[109] v.t0) .none (.int 1 r) (.int 0 v.tz) .none) 6) (put v.dx (dictOf (oneD v.ks (.ref v.y) (.bytes #[109] v.t0) .none (.int 0 t) (.int 0 v.tz) .none) 6) news))) (put v.dx (dictOf (oneD v.ks (.ref v.y) (.bytes #[109] v.t0) .none (.int 0 q) (.int 0 v.tz) .none) 6) (put v.ll (PySem.W.listOf (v.vl.toArray.push (.bytes #[109] v.t0)) (v.nl + 1)) news)) := fun t r q => by rw [← e4 t r q]; exact (G3 t r).D.uF (.int 0 q)
  have e6 : ∀ q r, put v.dx (dictOf (oneD v.ks (.ref v.y) (.bytes #[109] v.t0) .none (.int 1 r) (.int 0 v.tz) .none) 6) (put v.lc (PySem.W.listOf (v.vc.toArray.push (.bytes #[109] v.t0)) (v.nc + 1)) (put v.dx (dictOf (oneD v.ks (.ref v.y) (.bytes #[109] v.t0) .none (.int 0 q) (.int 0 v.tz) .none) 6) (put v.ll (PySem.W.listOf (v.vl.toArray.push (.bytes #[109] v.t0)) (v.nl + 1)) news))) = put v.dx (dictOf (oneD v.ks (.ref v.y) (.bytes #[109] v.t0) .none (.int 1 r) (.int 0 v.tz) .none) 6) (put v.lc (PySem.W.listOf (v.vc.toArray.push (.bytes #[109] v.t0)) (v.nc + 1)) (put v.ll (PySem.W.listOf (v.vl.toArray.push (.bytes #[109] v.t0)) (v.nl + 1)) news)) := fun q r => put_drop G.nfc
  have G5 := fun q => (G4 q).pushC
  have G6 : ∀ r, St (put v.dx (dictOf (oneD v.ks (.ref v.y) (.bytes #[109] v.t0) .none (.int 1 r) (.int 0 v.tz) .none) 6) (put v.lc (PySem.W.listOf (v.vc.toArray.push (.bytes #[109] v.t0)) (v.nc + 1)) (put v.ll (PySem.W.listOf (v.vl.toArray.push (.bytes #[109] v.t0)) (v.nl + 1)) news))) { v with F := .int 1 r, vl := v.vl ++ [.bytes #[109] v.t0], nl := v.nl + 1, vc := v.vc ++ [.bytes #[109] v.t0], nc := v.nc + 1 } u true true false (n + 1 + 1) := fun r => by rw [← e6 0 r]; exact (G5 0).setF (.k1 r)
  have U6 : ∀ q r, Upd v.dx (dictOf (oneD v.ks (.ref v.y) (.bytes #[109] v.t0) .none (.int 0 q) (.int 0 v.tz) .none) 6) (dictOf (oneD v.ks (.ref v.y) (.bytes #[109] v.t0) .none (.int 1 r) (.int 0 v.tz) .none) 6) (put v.lc (PySem.W.listOf (v.vc.toArray.push (.bytes #[109] v.t0)) (v.nc + 1)) (put v.dx (dictOf (oneD v.ks (.ref v.y) (.bytes #[109] v.t0) .none (.int 0 q) (.int 0 v.tz) .none) 6) (put v.ll (PySem.W.listOf (v.vl.toArray.push (.bytes #[109] v.t0)) (v.nl + 1)) news))) (put v.dx (dictOf (oneD v.ks (.ref v.y) (.bytes #[109] v.t0) .none (.int 1 r) (.int 0 v.tz) .none) 6) (put v.lc (PySem.W.listOf (v.vc.toArray.push (.bytes #[109] v.t0)) (v.nc + 1)) (put v.ll (PySem.W.listOf (v.vl.toArray.push (.bytes #[109] v.t0)) (v.nl + 1)) news))) := fun q r => by rw [← e6 q r]; exact (G5 q).D.uF (.int 1 r)
  refine t0_onN (n₁ := fun t => put v.dx (dictOf (oneD v.ks (.ref v.y) (.bytes #[109] v.t0) .none (.int 0 t) (.int 0 v.tz) .none) 6) news) (n₂ := fun t r => put v.dx (dictOf (oneD v.ks (.ref v.y) (.bytes #[109] v.t0) .none (.int 1 r) (.int 0 v.tz) .none) 6) (put v.dx (dictOf (oneD v.ks (.ref v.y) (.bytes #[109] v.t0) .none (.int 0 t) (.int 0 v.tz) .none) 6) news)) (n₃ := fun t r => put v.ll (PySem.W.listOf (v.vl.toArray.push (.bytes #[109] v.t0)) (v.nl + 1)) (put v.dx (dictOf (oneD v.ks (.ref v.y) (.bytes #[109] v.t0) .none (.int 1 r) (.int 0 v.tz) .none) 6) (put v.dx (dictOf (oneD v.ks (.ref v.y) (.bytes #[109] v.t0) .none (.int 0 t) (.int 0 v.tz) .none) 6) news))) (n₄ := fun q => put v.dx (dictOf (oneD v.ks (.ref v.y) (.bytes #[109] v.t0) .none (.int 0 q) (.int 0 v.tz) .none) 6) (put v.ll (PySem.W.listOf (v.vl.toArray.push (.bytes #[109] v.t0)) (v.nl + 1)) news)) (n₅ := fun q => put v.lc (PySem.W.listOf (v.vc.toArray.push (.bytes #[109] v.t0)) (v.nc + 1)) (put v.dx (dictOf (oneD v.ks (.ref v.y) (.bytes #[109] v.t0) .none (.int 0 q) (.int 0 v.tz) .none) 6) (put v.ll (PySem.W.listOf (v.vl.toArray.push (.bytes #[109] v.t0)) (v.nl + 1)) news))) (n' := fun r => put v.dx (dictOf (oneD v.ks (.ref v.y) (.bytes #[109] v.t0) .none (.int 1 r) (.int 0 v.tz) .none) 6) (put v.lc (PySem.W.listOf (v.vc.toArray.push (.bytes #[109] v.t0)) (v.nc + 1)) (put v.ll (PySem.W.listOf (v.vl.toArray.push (.bytes #[109] v.t0)) (v.nl + 1)) news))) XB TB B D T0 F N hk (G.D.jars G.S) rfl (by omega) (by omega) DD W e hf hf2 (Nat.le_trans G.bl (by omega)) (Nat.le_trans G.bc (by omega)) (fun t => G0.D.uF (.int 0 t)) (fun t r => (G1 t).D.uF (.int 1 r)) (fun t r => (G2 t r).D.uL _) U4 (fun q => (G4 q).D.uC _) U6 ?_; intro h₀' h' tk' ts r T' F' N' B' D' X' P'; exact ret _ _ _ _ _ _ T' F' N' B' D' X' P' (G6 r)

theorem wt0_noN0 {w : World} {loose : List Str} {mean : ExcName → Option Value} {mg mb : Str → Option Value} {dp un : Nat} {gd : Option (List Code)} {cn : Str} {cs : Scope} {a : Addr} {ccd : Value} {cl : List (Str × Addr)} {outer : List Env} {A₀ : Around} {base h₀ g₀ : Heap} {L : Addr} {m : Str → Option Value}
    {news : List (Addr × Obj)} {s : Shared} {Q E : Value → Shared → Prop} {v : V} {u : U} {n : Nat} {f : Addr} {z : Value}
    (XB : (Mine.hd.heap_39 w.params).In base) (TB : Top topProg loose mean mg mb base) (B : Below A₀ base outer h₀) (D : KtsDicts (frs outer) h₀) (T0 : KtsTurn (frs outer) g₀ h₀) (F : Fr h₀ L s.heap m) (N : News h₀ L s.heap news) (hk : cs.kind = .function) (hdp : dp + 80 < recursionLimit) (hun : un + 400 < cLine) (hn : n ≤ 100) (G : St news v u false false false n) (DD : Deed news f v.x 0 z) (W : Word news true z) (hf : v.f0 = true)
    (ret : ∀ h₀' h' tk' ts news' F', KtsTurn (frs outer) g₀ h₀' → Fr h₀' L h' m → News h₀' L h' news' → Below A₀ base outer h₀' → KtsDicts (frs outer) h₀' → (Mine.hd.heap_39 w.params).In h₀' → Top topProg loose mean mg mb h₀' → St news' { v with F := F' } u false false false (n + 1) → Q (.str "failed" ts) { s with heap := h', toks := tk' }) :
    wpAny (model PySem.Challenge.rw_am6027_01.row.prog w) (top none dp un gd cn cs L a ccd cl outer) (PySem.call (.ref 339) [.ref f]) Q E s := by
  obtain ⟨e, -, -⟩ := G.fl.no
  have G0 := G.isF e
  have G1 := fun t => G0.setF (.k0 t)
  have G2 := fun t r => (G1 t).setF (.k1 r)
  have e3 : ∀ t r, put v.dx (dictOf (oneD v.ks (.ref v.y) (.bytes #[109] v.t0) .none .none (.int 0 v.tz) .none) 6) (put v.dx (dictOf (oneD v.ks (.ref v.y) (.bytes #[109] v.t0) .none (.int 1 r) (.int 0 v.tz) .none) 6) (put v.dx (dictOf (oneD v.ks (.ref v.y) (.bytes #[109] v.t0) .none (.int 0 t) (.int 0 v.tz) .none) 6) news)) = put v.dx (dictOf (oneD v.ks (.ref v.y) (.bytes #[109] v.t0) .none .none (.int 0 v.tz) .none) 6) news := fun t r => by rw [put_same, put_same]
  refine t0_noN0 (n₁ := fun t => put v.dx (dictOf (oneD v.ks (.ref v.y) (.bytes #[109] v.t0) .none (.int 0 t) (.int 0 v.tz) .none) 6) news) (n₂ := fun t r => put v.dx (dictOf (oneD v.ks (.ref v.y) (.bytes #[109] v.t0) .none (.int 1 r) (.int 0 v.tz) .none) 6) (put v.dx (dictOf (oneD v.ks (.ref v.y) (.bytes #[109] v.t0) .none (.int 0 t) (.int 0 v.tz) .none) 6) news)) (n' := put v.dx (dictOf (oneD v.ks (.ref v.y) (.bytes #[109] v.t0) .none .none (.int 0 v.tz) .none) 6) news) XB TB B D T0 F N hk (G.D.jars G.S) rfl (by omega) (by omega) DD W e hf (fun t => G0.D.uF (.int 0 t)) (fun t r => (G1 t).D.uF (.int 1 r)) (fun t r => by rw [← e3 t r]; exact (G2 t r).D.uF .none) ?_; intro h₀' h' tk' ts T' F' N' B' D' X' P'; exact ret _ _ _ _ _ _ T' F' N' B' D' X' P' ((G0.setF .ghost).more)

theorem wtr_ok {w : World} {loose : List Str} {mean : ExcName → Option Value} {mg mb : Str → Option Value} {dp un : Nat} {gd : Option (List Code)} {cn : Str} {cs : Scope} {a : Addr} {ccd : Value} {cl : List (Str × Addr)} {outer : List Env} {A₀ : Around} {base h₀ g₀ : Heap} {L : Addr} {m : Str → Option Value}
    {news : List (Addr × Obj)} {s : Shared} {Q E : Value → Shared → Prop} {v : V} {u : U} {n : Nat} {f : Addr} {ld mk st : Bool}
    (XB : (Mine.hd.heap_39 w.params).In base) (TB : Top topProg loose mean mg mb base) (B : Below A₀ base outer h₀) (D : KtsDicts (frs outer) h₀) (T0 : KtsTurn (frs outer) g₀ h₀) (F : Fr h₀ L s.heap m) (N : News h₀ L s.heap news) (hk : cs.kind = .function) (hdp : dp + 80 < recursionLimit) (hun : un + 400 < cLine) (hn : n ≤ 100) (G : St news v u ld mk st n) (DD : RegDeed news f v.x) (hf : v.f1 = false)
    (ret : ∀ h₀' h' tk' ts news', KtsTurn (frs outer) g₀ h₀' → Fr h₀' L h' m → News h₀' L h' news' → Below A₀ base outer h₀' → KtsDicts (frs outer) h₀' → (Mine.hd.heap_39 w.params).In h₀' → Top topProg loose mean mg mb h₀' → St news' { v with vc := v.vc ++ [.bytes #[109] v.t0], nc := v.nc + 1 } u ld mk st (n + 1) → Q (.str "done" ts) { s with heap := h', toks := tk' }) :
    wpAny (model PySem.Challenge.rw_am6027_01.row.prog w) (top none dp un gd cn cs L a ccd cl outer) (PySem.call (.ref 339) [.ref f]) Q E s := by
  refine tr_ok XB TB B D T0 F N hk (G.D.jars G.S) rfl (by omega) (by omega) DD hf (Nat.le_trans G.bc (by omega)) (G.D.uC _) ?_; intro h₀' h' tk' ts T' F' N' B' D' X' P'; exact ret _ _ _ _ _ T' F' N' B' D' X' P' G.pushC

theorem wtr_no {w : World} {loose : List Str} {mean : ExcName → Option Value} {mg mb : Str → Option Value} {dp un : Nat} {gd : Option (List Code)} {cn : Str} {cs : Scope} {a : Addr} {ccd : Value} {cl : List (Str × Addr)} {outer : List Env} {A₀ : Around} {base h₀ g₀ : Heap} {L : Addr} {m : Str → Option Value}
    {news : List (Addr × Obj)} {s : Shared} {Q E : Value → Shared → Prop} {v : V} {u : U} {n : Nat} {f : Addr} {ld mk st : Bool}
    (XB : (Mine.hd.heap_39 w.params).In base) (TB : Top topProg loose mean mg mb base) (B : Below A₀ base outer h₀) (D : KtsDicts (frs outer) h₀) (T0 : KtsTurn (frs outer) g₀ h₀) (F : Fr h₀ L s.heap m) (N : News h₀ L s.heap news) (hk : cs.kind = .function) (hdp : dp + 80 < recursionLimit) (hun : un + 400 < cLine) (hn : n ≤ 100) (G : St news v u ld mk st n) (DD : RegDeed news f v.x) (hf : v.f1 = true)
    (ret : ∀ h₀' h' tk' ts news', KtsTurn (frs outer) g₀ h₀' → Fr h₀' L h' m → News h₀' L h' news' → Below A₀ base outer h₀' → KtsDicts (frs outer) h₀' → (Mine.hd.heap_39 w.params).In h₀' → Top topProg loose mean mg mb h₀' → St news' v u ld mk st (n + 1) → Q (.str "failed" ts) { s with heap := h', toks := tk' }) :
    wpAny (model PySem.Challenge.rw_am6027_01.row.prog w) (top none dp un gd cn cs L a ccd cl outer) (PySem.call (.ref 339) [.ref f]) Q E s := by
  refine tr_no XB TB B D T0 F N hk (G.D.jars G.S) rfl (by omega) (by omega) DD hf ?_; intro h₀' h' tk' ts T' F' N' B' D' X' P'; exact ret _ _ _ _ _ T' F' N' B' D' X' P' G.more

theorem wset_offN {w : World} {loose : List Str} {mean : ExcName → Option Value} {mg mb : Str → Option Value} {dp un : Nat} {gd : Option (List Code)} {cn : Str} {cs : Scope} {a : Addr} {ccd : Value} {cl : List (Str × Addr)} {outer : List Env} {A₀ : Around} {base h₀ g₀ : Heap} {L : Addr} {m : Str → Option Value}
    {news : List (Addr × Obj)} {s : Shared} {Q E : Value → Shared → Prop} {v : V} {u : U} {n : Nat} {z : Value}
    (XB : (Mine.hd.heap_39 w.params).In base) (TB : Top topProg loose mean mg mb base) (B : Below A₀ base outer h₀) (D : KtsDicts (frs outer) h₀) (T0 : KtsTurn (frs outer) g₀ h₀) (F : Fr h₀ L s.heap m) (N : News h₀ L s.heap news) (hk : cs.kind = .function) (hdp : dp + 80 < recursionLimit) (hun : un + 400 < cLine) (hn : n ≤ 100) (G : St news v u false false false n) (W : Word news false z)
    (ret : ∀ h₀' h' tk' news' F', KtsTurn (frs outer) g₀ h₀' → Fr h₀' L h' m → News h₀' L h' news' → Below A₀ base outer h₀' → KtsDicts (frs outer) h₀' → (Mine.hd.heap_39 w.params).In h₀' → Top topProg loose mean mg mb h₀' → St news' { v with F := F' } u false false false (n + 1) → Q .none { s with heap := h', toks := tk' }) :
    wpAny (model PySem.Challenge.rw_am6027_01.row.prog w) (top none dp un gd cn cs L a ccd cl outer) (PySem.call (.ref 325) [.ref v.x, z]) Q E s := by
  obtain ⟨e, -, -⟩ := G.fl.no
  refine set_offN XB TB B D T0 F N hk (G.D.jars G.S) rfl (by omega) (by omega) W e ?_; intro h₀' h' tk' T' F' N' B' D' X' P'; exact ret _ _ _ _ _ T' F' N' B' D' X' P' ((G.isF e).more)

theorem wset_off {w : World} {loose : List Str} {mean : ExcName → Option Value} {mg mb : Str → Option Value} {dp un : Nat} {gd : Option (List Code)} {cn : Str} {cs : Scope} {a : Addr} {ccd : Value} {cl : List (Str × Addr)} {outer : List Env} {A₀ : Around} {base h₀ g₀ : Heap} {L : Addr} {m : Str → Option Value}
    {news : List (Addr × Obj)} {s : Shared} {Q E : Value → Shared → Prop} {v : V} {u : U} {n : Nat} {z : Value} {mk st : Bool}
    (XB : (Mine.hd.heap_39 w.params).In base) (TB : Top topProg loose mean mg mb base) (B : Below A₀ base outer h₀) (D : KtsDicts (frs outer) h₀) (T0 : KtsTurn (frs outer) g₀ h₀) (F : Fr h₀ L s.heap m) (N : News h₀ L s.heap news) (hk : cs.kind = .function) (hdp : dp + 80 < recursionLimit) (hun : un + 400 < cLine) (hn : n ≤ 100) (G : St news v u true mk st n) (W : Word news false z)
    (ret : ∀ h₀' h' tk' news' F', KtsTurn (frs outer) g₀ h₀' → Fr h₀' L h' m → News h₀' L h' news' → Below A₀ base outer h₀' → KtsDicts (frs outer) h₀' → (Mine.hd.heap_39 w.params).In h₀' → Top topProg loose mean mg mb h₀' → St news' { v with F := F' } u true false st (n + 1) → Q .none { s with heap := h', toks := tk' }) :
    wpAny (model PySem.Challenge.rw_am6027_01.row.prog w) (top none dp un gd cn cs L a ccd cl outer) (PySem.call (.ref 325) [.ref v.x, z]) Q E s := by
  cases mk with
  | false =>
    obtain ⟨t, ⟨rfl, e⟩ | ⟨rfl, e⟩⟩ := G.fl.tf
    · refine set_off0 XB TB B D T0 F N hk (G.D.jars G.S) rfl (by omega) (by omega) W e (fun t => G.D.uF _) ?_; intro h₀' h' tk' t T' F' N' B' D' X' P'; exact ret _ _ _ _ _ T' F' N' B' D' X' P' ((G.setF (.k0 t)).more)
    · refine set_off2 XB TB B D T0 F N hk (G.D.jars G.S) rfl (by omega) (by omega) W e (fun t => G.D.uF _) ?_; intro h₀' h' tk' t T' F' N' B' D' X' P'; exact ret _ _ _ _ _ T' F' N' B' D' X' P' ((G.setF (.k2 t)).more)
  | true =>
    obtain ⟨t, ⟨rfl, e⟩ | ⟨rfl, e⟩⟩ := G.fl.tt
    · refine set_off1 XB TB B D T0 F N hk (G.D.jars G.S) rfl (by omega) (by omega) W e (fun t => G.D.uF _) ?_; intro h₀' h' tk' t T' F' N' B' D' X' P'; exact ret _ _ _ _ _ T' F' N' B' D' X' P' ((G.setF (.k0 t)).more)
    · refine set_off3 XB TB B D T0 F N hk (G.D.jars G.S) rfl (by omega) (by omega) W e (fun t => G.D.uF _) ?_; intro h₀' h' tk' t T' F' N' B' D' X' P'; exact ret _ _ _ _ _ T' F' N' B' D' X' P' ((G.setF (.k2 t)).more)

theorem wflag_off {w : World} {loose : List Str} {mean : ExcName → Option Value} {mg mb : Str → Option Value} {dp un : Nat} {gd : Option (List Code)} {cn : Str} {cs : Scope} {a : Addr} {ccd : Value} {cl : List (Str × Addr)} {outer : List Env} {A₀ : Around} {base h₀ g₀ : Heap} {L : Addr} {m : Str → Option Value}
    {news : List (Addr × Obj)} {s : Shared} {Q E : Value → Shared → Prop} {v : V} {u : U} {n : Nat} {z : Value} {mk st : Bool}
    (XB : (Mine.hd.heap_39 w.params).In base) (TB : Top topProg loose mean mg mb base) (B : Below A₀ base outer h₀) (D : KtsDicts (frs outer) h₀) (T0 : KtsTurn (frs outer) g₀ h₀) (F : Fr h₀ L s.heap m) (N : News h₀ L s.heap news) (hk : cs.kind = .function) (hdp : dp + 80 < recursionLimit) (hun : un + 400 < cLine) (hn : n ≤ 100) (G : St news v u true mk st n) (W : Word news false z)
    (ret : ∀ h₀' h' tk' news' F', KtsTurn (frs outer) g₀ h₀' → Fr h₀' L h' m → News h₀' L h' news' → Below A₀ base outer h₀' → KtsDicts (frs outer) h₀' → (Mine.hd.heap_39 w.params).In h₀' → Top topProg loose mean mg mb h₀' → St news' { v with F := F' } u true false st (n + 1) → Q .none { s with heap := h', toks := tk' }) :
    wpAny (model PySem.Challenge.rw_am6027_01.row.prog w) (top none dp un gd cn cs L a ccd cl outer) (PySem.call (.ref 275) [.ref v.x, z]) Q E s := by
  cases mk with
  | false =>
    obtain ⟨t, ⟨rfl, e⟩ | ⟨rfl, e⟩⟩ := G.fl.tf
    · refine flag_off0 XB TB B D T0 F N hk (G.D.jars G.S) rfl (by omega) (by omega) W e (fun t => G.D.uF _) ?_; intro h₀' h' tk' t T' F' N' B' D' X' P'; exact ret _ _ _ _ _ T' F' N' B' D' X' P' ((G.setF (.k0 t)).more)
    · refine flag_off2 XB TB B D T0 F N hk (G.D.jars G.S) rfl (by omega) (by omega) W e (fun t => G.D.uF _) ?_; intro h₀' h' tk' t T' F' N' B' D' X' P'; exact ret _ _ _ _ _ T' F' N' B' D' X' P' ((G.setF (.k2 t)).more)
  | true =>
    obtain ⟨t, ⟨rfl, e⟩ | ⟨rfl, e⟩⟩ := G.fl.tt
    · refine flag_off1 XB TB B D T0 F N hk (G.D.jars G.S) rfl (by omega) (by omega) W e (fun t => G.D.uF _) ?_; intro h₀' h' tk' t T' F' N' B' D' X' P'; exact ret _ _ _ _ _ T' F' N' B' D' X' P' ((G.setF (.k0 t)).more)
    · refine flag_off3 XB TB B D T0 F N hk (G.D.jars G.S) rfl (by omega) (by omega) W e (fun t => G.D.uF _) ?_; intro h₀' h' tk' t T' F' N' B' D' X' P'; exact ret _ _ _ _ _ T' F' N' B' D' X' P' ((G.setF (.k2 t)).more)

theorem wset_noneN {w : World} {loose : List Str} {mean : ExcName → Option Value} {mg mb : Str → Option Value} {dp un : Nat} {gd : Option (List Code)} {cn : Str} {cs : Scope} {a : Addr} {ccd : Value} {cl : List (Str × Addr)} {outer : List Env} {A₀ : Around} {base h₀ g₀ : Heap} {L : Addr} {m : Str → Option Value}
    {news : List (Addr × Obj)} {s : Shared} {Q E : Value → Shared → Prop} {v : V} {u : U} {n : Nat}
    (XB : (Mine.hd.heap_39 w.params).In base) (TB : Top topProg loose mean mg mb base) (B : Below A₀ base outer h₀) (D : KtsDicts (frs outer) h₀) (T0 : KtsTurn (frs outer) g₀ h₀) (F : Fr h₀ L s.heap m) (N : News h₀ L s.heap news) (hk : cs.kind = .function) (hdp : dp + 80 < recursionLimit) (hun : un + 400 < cLine) (hn : n ≤ 100) (G : St news v u false false false n) 
    (ret : ∀ h₀' h' tk' news' F', KtsTurn (frs outer) g₀ h₀' → Fr h₀' L h' m → News h₀' L h' news' → Below A₀ base outer h₀' → KtsDicts (frs outer) h₀' → (Mine.hd.heap_39 w.params).In h₀' → Top topProg loose mean mg mb h₀' → St news' { v with F := F' } u false false false (n + 1) → Q .none { s with heap := h', toks := tk' }) :
    wpAny (model PySem.Challenge.rw_am6027_01.row.prog w) (top none dp un gd cn cs L a ccd cl outer) (PySem.call (.ref 325) [.ref v.x, .none]) Q E s := by
  obtain ⟨e, -, -⟩ := G.fl.no
  refine set_noneN XB TB B D T0 F N hk (G.D.jars G.S) rfl (by omega) (by omega) e ?_; intro h₀' h' tk' T' F' N' B' D' X' P'; exact ret _ _ _ _ _ T' F' N' B' D' X' P' ((G.isF e).more)

theorem wset_none0 {w : World} {loose : List Str} {mean : ExcName → Option Value} {mg mb : Str → Option Value} {dp un : Nat} {gd : Option (List Code)} {cn : Str} {cs : Scope} {a : Addr} {ccd : Value} {cl : List (Str × Addr)} {outer : List Env} {A₀ : Around} {base h₀ g₀ : Heap} {L : Addr} {m : Str → Option Value}
    {news : List (Addr × Obj)} {s : Shared} {Q E : Value → Shared → Prop} {v : V} {u : U} {n : Nat}
    (XB : (Mine.hd.heap_39 w.params).In base) (TB : Top topProg loose mean mg mb base) (B : Below A₀ base outer h₀) (D : KtsDicts (frs outer) h₀) (T0 : KtsTurn (frs outer) g₀ h₀) (F : Fr h₀ L s.heap m) (N : News h₀ L s.heap news) (hk : cs.kind = .function) (hdp : dp + 80 < recursionLimit) (hun : un + 400 < cLine) (hn : n ≤ 100) (G : St news v u true false false n) 
    (ret : ∀ h₀' h' tk' news' F', KtsTurn (frs outer) g₀ h₀' → Fr h₀' L h' m → News h₀' L h' news' → Below A₀ base outer h₀' → KtsDicts (frs outer) h₀' → (Mine.hd.heap_39 w.params).In h₀' → Top topProg loose mean mg mb h₀' → St news' { v with F := F' } u false false false (n + 1) → Q .none { s with heap := h', toks := tk' }) :
    wpAny (model PySem.Challenge.rw_am6027_01.row.prog w) (top none dp un gd cn cs L a ccd cl outer) (PySem.call (.ref 325) [.ref v.x, .none]) Q E s := by
  obtain ⟨t, ⟨-, e⟩ | ⟨h, -⟩⟩ := G.fl.tf
  · refine set_none0 XB TB B D T0 F N hk (G.D.jars G.S) rfl (by omega) (by omega) e (G.D.uF _) ?_; intro h₀' h' tk' T' F' N' B' D' X' P'; exact ret _ _ _ _ _ T' F' N' B' D' X' P' ((G.setF .ghost).more)
  · cases h

theorem wset_none2 {w : World} {loose : List Str} {mean : ExcName → Option Value} {mg mb : Str → Option Value} {dp un : Nat} {gd : Option (List Code)} {cn : Str} {cs : Scope} {a : Addr} {ccd : Value} {cl : List (Str × Addr)} {outer : List Env} {A₀ : Around} {base h₀ g₀ : Heap} {L : Addr} {m : Str → Option Value}
    {news : List (Addr × Obj)} {s : Shared} {Q E : Value → Shared → Prop} {v : V} {u : U} {n : Nat}
    (XB : (Mine.hd.heap_39 w.params).In base) (TB : Top topProg loose mean mg mb base) (B : Below A₀ base outer h₀) (D : KtsDicts (frs outer) h₀) (T0 : KtsTurn (frs outer) g₀ h₀) (F : Fr h₀ L s.heap m) (N : News h₀ L s.heap news) (hk : cs.kind = .function) (hdp : dp + 80 < recursionLimit) (hun : un + 400 < cLine) (hn : n ≤ 100) (G : St news v u true false true n) 
    (ret : ∀ h₀' h' tk' news' F', KtsTurn (frs outer) g₀ h₀' → Fr h₀' L h' m → News h₀' L h' news' → Below A₀ base outer h₀' → KtsDicts (frs outer) h₀' → (Mine.hd.heap_39 w.params).In h₀' → Top topProg loose mean mg mb h₀' → St news' { v with F := F' } u true false true (n + 1) → Q .none { s with heap := h', toks := tk' }) :
    wpAny (model PySem.Challenge.rw_am6027_01.row.prog w) (top none dp un gd cn cs L a ccd cl outer) (PySem.call (.ref 325) [.ref v.x, .none]) Q E s := by
  obtain ⟨t, ⟨h, -⟩ | ⟨-, e⟩⟩ := G.fl.tf
  · cases h
  · refine set_none2 XB TB B D T0 F N hk (G.D.jars G.S) rfl (by omega) (by omega) e ?_; intro h₀' h' tk' T' F' N' B' D' X' P'; exact ret _ _ _ _ _ T' F' N' B' D' X' P' ((G.isF e).more)

theorem wset_none1 {w : World} {loose : List Str} {mean : ExcName → Option Value} {mg mb : Str → Option Value} {dp un : Nat} {gd : Option (List Code)} {cn : Str} {cs : Scope} {a : Addr} {ccd : Value} {cl : List (Str × Addr)} {outer : List Env} {A₀ : Around} {base h₀ g₀ : Heap} {L : Addr} {m : Str → Option Value}
    {news : List (Addr × Obj)} {s : Shared} {Q E : Value → Shared → Prop} {v : V} {u : U} {n : Nat} {st : Bool}
    (XB : (Mine.hd.heap_39 w.params).In base) (TB : Top topProg loose mean mg mb base) (B : Below A₀ base outer h₀) (D : KtsDicts (frs outer) h₀) (T0 : KtsTurn (frs outer) g₀ h₀) (F : Fr h₀ L s.heap m) (N : News h₀ L s.heap news) (hk : cs.kind = .function) (hdp : dp + 80 < recursionLimit) (hun : un + 400 < cLine) (hn : n ≤ 100) (G : St news v u true true st n) 
    (ret : ∀ h₀' h' tk' news' F', KtsTurn (frs outer) g₀ h₀' → Fr h₀' L h' m → News h₀' L h' news' → Below A₀ base outer h₀' → KtsDicts (frs outer) h₀' → (Mine.hd.heap_39 w.params).In h₀' → Top topProg loose mean mg mb h₀' → St news' { v with F := F' } u true true st (n + 1) → Q .none { s with heap := h', toks := tk' }) :
    wpAny (model PySem.Challenge.rw_am6027_01.row.prog w) (top none dp un gd cn cs L a ccd cl outer) (PySem.call (.ref 325) [.ref v.x, .none]) Q E s := by
  obtain ⟨t, ⟨rfl, e⟩ | ⟨rfl, e⟩⟩ := G.fl.tt
  · refine set_none1 XB TB B D T0 F N hk (G.D.jars G.S) rfl (by omega) (by omega) e ?_; intro h₀' h' tk' T' F' N' B' D' X' P'; exact ret _ _ _ _ _ T' F' N' B' D' X' P' ((G.isF e).more)
  · refine set_none3 XB TB B D T0 F N hk (G.D.jars G.S) rfl (by omega) (by omega) e ?_; intro h₀' h' tk' T' F' N' B' D' X' P'; exact ret _ _ _ _ _ T' F' N' B' D' X' P' ((G.isF e).more)

theorem wdrop {w : World} {loose : List Str} {mean : ExcName → Option Value} {mg mb : Str → Option Value} {dp un : Nat} {gd : Option (List Code)} {cn : Str} {cs : Scope} {a : Addr} {ccd : Value} {cl : List (Str × Addr)} {outer : List Env} {A₀ : Around} {base h₀ g₀ : Heap} {L : Addr} {m : Str → Option Value}
    {news : List (Addr × Obj)} {s : Shared} {Q E : Value → Shared → Prop} {v : V} {u : U} {n : Nat} {ld mk st : Bool}
    (XB : (Mine.hd.heap_39 w.params).In base) (TB : Top topProg loose mean mg mb base) (B : Below A₀ base outer h₀) (D : KtsDicts (frs outer) h₀) (T0 : KtsTurn (frs outer) g₀ h₀) (F : Fr h₀ L s.heap m) (N : News h₀ L s.heap news) (hk : cs.kind = .function) (hdp : dp + 80 < recursionLimit) (hun : un + 400 < cLine) (hn : n ≤ 100) (G : St news v u ld mk st n) 
    (ret : ∀ h₀' h' tk' news' F', KtsTurn (frs outer) g₀ h₀' → Fr h₀' L h' m → News h₀' L h' news' → Below A₀ base outer h₀' → KtsDicts (frs outer) h₀' → (Mine.hd.heap_39 w.params).In h₀' → Top topProg loose mean mg mb h₀' → St news' { v with F := F' } u false false false (n + 1) → Q .none { s with heap := h', toks := tk' }) :
    wpAny (model PySem.Challenge.rw_am6027_01.row.prog w) (top none dp un gd cn cs L a ccd cl outer) (PySem.call (.ref 332) [.ref v.x]) Q E s := by
  refine drop XB TB B D T0 F N hk (G.D.jars G.S) rfl (by omega) (by omega) (fun t => G.D.uF (.int 0 t)) (fun t => (G.setF (.k0 t)).D.uF .none) ?_; intro h₀' h' tk' t T' F' N' B' D' X' P'; exact ret _ _ _ _ _ T' F' N' B' D' X' P' (((G.setF (.k0 t)).setF .ghost).more)

theorem wstick_true {w : World} {loose : List Str} {mean : ExcName → Option Value} {mg mb : Str → Option Value} {dp un : Nat} {gd : Option (List Code)} {cn : Str} {cs : Scope} {a : Addr} {ccd : Value} {cl : List (Str × Addr)} {outer : List Env} {A₀ : Around} {base h₀ g₀ : Heap} {L : Addr} {m : Str → Option Value}
    {news : List (Addr × Obj)} {s : Shared} {Q E : Value → Shared → Prop} {v : V} {u : U} {n : Nat} {mk st : Bool}
    (XB : (Mine.hd.heap_39 w.params).In base) (TB : Top topProg loose mean mg mb base) (B : Below A₀ base outer h₀) (D : KtsDicts (frs outer) h₀) (T0 : KtsTurn (frs outer) g₀ h₀) (F : Fr h₀ L s.heap m) (N : News h₀ L s.heap news) (hk : cs.kind = .function) (hdp : dp + 80 < recursionLimit) (hun : un + 400 < cLine) (hn : n ≤ 100) (G : St news v u true mk st n) 
    (ret : ∀ h₀' h' tk' news' F', KtsTurn (frs outer) g₀ h₀' → Fr h₀' L h' m → News h₀' L h' news' → Below A₀ base outer h₀' → KtsDicts (frs outer) h₀' → (Mine.hd.heap_39 w.params).In h₀' → Top topProg loose mean mg mb h₀' → St news' { v with F := F' } u true mk true (n + 1) → Q .none { s with heap := h', toks := tk' }) :
    wpAny (model PySem.Challenge.rw_am6027_01.row.prog w) (top none dp un gd cn cs L a ccd cl outer) (PySem.call (.ref 223) [.ref v.x, .bool true]) Q E s := by
  cases mk with
  | false =>
    obtain ⟨t, ⟨rfl, e⟩ | ⟨rfl, e⟩⟩ := G.fl.tf
    · refine stick0_true XB TB B D T0 F N hk (G.D.jars G.S) rfl (by omega) (by omega) e (fun t => G.D.uF _) ?_; intro h₀' h' tk' t T' F' N' B' D' X' P'; exact ret _ _ _ _ _ T' F' N' B' D' X' P' ((G.setF (.k2 t)).more)
    · refine stick2_true XB TB B D T0 F N hk (G.D.jars G.S) rfl (by omega) (by omega) e (fun t => G.D.uF _) ?_; intro h₀' h' tk' t T' F' N' B' D' X' P'; exact ret _ _ _ _ _ T' F' N' B' D' X' P' ((G.setF (.k2 t)).more)
  | true =>
    obtain ⟨t, ⟨rfl, e⟩ | ⟨rfl, e⟩⟩ := G.fl.tt
    · refine stick1_true XB TB B D T0 F N hk (G.D.jars G.S) rfl (by omega) (by omega) e (fun t => G.D.uF _) ?_; intro h₀' h' tk' t T' F' N' B' D' X' P'; exact ret _ _ _ _ _ T' F' N' B' D' X' P' ((G.setF (.k3 t)).more)
    · refine stick3_true XB TB B D T0 F N hk (G.D.jars G.S) rfl (by omega) (by omega) e (fun t => G.D.uF _) ?_; intro h₀' h' tk' t T' F' N' B' D' X' P'; exact ret _ _ _ _ _ T' F' N' B' D' X' P' ((G.setF (.k3 t)).more)

theorem wstick_false {w : World} {loose : List Str} {mean : ExcName → Option Value} {mg mb : Str → Option Value} {dp un : Nat} {gd : Option (List Code)} {cn : Str} {cs : Scope} {a : Addr} {ccd : Value} {cl : List (Str × Addr)} {outer : List Env} {A₀ : Around} {base h₀ g₀ : Heap} {L : Addr} {m : Str → Option Value}
    {news : List (Addr × Obj)} {s : Shared} {Q E : Value → Shared → Prop} {v : V} {u : U} {n : Nat} {mk st : Bool}
    (XB : (Mine.hd.heap_39 w.params).In base) (TB : Top topProg loose mean mg mb base) (B : Below A₀ base outer h₀) (D : KtsDicts (frs outer) h₀) (T0 : KtsTurn (frs outer) g₀ h₀) (F : Fr h₀ L s.heap m) (N : News h₀ L s.heap news) (hk : cs.kind = .function) (hdp : dp + 80 < recursionLimit) (hun : un + 400 < cLine) (hn : n ≤ 100) (G : St news v u true mk st n) 
    (ret : ∀ h₀' h' tk' news' F', KtsTurn (frs outer) g₀ h₀' → Fr h₀' L h' m → News h₀' L h' news' → Below A₀ base outer h₀' → KtsDicts (frs outer) h₀' → (Mine.hd.heap_39 w.params).In h₀' → Top topProg loose mean mg mb h₀' → St news' { v with F := F' } u true mk false (n + 1) → Q .none { s with heap := h', toks := tk' }) :
    wpAny (model PySem.Challenge.rw_am6027_01.row.prog w) (top none dp un gd cn cs L a ccd cl outer) (PySem.call (.ref 223) [.ref v.x, .bool false]) Q E s := by
  cases mk with
  | false =>
    obtain ⟨t, ⟨rfl, e⟩ | ⟨rfl, e⟩⟩ := G.fl.tf
    · refine stick0_false XB TB B D T0 F N hk (G.D.jars G.S) rfl (by omega) (by omega) e (fun t => G.D.uF _) ?_; intro h₀' h' tk' t T' F' N' B' D' X' P'; exact ret _ _ _ _ _ T' F' N' B' D' X' P' ((G.setF (.k0 t)).more)
    · refine stick2_false XB TB B D T0 F N hk (G.D.jars G.S) rfl (by omega) (by omega) e (fun t => G.D.uF _) ?_; intro h₀' h' tk' t T' F' N' B' D' X' P'; exact ret _ _ _ _ _ T' F' N' B' D' X' P' ((G.setF (.k0 t)).more)
  | true =>
    obtain ⟨t, ⟨rfl, e⟩ | ⟨rfl, e⟩⟩ := G.fl.tt
    · refine stick1_false XB TB B D T0 F N hk (G.D.jars G.S) rfl (by omega) (by omega) e (fun t => G.D.uF _) ?_; intro h₀' h' tk' t T' F' N' B' D' X' P'; exact ret _ _ _ _ _ T' F' N' B' D' X' P' ((G.setF (.k1 t)).more)
    · refine stick3_false XB TB B D T0 F N hk (G.D.jars G.S) rfl (by omega) (by omega) e (fun t => G.D.uF _) ?_; intro h₀' h' tk' t T' F' N' B' D' X' P'; exact ret _ _ _ _ _ T' F' N' B' D' X' P' ((G.setF (.k1 t)).more)
end Mine
end
section
open PySem PySem.W PyProof.Rows PySem.Calls
set_option Elab.async false
set_option maxRecDepth 100000
namespace Mine
theorem among_other {pos : Pos} {a b : Int} {c : Value} (l : List Value) (hn : (a == (pos.line : Int) && b == (pos.col : Int)) = false) : codeAmong pos (l ++ [rawInt a, rawInt b, c]) = codeAmong pos l ∨ ¬ TriplesOk l := by
  fun_induction TriplesOk l with
  | case1 =>
    left
    show (if (a == (pos.line : Int) && b == (pos.col : Int)) = true then some c else codeAmong pos []) = codeAmong pos []
    rw [hn]; rfl
  | case2 a' t b' u x rest ih =>
    rcases ih with ih | ih
    · left
      simp only [List.cons_append, codeAmong, ih]
    · right; exact ih
  | case3 l h1 h2 => right; exact fun h => h
theorem CodeAt.snoc {news news' : List (Addr × Obj)} {ps : Array Value} {pos : Pos} {a b : Int} {c : Value} {q : Str} (C : CodeAt news ps pos q) (ht : TriplesOk ps.toList) (hn : (a == (pos.line : Int) && b == (pos.col : Int)) = false)
    (h : ∀ c oc, c ≠ 348 → (c, oc) ∈ news → (c, oc) ∈ news') : CodeAt news' (ps ++ #[rawInt a, rawInt b, c]) pos q := by
  have e : codeAmong pos (ps ++ #[rawInt a, rawInt b, c]).toList = codeAmong pos ps.toList := by
    rw [Array.toList_append]
    exact (among_other (c := c) ps.toList hn).resolve_right fun z => z ht
  rcases C with C | ⟨c', oc, h1, h0, h2, r⟩
  · exact .inl (e.trans C)
  · exact .inr ⟨c', oc, e.trans h1, h0, h _ _ h0 h2, r⟩
abbrev lawCl (v : V) (u : U) : List (Str × Addr) := [("word", u.cw), ("one", u.co), ("kind", u.ck), ("jar", v.cj), ("fails", v.cf)]
section
variable {M : Model} {A : Around} {E : Value → Shared → Prop} {s : Shared} {h₀ : Heap} {L a : Addr} {m mg mb : Str → Option Value} {cs : Scope} {news : List (Addr × Obj)} {p : Program} {loose : List Str} {mean : ExcName → Option Value}
  {v : V} {u : U} {ld mk st : Bool} {n : Nat} {Q : Value → Shared → Prop}
theorem St.has (G : St news v u ld mk st n) {q : Addr × Obj} (h : q ∈ rows v u) : q ∈ news := G.D.mem _ h
theorem St.pushed (G : St news v u ld mk st n) {a : Addr} {o : Obj} (h : ∀ p ∈ news, p.1 < a) : St ((a, o) :: news) v u ld mk st n :=
  ⟨G.D.push h, G.S, G.C.push, G.fl, G.ml, G.mc, G.bl, G.bc, G.kc, G.wc, fun p hp => ⟨.tail _ (G.rs p hp).1, (G.rs p hp).2⟩⟩
theorem lt_cons {a b : Addr} {o : Obj} {l : List (Addr × Obj)} (h : ∀ p ∈ l, p.1 < a) (hab : a < b) : ∀ p ∈ (a, o) :: l, p.1 < b := fun p hp => by
  rcases List.mem_cons.mp hp with rfl | hp
  · exact hab
  · exact Nat.lt_trans (h p hp) hab
theorem put_lt {d b : Addr} {o o' : Obj} {l l' : List (Addr × Obj)} (U₁ : Upd d o o' l l') (h : ∀ p ∈ l, p.1 < b) : ∀ p ∈ l', p.1 < b := keys_all (P := fun a => a < b) (upd_keys U₁) h

theorem mk_deed {kd : Int} {tk : Tok} {z : Value} (F : Fr h₀ L s.heap m) (N : News h₀ L s.heap news) (T : Top p loose mean mg mb h₀) (C : CodeHd h₀ 352 348) (G : St news v u ld mk st n)
    (hk : u.ok.data = .cell (some (.int kd tk))) (hw : u.ow.data = .cell (some z)) (hkf : (envX "law" cs L a (.ref 352) (lawCl v u)).scope = cs)
    (hcl : closureFor deedS (envX "law" cs L a (.ref 352) (lawCl v u)) = pure ([("word", u.cw), ("one", u.co), ("kind", u.ck)] : List (Str × Addr)))
    (h : ∀ f h' tk' news' ps, Fr h₀ L h' m → News h₀ L h' news' → (∀ q ∈ news, tagO q.2 = 100 → q ∈ news') → St news' v { u with ps := ps } ld mk st n → Deed news' f v.x kd z → Q (.ref f) { s with heap := h', toks := tk' }) :
    wpAny M A (eval (.Lambda noArgs deedB deedS ⟨324, 19, 324, 94⟩) (envX "law" cs L a (.ref 352) (lawCl v u))) Q E s := by
  have m1 : (u.ck, u.ok) ∈ news := G.has (by simp [rows])
  have m2 : (u.co, u.oo) ∈ news := G.has (by simp [rows])
  have m3 : (u.cw, u.ow) ∈ news := G.has (by simp [rows])
  have m4 : (348, tabObj u.ps) ∈ news := G.has (by simp [rows])
  refine kla_eval rfl ?_
  rcases G.C.d with hn | ⟨c, oc, hc, hc0, hm, vs, t, hd, hv⟩
  · refine kla_nest F N T C rfl G.D.fP G.C.t hn hcl fun f c' oc vs t ctv h' tk' F' N' hd hv l1 l2 => ?_
    have UP := put_upd (o' := tabObj (u.ps ++ #[rawInt (324 : Nat), rawInt (19 : Nat), .ref c'])) G.D.nd m4
    have keep : ∀ b ob, b ≠ 348 → (b, ob) ∈ news → (b, ob) ∈ put 348 (tabObj (u.ps ++ #[rawInt (324 : Nat), rawInt (19 : Nat), .ref c'])) news := fun b ob hb hm => upd_keep UP hm hb
    have ne : c' ≠ 348 := fun e => by have := l1 _ m4; rw [e] at this; exact Nat.lt_irrefl _ this
    have D1 := (((G.D.setP (u.ps ++ #[rawInt (324 : Nat), rawInt (19 : Nat), .ref c'])).push (a := c') (o := oc) (put_lt UP l1)).push (a := f) (o := kla_obj "<lambda>" lamQ noArgs deedB deedS [("word", u.cw), ("one", u.co), ("kind", u.ck)] ((mg "__name__").getD .none) c' ctv) (lt_cons (put_lt UP l1) l2))
    refine h f h' tk' _ _ F' N' (fun q hq ht => .tail _ (.tail _ (upd_other UP hq (fun e => by rw [e] at ht; exact absurd (show (102 : Nat) = 100 from ht) (by decide))))) ⟨D1, ⟨G.S.os, G.S.or, G.S.ocf, G.S.ocj, G.S.oo⟩, ⟨?_, ?_, ?_⟩, G.fl, G.ml, G.mc, G.bl, G.bc, G.kc, G.wc, fun p hp => ⟨.tail _ (.tail _ (G.rsU UP (by simp) p hp).1), (G.rs p hp).2⟩⟩ ⟨_, u.ck, u.co, u.cw, _, c', _, oc, tk, u.ok, u.oo, u.ow, .head _, .tail _ (.head _), ⟨vs, t, hd, hv⟩, D1.mem _ (by simp [rows]), D1.mem _ (by simp [rows]), D1.mem _ (by simp [rows]), hk, G.S.oo, hw⟩
    · rw [Array.toList_append]; exact TriplesOk_snoc _ _ _ _ G.C.t
    · refine .inr ⟨c', oc, ?_, ne, .tail _ (.head _), vs, t, hd, hv⟩
      rw [Array.toList_append]; exact codeAmong_snoc _ G.C.t hn
    · exact G.C.r.snoc G.C.t (by decide) fun b ob hb hm => .tail _ (.tail _ (keep b ob hb hm))
  · refine kla_hit F N T C rfl m4 G.C.t hc hcl fun f ctv h' tk' F' N' l1 => ?_
    have G' := G.pushed (o := kla_obj "<lambda>" lamQ noArgs deedB deedS [("word", u.cw), ("one", u.co), ("kind", u.ck)] ((mg "__name__").getD .none) c ctv) l1
    exact h f h' tk' _ u.ps F' N' (fun q hq _ => .tail _ hq) G' ⟨_, u.ck, u.co, u.cw, _, c, _, oc, tk, u.ok, u.oo, u.ow, .head _, .tail _ hm, ⟨vs, t, hd, hv⟩, .tail _ m1, .tail _ m2, .tail _ m3, hk, G.S.oo, hw⟩

theorem mk_reg (F : Fr h₀ L s.heap m) (N : News h₀ L s.heap news) (T : Top p loose mean mg mb h₀) (C : CodeHd h₀ 352 348) (G : St news v u ld mk st n)
    (hcl : closureFor regS (envX "law" cs L a (.ref 352) (lawCl v u)) = pure ([("one", u.co)] : List (Str × Addr)))
    (h : ∀ f h' tk' news' ps, Fr h₀ L h' m → News h₀ L h' news' → St news' v { u with ps := ps } ld mk st n → RegDeed news' f v.x → Q (.ref f) { s with heap := h', toks := tk' }) :
    wpAny M A (eval (.Lambda noArgs regB regS ⟨350, 25, 350, 50⟩) (envX "law" cs L a (.ref 352) (lawCl v u))) Q E s := by
  have m2 : (u.co, u.oo) ∈ news := G.has (by simp [rows])
  have m4 : (348, tabObj u.ps) ∈ news := G.has (by simp [rows])
  refine kla_eval rfl ?_
  rcases G.C.r with hn | ⟨c, oc, hc, hc0, hm, vs, t, hd, hv⟩
  · refine kla_nest F N T C rfl G.D.fP G.C.t hn hcl fun f c' oc vs t ctv h' tk' F' N' hd hv l1 l2 => ?_
    have UP := put_upd (o' := tabObj (u.ps ++ #[rawInt (350 : Nat), rawInt (25 : Nat), .ref c'])) G.D.nd m4
    have keep : ∀ b ob, b ≠ 348 → (b, ob) ∈ news → (b, ob) ∈ put 348 (tabObj (u.ps ++ #[rawInt (350 : Nat), rawInt (25 : Nat), .ref c'])) news := fun b ob hb hm => upd_keep UP hm hb
    have ne : c' ≠ 348 := fun e => by have := l1 _ m4; rw [e] at this; exact Nat.lt_irrefl _ this
    have D1 := (((G.D.setP (u.ps ++ #[rawInt (350 : Nat), rawInt (25 : Nat), .ref c'])).push (a := c') (o := oc) (put_lt UP l1)).push (a := f) (o := kla_obj "<lambda>" lamQ noArgs regB regS [("one", u.co)] ((mg "__name__").getD .none) c' ctv) (lt_cons (put_lt UP l1) l2))
    refine h f h' tk' _ _ F' N' ⟨D1, ⟨G.S.os, G.S.or, G.S.ocf, G.S.ocj, G.S.oo⟩, ⟨?_, ?_, ?_⟩, G.fl, G.ml, G.mc, G.bl, G.bc, G.kc, G.wc, fun p hp => ⟨.tail _ (.tail _ (G.rsU UP (by simp) p hp).1), (G.rs p hp).2⟩⟩ ⟨_, u.co, _, c', _, oc, u.oo, .head _, .tail _ (.head _), ⟨vs, t, hd, hv⟩, D1.mem _ (by simp [rows]), G.S.oo⟩
    · rw [Array.toList_append]; exact TriplesOk_snoc _ _ _ _ G.C.t
    · exact G.C.d.snoc G.C.t (by decide) fun b ob hb hm => .tail _ (.tail _ (keep b ob hb hm))
    · refine .inr ⟨c', oc, ?_, ne, .tail _ (.head _), vs, t, hd, hv⟩
      rw [Array.toList_append]; exact codeAmong_snoc _ G.C.t hn
  · refine kla_hit F N T C rfl m4 G.C.t hc hcl fun f ctv h' tk' F' N' l1 => ?_
    have G' := G.pushed (o := kla_obj "<lambda>" lamQ noArgs regB regS [("one", u.co)] ((mg "__name__").getD .none) c ctv) l1
    exact h f h' tk' _ u.ps F' N' G' ⟨_, u.co, _, c, _, oc, u.oo, .head _, .tail _ hm, ⟨vs, t, hd, hv⟩, .tail _ m2, G.S.oo⟩
end
end Mine
end
section
open PySem PySem.W PyProof.Rows PySem.Calls
set_option Elab.async false
set_option maxRecDepth 100000
namespace Mine
def lastB : List Stmt → List Stmt
  | [.FunctionDef _ _ b _ _ _ _ _ _ _] => b
  | _ :: r => lastB r
  | [] => []
def lastS : List Stmt → Scope
  | [.FunctionDef _ _ _ _ _ _ sc _ _ _] => sc
  | _ :: r => lastS r
  | [] => { kind := .function, names := [], isGenerator := false, isCoroutine := false }
def forB : List Stmt → List Stmt
  | .For _ _ b _ _ :: _ => b
  | _ :: r => forB r
  | [] => []
def nthS : Nat → List Stmt → Stmt
  | 0, s :: _ => s
  | n + 1, _ :: r => nthS n r
  | _, [] => .Pass ⟨0, 0, 0, 0⟩
/-- the branches of an if -/
def thenB : Stmt → List Stmt
  | .If _ b _ _ => b
  | _ => []
def elseB : Stmt → List Stmt
  | .If _ _ b _ => b
  | _ => []
def lawB : List Stmt := lastB PySem.Challenge.pw_am6027_01.main.body
def lawS : Scope := lastS PySem.Challenge.pw_am6027_01.main.body
def loopB : List Stmt := forB lawB
end Mine
end
section
open PySem PySem.W PyProof.Rows PySem.Calls
set_option Elab.async false
set_option maxRecDepth 100000
namespace Mine
theorem lt_of_all {d : Addr} {l : List (Addr × Obj)} (h : AllLt d l) : ∀ p ∈ l, p.1 < d := by
  induction l with
  | nil => intro p hp; cases hp
  | cons q r ih =>
    intro p hp
    have h' : (q.1 < d) ∧ AllLt d r := h
    rcases List.mem_cons.mp hp with e | hp
    · rw [e]; exact h'.1
    · exact ih h'.2 p hp
theorem ne_of_all {d c : Addr} {o : Obj} {l : List (Addr × Obj)} (h : AllLt d l) (hm : (c, o) ∈ l) : d ≠ c := fun e => Nat.lt_irrefl _ (e ▸ lt_of_all h _ hm : c < c)
section
variable {news : List (Addr × Obj)} {v : V} {u : U} {ld mk st : Bool} {n : Nat} {d1 d2 : Addr} {o1 o2 o' : Obj}
theorem Led.mW (D : Led news v u) : (u.cw, u.ow) ∈ news := D.mem _ (by simp [rows])
theorem Led.mP (D : Led news v u) : (348, tabObj u.ps) ∈ news := D.mem _ (by simp [rows])
theorem Led.mcf (D : Led news v u) : (v.cf, v.ocf) ∈ news := D.mem _ (by simp [rows])
theorem Led.mcj (D : Led news v u) : (v.cj, v.ocj) ∈ news := D.mem _ (by simp [rows])
theorem Led.mco (D : Led news v u) : (u.co, u.oo) ∈ news := D.mem _ (by simp [rows])
theorem Led.mck (D : Led news v u) : (u.ck, u.ok) ∈ news := D.mem _ (by simp [rows])
theorem Led.mfl (D : Led news v u) : (v.fl, PySem.W.listOf #[.bool v.f0, .bool v.f1] v.nf) ∈ news := D.mem _ (by simp [rows])
theorem Led.mla (D : Led news v u) : (u.la, PySem.W.listOf u.va.toArray u.na) ∈ news := D.mem _ (by simp [rows])
theorem Led.mlt (D : Led news v u) : (u.lt, PySem.W.listOf u.vt.toArray u.nt) ∈ news := D.mem _ (by simp [rows])
theorem Led.fW1 (D : Led news v u) (h1 : ∀ p ∈ news, p.1 < d1) : UpdF u.cw u.ow ((d1, o1) :: news) (fun o' => (d1, o1) :: put u.cw o' news) := .tail (fun e => Nat.lt_irrefl u.cw (by have := h1 _ D.mW; rw [show d1 = u.cw from e] at this; exact this)) D.fW
theorem Led.fW2 (D : Led news v u) (h1 : ∀ p ∈ news, p.1 < d1) (h2 : d1 < d2 ∧ AllLt d2 news) : UpdF u.cw u.ow ((d2, o2) :: (d1, o1) :: news) (fun o' => (d2, o2) :: (d1, o1) :: put u.cw o' news) := .tail (ne_of_all h2.2 D.mW) (D.fW1 h1)
theorem tag_cell' {o : Obj} {c : Option Value} (h : o.data = .cell c) : tagO o ≠ 102 := by rw [tag_cell h]; decide
theorem St.setW (G : St news v u ld mk st n) {c : Option Value} (hd : o'.data = .cell c) : St (put u.cw o' news) v { u with ow := o' } ld mk st n := by
  obtain ⟨wc, hwc⟩ := G.wc
  exact ⟨G.D.setW o', ⟨G.S.os, G.S.or, G.S.ocf, G.S.ocj, G.S.oo⟩, G.C.upd (put_upd G.D.nd G.D.mW) (tag_cell' hwc), G.fl, G.ml, G.mc, G.bl, G.bc, G.kc, ⟨_, hd⟩, G.rsU (put_upd G.D.nd G.D.mW) (by simp)⟩
theorem St.setK (G : St news v u ld mk st n) {c : Option Value} (hd : o'.data = .cell c) : St (put u.ck o' news) v { u with ok := o' } ld mk st n := by
  obtain ⟨kc, hkc⟩ := G.kc
  exact ⟨G.D.setK o', ⟨G.S.os, G.S.or, G.S.ocf, G.S.ocj, G.S.oo⟩, G.C.upd (put_upd G.D.nd (G.D.mem _ (by simp [rows]))) (tag_cell' hkc), G.fl, G.ml, G.mc, G.bl, G.bc, ⟨_, hd⟩, G.wc, G.rsU (put_upd G.D.nd G.D.mck) (by simp)⟩
theorem St.setW1 (G : St news v u ld mk st n) {c : Option Value} (hd : o'.data = .cell c) (h1 : ∀ p ∈ news, p.1 < d1) : St ((d1, o1) :: put u.cw o' news) v { u with ow := o' } ld mk st n :=
  (G.setW hd).pushed (put_lt (put_upd G.D.nd G.D.mW) h1)
theorem St.setW2 (G : St news v u ld mk st n) {c : Option Value} (hd : o'.data = .cell c) (h1 : ∀ p ∈ news, p.1 < d1) (h2 : d1 < d2 ∧ AllLt d2 news) : St ((d2, o2) :: (d1, o1) :: put u.cw o' news) v { u with ow := o' } ld mk st n :=
  (G.setW1 hd h1).pushed (lt_cons (put_lt (put_upd G.D.nd G.D.mW) h1) h2.1)
end
section
variable {prog : Program} {w : World} {A : Around} {E : Value → Shared → Prop} {s : Shared} {h₀ : Heap} {L : Addr} {news : List (Addr × Obj)}
/-- an item of a tuple, whichever -/
theorem item_tup {l : Addr} {value slice : PySem.Expr} {vs : Array Value} {n : Nat} {k : Int} {t : Tok} {Q : Value → Shared → Prop} (N : News h₀ L s.heap news) (hm : (l, ({ cls := .type "tuple", data := .seq vs n } : Obj)) ∈ news)
    (h0 : 0 ≤ k) (hk : k < vs.size) (hz : vs.size ≤ 100) (h : ∀ x ∈ vs.toList, Q x s)
    (hs : subscripted slice false (.ref l) (.int k t) = operate [.ref l, .int k t] (getItem (.ref l) (.int k t)) := by with_unfolding_all rfl) :
    wpAny (model prog w) A (subscriptTail value slice (.ref l) (.int k t)) Q E s := by
  have hl : PyProof.Rows.IsTup s.heap l vs := ⟨_, (N _ hm).1, rfl, n, rfl⟩
  have hlt : k.toNat < vs.size := by omega
  exact tail_any hl.typeIs F.slot_tuple_getitem.lookup (PyProof.Rows.getItem_tuple hl (by omega) (by omega) (seqIndex_of h0 hk) (Array.getElem?_eq_getElem hlt) (h _ (Array.getElem_mem_toList hlt))) hs
end
theorem words_on {l : List (Addr × Obj)} {a0 : Addr} {n0 : Nat} {t1 t2 t3 t4 : Tok} {x : Value} (hm : (a0, ({ cls := .type "tuple", data := .seq #[.int 0 t4] n0 } : Obj)) ∈ l)
    (hx : x ∈ (#[.bool true, .int 1 t1, .str "yes" t2, .ref a0, .int (2 ^ Int.toNat 70) t3] : Array Value).toList) : Word l true x := by
  rcases List.mem_cons.mp hx with rfl | hx
  · exact .bool true
  rcases List.mem_cons.mp hx with rfl | hx
  · exact .int 1 t1
  rcases List.mem_cons.mp hx with rfl | hx
  · exact .str "yes" t2 (by decide)
  rcases List.mem_cons.mp hx with rfl | hx
  · exact .tup a0 _ n0 hm (by show 1 ≤ 100; omega)
  rcases List.mem_cons.mp hx with rfl | hx
  · exact (show ((2 : Int) ^ Int.toNat 70 != 0) = true by decide) ▸ Word.int (news := l) (2 ^ Int.toNat 70) t3
  · cases hx
theorem words_off {l : List (Addr × Obj)} {a0 : Addr} {n0 : Nat} {t1 t2 t3 : Tok} {x : Value} (hm : (a0, ({ cls := .type "tuple", data := .seq #[] n0 } : Obj)) ∈ l)
    (hx : x ∈ (#[.bool false, .int 0 t1, .str "" t2, .ref a0, .bytes #[] t3] : Array Value).toList) : Word l false x := by
  rcases List.mem_cons.mp hx with rfl | hx
  · exact .bool false
  rcases List.mem_cons.mp hx with rfl | hx
  · exact .int 0 t1
  rcases List.mem_cons.mp hx with rfl | hx
  · exact .str "" t2 (by decide)
  rcases List.mem_cons.mp hx with rfl | hx
  · exact .tup a0 _ n0 hm (by show 0 ≤ 100; omega)
  rcases List.mem_cons.mp hx with rfl | hx
  · exact .bytes #[] t3 (by show 0 ≤ 100; omega)
  · cases hx
section
variable {news : List (Addr × Obj)} {v : V} {u : U} {ld mk st : Bool} {n : Nat}
theorem St.pushA (G : St news v u ld mk st n) (b : Value) : St (put u.la (PySem.W.listOf (u.va.toArray.push b) (u.na + 1)) news) v { u with va := u.va ++ [b], na := u.na + 1 } ld mk st n :=
  ⟨G.D.pushA b, ⟨G.S.os, G.S.or, G.S.ocf, G.S.ocj, G.S.oo⟩, G.C.upd (G.D.uA _) tag_list, G.fl, G.ml, G.mc, G.bl, G.bc, G.kc, G.wc, G.rsU (G.D.uA _) (by simp)⟩
theorem St.pushT (G : St news v u ld mk st n) (b : Value) : St (put u.lt (PySem.W.listOf (u.vt.toArray.push b) (u.nt + 1)) news) v { u with vt := u.vt ++ [b], nt := u.nt + 1 } ld mk st n :=
  ⟨G.D.pushT b, ⟨G.S.os, G.S.or, G.S.ocf, G.S.ocj, G.S.oo⟩, G.C.upd (G.D.uT _) tag_list, G.fl, G.ml, G.mc, G.bl, G.bc, G.kc, G.wc, G.rsU (G.D.uT _) (by simp)⟩
theorem St.setS (G : St news v u ld mk st n) (a b : Bool) (k : Nat) : St (put v.fl (PySem.W.listOf #[.bool a, .bool b] k) news) { v with f0 := a, f1 := b, nf := k } u ld mk st n :=
  ⟨G.D.setS a b k, ⟨G.S.os, G.S.or, G.S.ocf, G.S.ocj, G.S.oo⟩, G.C.upd (G.D.uS _) tag_list, G.fl, G.ml, G.mc, G.bl, G.bc, G.kc, G.wc, G.rsU (G.D.uS _) (by simp)⟩
end
theorem Word.mono' {news news' : List (Addr × Obj)} {b : Bool} {u : Value} (W : Word news b u) (h : ∀ p ∈ news, tagO p.2 = 100 → p ∈ news') : Word news' b u := by
  cases W with
  | bool b => exact .bool b
  | int i t => exact .int i t
  | str x t h => exact .str x t h
  | bytes x t h => exact .bytes x t h
  | tup a items n hm h2 => exact .tup a items n (h _ hm rfl) h2
end Mine
end
section
open PySem PySem.W PyProof.Rows PySem.Calls
set_option Elab.async false
set_option maxRecDepth 100000
namespace Mine

local macro_rules | `(tactic| walk_at "ite") => `(tactic| first | with_reducible refine ite_pos (by decide) ?_ | with_reducible refine ite_neg (by decide) ?_)
local macro_rules | `(tactic| k_room) => `(tactic| ((try simp only [depth_mark, depth_under_make, depth_under_kw, depth_in1, depth_deeper, depth_caller]); (try dsimp only [top]); omega))
local macro_rules | `(tactic| k_units) => `(tactic| ((try simp only [units_in1, units_deeper, Around.mark_units, units_caller]); (try dsimp only [top]); (have hcL9 := cLine_is); omega))
local macro_rules | `(tactic| k_handed) => `(tactic| assumption)
local macro_rules | `(tactic| k_upd) => `(tactic| assumption)
local macro_rules | `(tactic| k_mem) => `(tactic| first | (refine' Jars.x' ?J ?h; (case J => first | assumption | apply_assumption); (case h => exact rfl)) | (refine' Jars.dx' ?J ?h; (case J => first | assumption | apply_assumption); (case h => exact rfl)) | (refine' Jars.y' ?J ?h; (case J => first | assumption | apply_assumption); (case h => exact rfl)) | (refine' Jars.dy' ?J ?h; (case J => first | assumption | apply_assumption); (case h => exact rfl)) | (refine' Jars.ll' ?J ?h; (case J => first | assumption | apply_assumption); (case h => exact rfl)) | (refine' Jars.lc' ?J ?h; (case J => first | assumption | apply_assumption); (case h => exact rfl)) | (refine' Jars.fs' ?J ?h; (case J => first | assumption | apply_assumption); (case h => exact rfl)) | (refine' Jars.fr' ?J ?h; (case J => first | assumption | apply_assumption); (case h => exact rfl)) | (refine' Jars.cf' ?J ?h; (case J => first | assumption | apply_assumption); (case h => exact rfl)) | (refine' Jars.cj' ?J ?h; (case J => first | assumption | apply_assumption); (case h => exact rfl)) | (refine' Jars.fl' ?J ?h; (case J => first | assumption | apply_assumption); (case h => exact rfl)) | (refine' Jars.cs' ?J ?h; (case J => first | assumption | apply_assumption); (case h => exact rfl)) | (refine' Jars.cr' ?J ?h; (case J => first | assumption | apply_assumption); (case h => exact rfl)))
local macro_rules | `(tactic| size_fits) => `(tactic| (simp only [List.size_toArray, PySem.sizeLine_eq]; omega))

local macro_rules | `(tactic| walk_at "eval Name") => `(tactic| (k_here; k_dflt (refine' nameX_F ?N ?c ?m ?d ?_ ?a ?b; (case a => rfl); (case b => rfl); (case N => k_asm); (case c => rfl); (case m => k_mem); (case d => k_asm); k_whole)))
local macro_rules | `(tactic| ktr_room) => `(tactic| ((try simp only [depth_mark, depth_under_make, depth_under_kw, depth_in1, depth_deeper, depth_caller, units_in1, units_deeper, Around.mark_units, units_caller]); (try dsimp only [top]); first | omega | (have hcL9 := cLine_is; omega) | decide))
local macro_rules | `(tactic| ktr_enter) => `(tactic| (refine' enterT ?B ?D ?T0 ?F ?N ?XB ?TB ?kA ?kF ?kK ?ho ?hcd ?hroom ?hbind ?hloc ?_ ?c1 ?c2 ?c3 ?c4; (case kA => exact rfl); (case kF => exact rfl); (case kK => first | assumption | exact rfl); (case B => k_asm); (case D => k_asm); (case T0 => first | assumption | exact KtsTurn.refl); (case F => k_asm); (case N => k_asm); (case XB => k_asm); (case TB => k_asm); (case ho => k_is); (case hcd => k_is); (case hroom => k_room); (case hbind => first | exact BindsTo.of_eq rfl | exact binds_K (by k_in) rfl (by k_is) rfl rfl rfl); (case hloc => exact locs rfl); (case c1 => exact rfl); (case c2 => exact rfl); (case c3 => exact rfl); (case c4 => decide); k_whole; intro g' L' h' FG' F' N' B' D' X' T'; (try dsimp only); (try k_fold)))
local macro_rules | `(tactic| kla_enter) => `(tactic| (refine' enterTL ?B ?D ?T0 ?F ?N ?XB ?TB ?kA ?kF ?kK ?ho ?hcd ?hroom ?hbind ?hloc ?_ ?c1 ?c2 ?c3 ?c4; (case kA => exact rfl); (case kF => exact rfl); (case kK => first | assumption | exact rfl); (case B => k_asm); (case D => k_asm); (case T0 => first | assumption | exact KtsTurn.refl); (case F => k_asm); (case N => k_asm); (case XB => k_asm); (case TB => k_asm); (case ho => k_mem); (case hcd => first | exact jars_codeS (by k_asm) (by k_asm) | exact jars_codeR (by k_asm) (by k_asm)); (case hroom => k_room); (case hbind => exact rfl); (case hloc => exact locs rfl); (case c1 => exact rfl); (case c2 => exact rfl); (case c3 => exact rfl); (case c4 => decide); k_whole; intro g' L' h' FG' F' N' B' D' X' T'; (try dsimp only); (try k_fold)))
local macro_rules | `(tactic| walk_at "LeaveT") => `(tactic| (k_dflt (refine' leaveT_ ?F ?N ?T ?_; (case F => k_asm); (case N => k_asm); (case T => first | assumption | exact KtsTurn.refl); k_whole); intro h₀' T' F' N' B' D'; (try dsimp only)))
local macro_rules | `(tactic| walk_at "subscriptTail Name Constant ref int") => `(tactic| ((with_reducible show wpAny _ _ (subscriptTail _ _ (Value.ref _) (Value.int _ _)) _ _ _); k_dflt (refine' item_fl ?N ?m ?a ?b ?x ?_; (case N => k_asm); (case m => k_mem); (case a => decide); (case b => decide); (case x => rfl); k_whole)))
local macro_rules | `(tactic| walk_at "callWith ref") => `(tactic| (k_here; (show wpAny _ _ (callWith _ (Value.ref (V.fr _)) _ _ _) _ _ _); k_dflt (first
  | (refine' callWith_F ?k1 ?_; (case k1 => exact FnAt.of (by k_asm) (by k_mem)); k_whole)
  | (refine' callWith_F0 ?k1 ?_; (case k1 => exact FnAt.of (by k_asm) (by k_mem)); k_whole; try dsimp only [List.nil_append, List.cons_append]))))
local macro_rules | `(tactic| walk_at "callWith ref") => `(tactic| (k_here; (show wpAny _ _ (callWith _ (Value.ref (V.fs _)) _ _ _) _ _ _); k_dflt (first
  | (refine' callWith_F ?k1 ?_; (case k1 => exact FnAt.of (by k_asm) (by k_mem)); k_whole)
  | (refine' callWith_F0 ?k1 ?_; (case k1 => exact FnAt.of (by k_asm) (by k_mem)); k_whole; try dsimp only [List.nil_append, List.cons_append]))))
local macro_rules | `(tactic| walk_at "getMethod ref") => `(tactic| (k_here; k_dflt (refine' method_shadow ?k1 ?k2 ?k3 ?k4 ?k5 ?k6 ?k7 ?k8 ?k9 ?k10 ?k11 ?_; (case k1 => k_asm); (case k2 => k_asm); (case k3 => k_inst); (case k4 => k_is); (case k5 => k_is); (case k6 => k_is); (case k7 => k_is); (case k8 => k_is); (case k9 => k_is); (case k10 => k_get); (case k11 => first | rfl | k_handed); k_whole)))
local macro_rules | `(tactic| walk_at "leaving ref") => `(tactic| (k_here; first
  | (with_reducible rename RaisedSN _ _ _ _ _ _ _ => rsX; k_dflt (refine' passX ?f ?K ?F ?R ?U ?_; (case R => exact rsX); (case f => exact rfl); (case K => k_asm); (case F => k_asm); (case U => k_asm); k_whole); clear rsX; intro h' R' U'; (try dsimp only at R' U' ⊢); (try k_unfold); (try dsimp only); (try (with_reducible rename RaisedSN _ _ _ _ _ _ _ => rsX; with_reducible rename Heap.UpToSlots _ _ => rsU; (show wpAny _ _ _ _ _ _); k_dflt (refine' exc_of rfl ?FG ?B ?D ?T0 ?T rsX rsU ?_; (case T => assumption); (case FG => k_asm); (case B => k_asm); (case D => k_asm); (case T0 => first | assumption | exact KtsTurn.refl); k_whole); clear rsX rsU; intro h₀' g' T' FG' B' D' R' U'; (try dsimp only))))
  | (k_dflt (refine' leave_raiseS ?k1 ?k0 ?k2 ?k3 ?_; (case k0 => first | assumption | exact Heap.MadeExc.of (by assumption)); (case k2 => assumption); (case k1 => assumption); (case k3 => k_asm); k_whole); intro h' t' S' R' U'; (try dsimp only at S' R' U' ⊢); (replace S' := toSN S'); clear R')))

local macro_rules | `(tactic| k_mem) => `(tactic| assumption)
local macro_rules | `(tactic| walk_at "eval Name") => `(tactic| (k_here; k_dflt (refine' nameX_C ?N ?c ?m ?d ?_ ?a ?b; (case a => rfl); (case b => rfl); (case N => k_asm); (case c => rfl); (case m => k_mem); (case d => k_asm); k_whole)))
local macro_rules | `(tactic| walk_at "eval Name") => `(tactic| (k_here; k_dflt (refine' nameX_L ?F ?hv ?_ ?a ?b; (case a => rfl); (case b => rfl); (case F => k_asm); (case hv => ((repeat refine (if_neg (by decide)).trans ?_); first | exact if_pos rfl | assumption)); k_whole)))
local macro_rules | `(tactic| walk_at "compareOp NotEq ref ref") => `(tactic| (k_here; k_dflt (refine' ne_marks ?l1 ?l2 ?m1 ?m2 ?e ?u ?_; (case l1 => exact isList_of (by k_asm) (by assumption)); (case l2 => exact isList_of (by k_asm) (by assumption)); (case m1 => assumption); (case m2 => assumption); (case e => assumption); (case u => ktr_room); k_whole)))

local macro_rules | `(tactic| walk_at "callWith ref") => `(tactic| (k_here; k_dflt (first | (refine' callWith_K ?k1 ?k2 ?_; (case k1 => k_asm); (case k2 => k_is); k_whole) | (refine' callWith_K0 ?k1 ?k2 ?_; (case k1 => k_in); (case k2 => k_is); k_whole))))

local macro_rules | `(tactic| walk_at "storeName") => `(tactic| (k_here; k_dflt (refine' storeX_C ?F ?N ?c ?U ?d ?_ ?a ?b; (case a => rfl); (case b => rfl); (case F => k_asm); (case N => k_asm); (case c => rfl); (case U => first | exact Led.fK (by assumption) | exact Led.fW (by assumption)); (case d => assumption); k_whole); intro h' o' F' N' d'; (try dsimp only)))

local macro_rules | `(tactic| walk_at "storeName") => `(tactic| (k_here; k_dflt (refine' storeX_C ?F ?N ?c ?U ?d ?_ ?a ?b; (case a => rfl); (case b => rfl); (case F => k_asm); (case N => k_asm); (case c => rfl); (case U => first | exact Led.fW2 (by assumption) (by assumption) (by assumption) | exact Led.fW1 (by assumption) (by assumption)); (case d => assumption); k_whole); intro h' o' F' N' d'; (try dsimp only)))
local macro_rules | `(tactic| walk_at "subscriptTail") => `(tactic| (k_here; k_dflt (refine' item_tup ?N ?m ?a ?b ?z ?_; (case N => k_asm); (case m => exact .head _); (case a => exact Int.fmod_nonneg_of_pos _ (by decide)); (case b => exact Int.fmod_lt_of_pos _ (by decide)); (case z => (show 5 ≤ 100; omega)); k_whole); intro x' hx'))

set_option maxHeartbeats 8000000 in
theorem A1 {w : World} {loose : List Str} {mean : ExcName → Option Value} {mg mb : Str → Option Value} {dp un : Nat} {gd : Option (List Code)} {a : Addr} {outer : List Env} {A₀ : Around} {base h₀ g₀ : Heap} {L : Addr} {m : Str → Option Value}
    {news : List (Addr × Obj)} {s : Shared} {Q : Flow → Shared → Prop} {E : Value → Shared → Prop} {v : V} {u : U} {n : Nat} {S0 : Stmt} {ld mk st : Bool} {q : Int} {tq : Tok}
    (eS0 : S0 = nthS 0 (thenB (nthS 3 loopB))) (XB : (Mine.hd.heap_39 w.params).In base) (TB : Top topProg loose mean mg mb base) (CB : CodeHd base 352 348) (B : Below A₀ base outer h₀) (D : KtsDicts (frs outer) h₀) (T0 : KtsTurn (frs outer) g₀ h₀) (F : Fr h₀ L s.heap m) (N : News h₀ L s.heap news) (hdp : dp + 100 < recursionLimit) (hun : un + 500 < cLine) (hn : n ≤ 90) (G : St news v u ld mk st n) (nL : m "loaded" = some (.bool ld)) (nM : m "marked" = some (.bool mk)) (nS : m "sticky" = some (.bool st)) (nA : m "asked" = some (.ref u.la)) (nT : m "told" = some (.ref u.lt)) (nQ : m "more" = some (.int q tq))
    (ret : ∀ h' tk' news' z (o' : Obj), Fr h₀ L h' m → News h₀ L h' news' → St news' v { u with ow := o' } ld mk st n → Word news' true z → o'.data = .cell (some z) → Q .next { s with heap := h', toks := tk' }) :
    wpAny (model PySem.Challenge.rw_am6027_01.row.prog w) (top none dp un gd "law" lawS L a (.ref 352) (lawCl v u) outer) (exec S0 (envX "law" lawS L a (.ref 352) (lawCl v u))) Q E s := by
  w_top off
  w_strict (
    revert XB
    k_fill
    intro XB
    have X := XB.keeps B.stays
    have T := TB.keeps B.stays
    have J := G.D.jars G.S
    have dcf := G.S.ocf
    have dcj := G.S.ocj
    have hoo := G.S.oo
    have mco : (u.co, u.oo) ∈ news := G.has (by simp [rows])
    have mck : (u.ck, u.ok) ∈ news := G.has (by simp [rows])
    have mcw : (u.cw, u.ow) ∈ news := G.has (by simp [rows])
    have mla : (u.la, PySem.W.listOf u.va.toArray u.na) ∈ news := G.has (by simp [rows])
    have mlt : (u.lt, PySem.W.listOf u.vt.toArray u.nt) ∈ news := G.has (by simp [rows])
    have mll : (v.ll, PySem.W.listOf v.vl.toArray v.nl) ∈ news := G.has (by simp [rows])
    have mlc : (v.lc, PySem.W.listOf v.vc.toArray v.nc) ∈ news := G.has (by simp [rows])
    subst eS0
    obtain ⟨kc, hkc⟩ := G.wc
    have DD := G.D
    have eS := Eq.refl lawS
    conv at eS => rhs; whnf
    have e0 := Eq.refl (nthS 0 (thenB (nthS 3 loopB)))
    conv at e0 => rhs; whnf
    rw [eS, e0]
    clear eS e0
    k_steps
    refine ret _ _ _ _ _ (by k_asm) (by k_asm) (G.setW2 (by assumption) (by assumption) (by assumption)) (words_on (.tail _ (.head _)) (by assumption)) (by assumption))

set_option maxHeartbeats 8000000 in
theorem B1 {w : World} {loose : List Str} {mean : ExcName → Option Value} {mg mb : Str → Option Value} {dp un : Nat} {gd : Option (List Code)} {a : Addr} {outer : List Env} {A₀ : Around} {base h₀ g₀ : Heap} {L : Addr} {m : Str → Option Value}
    {news : List (Addr × Obj)} {s : Shared} {Q : Flow → Shared → Prop} {E : Value → Shared → Prop} {v : V} {u : U} {n : Nat} {S0 : Stmt} {ld mk st : Bool} {q : Int} {tq : Tok}
    (eS0 : S0 = nthS 0 (thenB (nthS 0 (elseB (nthS 3 loopB))))) (XB : (Mine.hd.heap_39 w.params).In base) (TB : Top topProg loose mean mg mb base) (CB : CodeHd base 352 348) (B : Below A₀ base outer h₀) (D : KtsDicts (frs outer) h₀) (T0 : KtsTurn (frs outer) g₀ h₀) (F : Fr h₀ L s.heap m) (N : News h₀ L s.heap news) (hdp : dp + 100 < recursionLimit) (hun : un + 500 < cLine) (hn : n ≤ 90) (G : St news v u ld mk st n) (nL : m "loaded" = some (.bool ld)) (nM : m "marked" = some (.bool mk)) (nS : m "sticky" = some (.bool st)) (nA : m "asked" = some (.ref u.la)) (nT : m "told" = some (.ref u.lt)) (nQ : m "more" = some (.int q tq))
    (ret : ∀ h' tk' news' z (o' : Obj), Fr h₀ L h' m → News h₀ L h' news' → St news' v { u with ow := o' } ld mk st n → Word news' false z → o'.data = .cell (some z) → Q .next { s with heap := h', toks := tk' }) :
    wpAny (model PySem.Challenge.rw_am6027_01.row.prog w) (top none dp un gd "law" lawS L a (.ref 352) (lawCl v u) outer) (exec S0 (envX "law" lawS L a (.ref 352) (lawCl v u))) Q E s := by
  w_top off
  w_strict (
    revert XB
    k_fill
    intro XB
    have X := XB.keeps B.stays
    have T := TB.keeps B.stays
    have J := G.D.jars G.S
    have dcf := G.S.ocf
    have dcj := G.S.ocj
    have hoo := G.S.oo
    have mco : (u.co, u.oo) ∈ news := G.has (by simp [rows])
    have mck : (u.ck, u.ok) ∈ news := G.has (by simp [rows])
    have mcw : (u.cw, u.ow) ∈ news := G.has (by simp [rows])
    have mla : (u.la, PySem.W.listOf u.va.toArray u.na) ∈ news := G.has (by simp [rows])
    have mlt : (u.lt, PySem.W.listOf u.vt.toArray u.nt) ∈ news := G.has (by simp [rows])
    have mll : (v.ll, PySem.W.listOf v.vl.toArray v.nl) ∈ news := G.has (by simp [rows])
    have mlc : (v.lc, PySem.W.listOf v.vc.toArray v.nc) ∈ news := G.has (by simp [rows])
    subst eS0
    obtain ⟨kc, hkc⟩ := G.wc
    have DD := G.D
    have eS := Eq.refl lawS
    conv at eS => rhs; whnf
    have e0 := Eq.refl (nthS 0 (thenB (nthS 0 (elseB (nthS 3 loopB)))))
    conv at e0 => rhs; whnf
    rw [eS, e0]
    clear eS e0
    k_steps
    refine ret _ _ _ _ _ (by k_asm) (by k_asm) (G.setW2 (by assumption) (by assumption) (by assumption)) (words_off (.tail _ (.head _)) (by assumption)) (by assumption))
end Mine
end
section
open PySem PySem.W PyProof.Rows PySem.Calls
set_option Elab.async false
set_option maxRecDepth 100000
namespace Mine

local macro_rules | `(tactic| walk_at "ite") => `(tactic| first | with_reducible refine ite_pos (by decide) ?_ | with_reducible refine ite_neg (by decide) ?_)
local macro_rules | `(tactic| k_room) => `(tactic| ((try simp only [depth_mark, depth_under_make, depth_under_kw, depth_in1, depth_deeper, depth_caller]); (try dsimp only [top]); omega))
local macro_rules | `(tactic| k_units) => `(tactic| ((try simp only [units_in1, units_deeper, Around.mark_units, units_caller]); (try dsimp only [top]); (have hcL9 := cLine_is); omega))
local macro_rules | `(tactic| k_handed) => `(tactic| assumption)
local macro_rules | `(tactic| k_upd) => `(tactic| assumption)
local macro_rules | `(tactic| k_mem) => `(tactic| first | (refine' Jars.x' ?J ?h; (case J => first | assumption | apply_assumption); (case h => exact rfl)) | (refine' Jars.dx' ?J ?h; (case J => first | assumption | apply_assumption); (case h => exact rfl)) | (refine' Jars.y' ?J ?h; (case J => first | assumption | apply_assumption); (case h => exact rfl)) | (refine' Jars.dy' ?J ?h; (case J => first | assumption | apply_assumption); (case h => exact rfl)) | (refine' Jars.ll' ?J ?h; (case J => first | assumption | apply_assumption); (case h => exact rfl)) | (refine' Jars.lc' ?J ?h; (case J => first | assumption | apply_assumption); (case h => exact rfl)) | (refine' Jars.fs' ?J ?h; (case J => first | assumption | apply_assumption); (case h => exact rfl)) | (refine' Jars.fr' ?J ?h; (case J => first | assumption | apply_assumption); (case h => exact rfl)) | (refine' Jars.cf' ?J ?h; (case J => first | assumption | apply_assumption); (case h => exact rfl)) | (refine' Jars.cj' ?J ?h; (case J => first | assumption | apply_assumption); (case h => exact rfl)) | (refine' Jars.fl' ?J ?h; (case J => first | assumption | apply_assumption); (case h => exact rfl)) | (refine' Jars.cs' ?J ?h; (case J => first | assumption | apply_assumption); (case h => exact rfl)) | (refine' Jars.cr' ?J ?h; (case J => first | assumption | apply_assumption); (case h => exact rfl)))
local macro_rules | `(tactic| size_fits) => `(tactic| (simp only [List.size_toArray, PySem.sizeLine_eq]; omega))

local macro_rules | `(tactic| walk_at "eval Name") => `(tactic| (k_here; k_dflt (refine' nameX_F ?N ?c ?m ?d ?_ ?a ?b; (case a => rfl); (case b => rfl); (case N => k_asm); (case c => rfl); (case m => k_mem); (case d => k_asm); k_whole)))
local macro_rules | `(tactic| ktr_room) => `(tactic| ((try simp only [depth_mark, depth_under_make, depth_under_kw, depth_in1, depth_deeper, depth_caller, units_in1, units_deeper, Around.mark_units, units_caller]); (try dsimp only [top]); first | omega | (have hcL9 := cLine_is; omega) | decide))
local macro_rules | `(tactic| ktr_enter) => `(tactic| (refine' enterT ?B ?D ?T0 ?F ?N ?XB ?TB ?kA ?kF ?kK ?ho ?hcd ?hroom ?hbind ?hloc ?_ ?c1 ?c2 ?c3 ?c4; (case kA => exact rfl); (case kF => exact rfl); (case kK => first | assumption | exact rfl); (case B => k_asm); (case D => k_asm); (case T0 => first | assumption | exact KtsTurn.refl); (case F => k_asm); (case N => k_asm); (case XB => k_asm); (case TB => k_asm); (case ho => k_is); (case hcd => k_is); (case hroom => k_room); (case hbind => first | exact BindsTo.of_eq rfl | exact binds_K (by k_in) rfl (by k_is) rfl rfl rfl); (case hloc => exact locs rfl); (case c1 => exact rfl); (case c2 => exact rfl); (case c3 => exact rfl); (case c4 => decide); k_whole; intro g' L' h' FG' F' N' B' D' X' T'; (try dsimp only); (try k_fold)))
local macro_rules | `(tactic| kla_enter) => `(tactic| (refine' enterTL ?B ?D ?T0 ?F ?N ?XB ?TB ?kA ?kF ?kK ?ho ?hcd ?hroom ?hbind ?hloc ?_ ?c1 ?c2 ?c3 ?c4; (case kA => exact rfl); (case kF => exact rfl); (case kK => first | assumption | exact rfl); (case B => k_asm); (case D => k_asm); (case T0 => first | assumption | exact KtsTurn.refl); (case F => k_asm); (case N => k_asm); (case XB => k_asm); (case TB => k_asm); (case ho => k_mem); (case hcd => first | exact jars_codeS (by k_asm) (by k_asm) | exact jars_codeR (by k_asm) (by k_asm)); (case hroom => k_room); (case hbind => exact rfl); (case hloc => exact locs rfl); (case c1 => exact rfl); (case c2 => exact rfl); (case c3 => exact rfl); (case c4 => decide); k_whole; intro g' L' h' FG' F' N' B' D' X' T'; (try dsimp only); (try k_fold)))
local macro_rules | `(tactic| walk_at "LeaveT") => `(tactic| (k_dflt (refine' leaveT_ ?F ?N ?T ?_; (case F => k_asm); (case N => k_asm); (case T => first | assumption | exact KtsTurn.refl); k_whole); intro h₀' T' F' N' B' D'; (try dsimp only)))
local macro_rules | `(tactic| walk_at "subscriptTail Name Constant ref int") => `(tactic| ((with_reducible show wpAny _ _ (subscriptTail _ _ (Value.ref _) (Value.int _ _)) _ _ _); k_dflt (refine' item_fl ?N ?m ?a ?b ?x ?_; (case N => k_asm); (case m => k_mem); (case a => decide); (case b => decide); (case x => rfl); k_whole)))
local macro_rules | `(tactic| walk_at "callWith ref") => `(tactic| (k_here; (show wpAny _ _ (callWith _ (Value.ref (V.fr _)) _ _ _) _ _ _); k_dflt (first
  | (refine' callWith_F ?k1 ?_; (case k1 => exact FnAt.of (by k_asm) (by k_mem)); k_whole)
  | (refine' callWith_F0 ?k1 ?_; (case k1 => exact FnAt.of (by k_asm) (by k_mem)); k_whole; try dsimp only [List.nil_append, List.cons_append]))))
local macro_rules | `(tactic| walk_at "callWith ref") => `(tactic| (k_here; (show wpAny _ _ (callWith _ (Value.ref (V.fs _)) _ _ _) _ _ _); k_dflt (first
  | (refine' callWith_F ?k1 ?_; (case k1 => exact FnAt.of (by k_asm) (by k_mem)); k_whole)
  | (refine' callWith_F0 ?k1 ?_; (case k1 => exact FnAt.of (by k_asm) (by k_mem)); k_whole; try dsimp only [List.nil_append, List.cons_append]))))
local macro_rules | `(tactic| walk_at "getMethod ref") => `(tactic| (k_here; k_dflt (refine' method_shadow ?k1 ?k2 ?k3 ?k4 ?k5 ?k6 ?k7 ?k8 ?k9 ?k10 ?k11 ?_; (case k1 => k_asm); (case k2 => k_asm); (case k3 => k_inst); (case k4 => k_is); (case k5 => k_is); (case k6 => k_is); (case k7 => k_is); (case k8 => k_is); (case k9 => k_is); (case k10 => k_get); (case k11 => first | rfl | k_handed); k_whole)))
local macro_rules | `(tactic| walk_at "leaving ref") => `(tactic| (k_here; first
  | (with_reducible rename RaisedSN _ _ _ _ _ _ _ => rsX; k_dflt (refine' passX ?f ?K ?F ?R ?U ?_; (case R => exact rsX); (case f => exact rfl); (case K => k_asm); (case F => k_asm); (case U => k_asm); k_whole); clear rsX; intro h' R' U'; (try dsimp only at R' U' ⊢); (try k_unfold); (try dsimp only); (try (with_reducible rename RaisedSN _ _ _ _ _ _ _ => rsX; with_reducible rename Heap.UpToSlots _ _ => rsU; (show wpAny _ _ _ _ _ _); k_dflt (refine' exc_of rfl ?FG ?B ?D ?T0 ?T rsX rsU ?_; (case T => assumption); (case FG => k_asm); (case B => k_asm); (case D => k_asm); (case T0 => first | assumption | exact KtsTurn.refl); k_whole); clear rsX rsU; intro h₀' g' T' FG' B' D' R' U'; (try dsimp only))))
  | (k_dflt (refine' leave_raiseS ?k1 ?k0 ?k2 ?k3 ?_; (case k0 => first | assumption | exact Heap.MadeExc.of (by assumption)); (case k2 => assumption); (case k1 => assumption); (case k3 => k_asm); k_whole); intro h' t' S' R' U'; (try dsimp only at S' R' U' ⊢); (replace S' := toSN S'); clear R')))

local macro_rules | `(tactic| k_mem) => `(tactic| assumption)
local macro_rules | `(tactic| walk_at "eval Name") => `(tactic| (k_here; k_dflt (refine' nameX_C ?N ?c ?m ?d ?_ ?a ?b; (case a => rfl); (case b => rfl); (case N => k_asm); (case c => rfl); (case m => k_mem); (case d => k_asm); k_whole)))
local macro_rules | `(tactic| walk_at "eval Name") => `(tactic| (k_here; k_dflt (refine' nameX_L ?F ?hv ?_ ?a ?b; (case a => rfl); (case b => rfl); (case F => k_asm); (case hv => ((repeat refine (if_neg (by decide)).trans ?_); first | exact if_pos rfl | assumption)); k_whole)))
local macro_rules | `(tactic| walk_at "compareOp NotEq ref ref") => `(tactic| (k_here; k_dflt (refine' ne_marks ?l1 ?l2 ?m1 ?m2 ?e ?u ?_; (case l1 => exact isList_of (by k_asm) (by assumption)); (case l2 => exact isList_of (by k_asm) (by assumption)); (case m1 => assumption); (case m2 => assumption); (case e => assumption); (case u => ktr_room); k_whole)))

local macro_rules | `(tactic| walk_at "callWith ref") => `(tactic| (k_here; k_dflt (first | (refine' callWith_K ?k1 ?k2 ?_; (case k1 => k_asm); (case k2 => k_is); k_whole) | (refine' callWith_K0 ?k1 ?k2 ?_; (case k1 => k_in); (case k2 => k_is); k_whole))))

local macro_rules | `(tactic| k_upd) => `(tactic| first | assumption | apply_assumption | exact Led.uA (by assumption) _ | exact Led.uT (by assumption) _)
local macro_rules | `(tactic| k_mem) => `(tactic| first | assumption | apply_assumption | (refine' Led.mfl ?J; (case J => first | assumption | apply_assumption)) | (refine' Led.mcf ?J; (case J => first | assumption | apply_assumption)) | (refine' Led.mlt ?J; (case J => first | assumption | apply_assumption)))

set_option maxHeartbeats 8000000 in
theorem A2_c1 {w : World} {loose : List Str} {mean : ExcName → Option Value} {mg mb : Str → Option Value} {dp un : Nat} {gd : Option (List Code)} {a : Addr} {outer : List Env} {A₀ : Around} {base h₀ g₀ : Heap} {L : Addr} {m : Str → Option Value}
    {news : List (Addr × Obj)} {s : Shared} {Q : Flow → Shared → Prop} {E : Value → Shared → Prop} {v : V} {u : U} {n : Nat} {S0 : Stmt} {S1 : Stmt} {td0 : Tok}
    (eS0 : S0 = nthS 1 (thenB (nthS 3 loopB))) (eS1 : S1 = nthS 2 (thenB (nthS 3 loopB))) (XB : (Mine.hd.heap_39 w.params).In base) (TB : Top topProg loose mean mg mb base) (CB : CodeHd base 352 348) (B : Below A₀ base outer h₀) (D : KtsDicts (frs outer) h₀) (T0 : KtsTurn (frs outer) g₀ h₀) (F : Fr h₀ L s.heap m) (N : News h₀ L s.heap news) (hdp : dp + 100 < recursionLimit) (hun : un + 500 < cLine) (hn : n ≤ 90) (G : St news v u false false false n) (nL : m "loaded" = some (.bool false)) (nM : m "marked" = some (.bool false)) (nS : m "sticky" = some (.bool false)) (nA : m "asked" = some (.ref u.la)) (nT : m "told" = some (.ref u.lt)) (hf0 : v.f0 = true) (hza : u.va.length ≤ 1000) (hzt : u.vt.length ≤ 1000) (nD : m "due" = some (.str "done" td0))
    (ret : ∀ h' tk' news' m' td, Fr h₀ L h' m' → News h₀ L h' news' → m' "loaded" = some (.bool false) → m' "marked" = some (.bool false) → m' "sticky" = some (.bool false) → m' "asked" = some (.ref u.la) → m' "told" = some (.ref u.lt) →  m' "due" = some (.str "failed" td) → (∀ p ∈ news, tagO p.2 = 100 → p.1 ≠ u.la → p.1 ≠ u.lt → p ∈ news') → St news' v u false false false n → Q .next { s with heap := h', toks := tk' }) :
    wpAny (model PySem.Challenge.rw_am6027_01.row.prog w) (top none dp un gd "law" lawS L a (.ref 352) (lawCl v u) outer) (execs [S0, S1] (envX "law" lawS L a (.ref 352) (lawCl v u))) Q E s := by
  w_top off
  w_strict (
    revert XB
    k_fill
    intro XB
    have X := XB.keeps B.stays
    have T := TB.keeps B.stays
    have J := G.D.jars G.S
    have dcf := G.S.ocf
    have dcj := G.S.ocj
    have hoo := G.S.oo
    have mco : (u.co, u.oo) ∈ news := G.has (by simp [rows])
    have mck : (u.ck, u.ok) ∈ news := G.has (by simp [rows])
    have mcw : (u.cw, u.ow) ∈ news := G.has (by simp [rows])
    have mla : (u.la, PySem.W.listOf u.va.toArray u.na) ∈ news := G.has (by simp [rows])
    have mlt : (u.lt, PySem.W.listOf u.vt.toArray u.nt) ∈ news := G.has (by simp [rows])
    have mll : (v.ll, PySem.W.listOf v.vl.toArray v.nl) ∈ news := G.has (by simp [rows])
    have mlc : (v.lc, PySem.W.listOf v.vc.toArray v.nc) ∈ news := G.has (by simp [rows])
    subst eS0 eS1
    have DD := G.D
    have eS := Eq.refl lawS
    conv at eS => rhs; whnf
    have e0 := Eq.refl (nthS 1 (thenB (nthS 3 loopB)))
    conv at e0 => rhs; whnf
    have e1 := Eq.refl (nthS 2 (thenB (nthS 3 loopB)))
    conv at e1 => rhs; whnf
    rw [eS, e0, e1]
    clear eS e0 e1
    k_steps
    exact ret _ _ _ _ _ (by k_asm) (by k_asm) (by (repeat refine (if_neg (by decide)).trans ?_); first | exact if_pos rfl | assumption) (by (repeat refine (if_neg (by decide)).trans ?_); first | exact if_pos rfl | assumption) (by (repeat refine (if_neg (by decide)).trans ?_); first | exact if_pos rfl | assumption) (by (repeat refine (if_neg (by decide)).trans ?_); first | exact if_pos rfl | assumption) (by (repeat refine (if_neg (by decide)).trans ?_); first | exact if_pos rfl | assumption) (by (repeat refine (if_neg (by decide)).trans ?_); first | exact if_pos rfl | assumption) (fun p hp _ _ _ => hp) G)

set_option maxHeartbeats 8000000 in
theorem A2_c2 {w : World} {loose : List Str} {mean : ExcName → Option Value} {mg mb : Str → Option Value} {dp un : Nat} {gd : Option (List Code)} {a : Addr} {outer : List Env} {A₀ : Around} {base h₀ g₀ : Heap} {L : Addr} {m : Str → Option Value}
    {news : List (Addr × Obj)} {s : Shared} {Q : Flow → Shared → Prop} {E : Value → Shared → Prop} {v : V} {u : U} {n : Nat} {S0 : Stmt} {S1 : Stmt} {td0 : Tok}
    (eS0 : S0 = nthS 1 (thenB (nthS 3 loopB))) (eS1 : S1 = nthS 2 (thenB (nthS 3 loopB))) (XB : (Mine.hd.heap_39 w.params).In base) (TB : Top topProg loose mean mg mb base) (CB : CodeHd base 352 348) (B : Below A₀ base outer h₀) (D : KtsDicts (frs outer) h₀) (T0 : KtsTurn (frs outer) g₀ h₀) (F : Fr h₀ L s.heap m) (N : News h₀ L s.heap news) (hdp : dp + 100 < recursionLimit) (hun : un + 500 < cLine) (hn : n ≤ 90) (G : St news v u false false false n) (nL : m "loaded" = some (.bool false)) (nM : m "marked" = some (.bool false)) (nS : m "sticky" = some (.bool false)) (nA : m "asked" = some (.ref u.la)) (nT : m "told" = some (.ref u.lt)) (hf0 : v.f0 = false) (hf1 : v.f1 = true) (hza : u.va.length ≤ 1000) (hzt : u.vt.length ≤ 1000) (nD : m "due" = some (.str "done" td0))
    (ret : ∀ h' tk' news' m' t1 td, Fr h₀ L h' m' → News h₀ L h' news' → m' "loaded" = some (.bool true) → m' "marked" = some (.bool false) → m' "sticky" = some (.bool false) → m' "asked" = some (.ref u.la) → m' "told" = some (.ref u.lt) →  m' "due" = some (.str "failed" td) → (∀ p ∈ news, tagO p.2 = 100 → p.1 ≠ u.la → p.1 ≠ u.lt → p ∈ news') → St news' v { u with va := u.va ++ [.bytes #[109] t1], na := u.na + 1 } false false false n → Q .next { s with heap := h', toks := tk' }) :
    wpAny (model PySem.Challenge.rw_am6027_01.row.prog w) (top none dp un gd "law" lawS L a (.ref 352) (lawCl v u) outer) (execs [S0, S1] (envX "law" lawS L a (.ref 352) (lawCl v u))) Q E s := by
  w_top off
  w_strict (
    revert XB
    k_fill
    intro XB
    have X := XB.keeps B.stays
    have T := TB.keeps B.stays
    have J := G.D.jars G.S
    have dcf := G.S.ocf
    have dcj := G.S.ocj
    have hoo := G.S.oo
    have mco : (u.co, u.oo) ∈ news := G.has (by simp [rows])
    have mck : (u.ck, u.ok) ∈ news := G.has (by simp [rows])
    have mcw : (u.cw, u.ow) ∈ news := G.has (by simp [rows])
    have mla : (u.la, PySem.W.listOf u.va.toArray u.na) ∈ news := G.has (by simp [rows])
    have mlt : (u.lt, PySem.W.listOf u.vt.toArray u.nt) ∈ news := G.has (by simp [rows])
    have mll : (v.ll, PySem.W.listOf v.vl.toArray v.nl) ∈ news := G.has (by simp [rows])
    have mlc : (v.lc, PySem.W.listOf v.vc.toArray v.nc) ∈ news := G.has (by simp [rows])
    subst eS0 eS1
    have DD := G.D
    have DA := fun b => G.D.pushA b
    have mltA : ∀ b, (u.lt, PySem.W.listOf u.vt.toArray u.nt) ∈ put u.la (PySem.W.listOf (u.va.toArray.push b) (u.na + 1)) news := fun b => (DA b).mlt
    have uTA : ∀ b o', Upd u.lt (PySem.W.listOf u.vt.toArray u.nt) o' (put u.la (PySem.W.listOf (u.va.toArray.push b) (u.na + 1)) news) (put u.lt o' (put u.la (PySem.W.listOf (u.va.toArray.push b) (u.na + 1)) news)) := fun b o' => (DA b).uT o'
    have eS := Eq.refl lawS
    conv at eS => rhs; whnf
    have e0 := Eq.refl (nthS 1 (thenB (nthS 3 loopB)))
    conv at e0 => rhs; whnf
    have e1 := Eq.refl (nthS 2 (thenB (nthS 3 loopB)))
    conv at e1 => rhs; whnf
    rw [eS, e0, e1]
    clear eS e0 e1
    k_steps
    exact ret _ _ _ _ _ _ (by k_asm) (by k_asm) (by (repeat refine (if_neg (by decide)).trans ?_); first | exact if_pos rfl | assumption) (by (repeat refine (if_neg (by decide)).trans ?_); first | exact if_pos rfl | assumption) (by (repeat refine (if_neg (by decide)).trans ?_); first | exact if_pos rfl | assumption) (by (repeat refine (if_neg (by decide)).trans ?_); first | exact if_pos rfl | assumption) (by (repeat refine (if_neg (by decide)).trans ?_); first | exact if_pos rfl | assumption) (by (repeat refine (if_neg (by decide)).trans ?_); first | exact if_pos rfl | assumption) (fun p hp _ h1 _ => upd_keep (G.D.uA _) hp h1) (G.pushA _))

set_option maxHeartbeats 8000000 in
theorem A2_c3 {w : World} {loose : List Str} {mean : ExcName → Option Value} {mg mb : Str → Option Value} {dp un : Nat} {gd : Option (List Code)} {a : Addr} {outer : List Env} {A₀ : Around} {base h₀ g₀ : Heap} {L : Addr} {m : Str → Option Value}
    {news : List (Addr × Obj)} {s : Shared} {Q : Flow → Shared → Prop} {E : Value → Shared → Prop} {v : V} {u : U} {n : Nat} {S0 : Stmt} {S1 : Stmt} {td0 : Tok}
    (eS0 : S0 = nthS 1 (thenB (nthS 3 loopB))) (eS1 : S1 = nthS 2 (thenB (nthS 3 loopB))) (XB : (Mine.hd.heap_39 w.params).In base) (TB : Top topProg loose mean mg mb base) (CB : CodeHd base 352 348) (B : Below A₀ base outer h₀) (D : KtsDicts (frs outer) h₀) (T0 : KtsTurn (frs outer) g₀ h₀) (F : Fr h₀ L s.heap m) (N : News h₀ L s.heap news) (hdp : dp + 100 < recursionLimit) (hun : un + 500 < cLine) (hn : n ≤ 90) (G : St news v u false false false n) (nL : m "loaded" = some (.bool false)) (nM : m "marked" = some (.bool false)) (nS : m "sticky" = some (.bool false)) (nA : m "asked" = some (.ref u.la)) (nT : m "told" = some (.ref u.lt)) (hf0 : v.f0 = false) (hf1 : v.f1 = false) (hza : u.va.length ≤ 1000) (hzt : u.vt.length ≤ 1000) (nD : m "due" = some (.str "done" td0))
    (ret : ∀ h' tk' news' m' t1 t2 td, Fr h₀ L h' m' → News h₀ L h' news' → m' "loaded" = some (.bool true) → m' "marked" = some (.bool true) → m' "sticky" = some (.bool false) → m' "asked" = some (.ref u.la) → m' "told" = some (.ref u.lt) →  m' "due" = some (.str "done" td) → (∀ p ∈ news, tagO p.2 = 100 → p.1 ≠ u.la → p.1 ≠ u.lt → p ∈ news') → St news' v { u with va := u.va ++ [.bytes #[109] t1], na := u.na + 1, vt := u.vt ++ [.bytes #[109] t2], nt := u.nt + 1 } false false false n → Q .next { s with heap := h', toks := tk' }) :
    wpAny (model PySem.Challenge.rw_am6027_01.row.prog w) (top none dp un gd "law" lawS L a (.ref 352) (lawCl v u) outer) (execs [S0, S1] (envX "law" lawS L a (.ref 352) (lawCl v u))) Q E s := by
  w_top off
  w_strict (
    revert XB
    k_fill
    intro XB
    have X := XB.keeps B.stays
    have T := TB.keeps B.stays
    have J := G.D.jars G.S
    have dcf := G.S.ocf
    have dcj := G.S.ocj
    have hoo := G.S.oo
    have mco : (u.co, u.oo) ∈ news := G.has (by simp [rows])
    have mck : (u.ck, u.ok) ∈ news := G.has (by simp [rows])
    have mcw : (u.cw, u.ow) ∈ news := G.has (by simp [rows])
    have mla : (u.la, PySem.W.listOf u.va.toArray u.na) ∈ news := G.has (by simp [rows])
    have mlt : (u.lt, PySem.W.listOf u.vt.toArray u.nt) ∈ news := G.has (by simp [rows])
    have mll : (v.ll, PySem.W.listOf v.vl.toArray v.nl) ∈ news := G.has (by simp [rows])
    have mlc : (v.lc, PySem.W.listOf v.vc.toArray v.nc) ∈ news := G.has (by simp [rows])
    subst eS0 eS1
    have DD := G.D
    have DA := fun b => G.D.pushA b
    have mltA : ∀ b, (u.lt, PySem.W.listOf u.vt.toArray u.nt) ∈ put u.la (PySem.W.listOf (u.va.toArray.push b) (u.na + 1)) news := fun b => (DA b).mlt
    have uTA : ∀ b o', Upd u.lt (PySem.W.listOf u.vt.toArray u.nt) o' (put u.la (PySem.W.listOf (u.va.toArray.push b) (u.na + 1)) news) (put u.lt o' (put u.la (PySem.W.listOf (u.va.toArray.push b) (u.na + 1)) news)) := fun b o' => (DA b).uT o'
    have eS := Eq.refl lawS
    conv at eS => rhs; whnf
    have e0 := Eq.refl (nthS 1 (thenB (nthS 3 loopB)))
    conv at e0 => rhs; whnf
    have e1 := Eq.refl (nthS 2 (thenB (nthS 3 loopB)))
    conv at e1 => rhs; whnf
    rw [eS, e0, e1]
    clear eS e0 e1
    k_steps
    exact ret _ _ _ _ _ _ _ (by k_asm) (by k_asm) (by (repeat refine (if_neg (by decide)).trans ?_); first | exact if_pos rfl | assumption) (by (repeat refine (if_neg (by decide)).trans ?_); first | exact if_pos rfl | assumption) (by (repeat refine (if_neg (by decide)).trans ?_); first | exact if_pos rfl | assumption) (by (repeat refine (if_neg (by decide)).trans ?_); first | exact if_pos rfl | assumption) (by (repeat refine (if_neg (by decide)).trans ?_); first | exact if_pos rfl | assumption) (by (repeat refine (if_neg (by decide)).trans ?_); first | exact if_pos rfl | assumption) (fun p hp _ h1 h2 => upd_keep ((G.pushA _).D.uT _) (upd_keep (G.D.uA _) hp h1) h2) ((G.pushA _).pushT _))

set_option maxHeartbeats 8000000 in
theorem A2_c4 {w : World} {loose : List Str} {mean : ExcName → Option Value} {mg mb : Str → Option Value} {dp un : Nat} {gd : Option (List Code)} {a : Addr} {outer : List Env} {A₀ : Around} {base h₀ g₀ : Heap} {L : Addr} {m : Str → Option Value}
    {news : List (Addr × Obj)} {s : Shared} {Q : Flow → Shared → Prop} {E : Value → Shared → Prop} {v : V} {u : U} {n : Nat} {S0 : Stmt} {S1 : Stmt} {st : Bool} {td0 : Tok}
    (eS0 : S0 = nthS 1 (thenB (nthS 3 loopB))) (eS1 : S1 = nthS 2 (thenB (nthS 3 loopB))) (XB : (Mine.hd.heap_39 w.params).In base) (TB : Top topProg loose mean mg mb base) (CB : CodeHd base 352 348) (B : Below A₀ base outer h₀) (D : KtsDicts (frs outer) h₀) (T0 : KtsTurn (frs outer) g₀ h₀) (F : Fr h₀ L s.heap m) (N : News h₀ L s.heap news) (hdp : dp + 100 < recursionLimit) (hun : un + 500 < cLine) (hn : n ≤ 90) (G : St news v u true true st n) (nL : m "loaded" = some (.bool true)) (nM : m "marked" = some (.bool true)) (nS : m "sticky" = some (.bool st)) (nA : m "asked" = some (.ref u.la)) (nT : m "told" = some (.ref u.lt))  (hza : u.va.length ≤ 1000) (hzt : u.vt.length ≤ 1000) (nD : m "due" = some (.str "done" td0))
    (ret : ∀ h' tk' news' m' td, Fr h₀ L h' m' → News h₀ L h' news' → m' "loaded" = some (.bool true) → m' "marked" = some (.bool true) → m' "sticky" = some (.bool st) → m' "asked" = some (.ref u.la) → m' "told" = some (.ref u.lt) →  m' "due" = some (.str "done" td) → (∀ p ∈ news, tagO p.2 = 100 → p.1 ≠ u.la → p.1 ≠ u.lt → p ∈ news') → St news' v u true true st n → Q .next { s with heap := h', toks := tk' }) :
    wpAny (model PySem.Challenge.rw_am6027_01.row.prog w) (top none dp un gd "law" lawS L a (.ref 352) (lawCl v u) outer) (execs [S0, S1] (envX "law" lawS L a (.ref 352) (lawCl v u))) Q E s := by
  w_top off
  w_strict (
    revert XB
    k_fill
    intro XB
    have X := XB.keeps B.stays
    have T := TB.keeps B.stays
    have J := G.D.jars G.S
    have dcf := G.S.ocf
    have dcj := G.S.ocj
    have hoo := G.S.oo
    have mco : (u.co, u.oo) ∈ news := G.has (by simp [rows])
    have mck : (u.ck, u.ok) ∈ news := G.has (by simp [rows])
    have mcw : (u.cw, u.ow) ∈ news := G.has (by simp [rows])
    have mla : (u.la, PySem.W.listOf u.va.toArray u.na) ∈ news := G.has (by simp [rows])
    have mlt : (u.lt, PySem.W.listOf u.vt.toArray u.nt) ∈ news := G.has (by simp [rows])
    have mll : (v.ll, PySem.W.listOf v.vl.toArray v.nl) ∈ news := G.has (by simp [rows])
    have mlc : (v.lc, PySem.W.listOf v.vc.toArray v.nc) ∈ news := G.has (by simp [rows])
    subst eS0 eS1
    have DD := G.D
    have eS := Eq.refl lawS
    conv at eS => rhs; whnf
    have e0 := Eq.refl (nthS 1 (thenB (nthS 3 loopB)))
    conv at e0 => rhs; whnf
    have e1 := Eq.refl (nthS 2 (thenB (nthS 3 loopB)))
    conv at e1 => rhs; whnf
    rw [eS, e0, e1]
    clear eS e0 e1
    k_steps
    exact ret _ _ _ _ _ (by k_asm) (by k_asm) (by (repeat refine (if_neg (by decide)).trans ?_); first | exact if_pos rfl | assumption) (by (repeat refine (if_neg (by decide)).trans ?_); first | exact if_pos rfl | assumption) (by (repeat refine (if_neg (by decide)).trans ?_); first | exact if_pos rfl | assumption) (by (repeat refine (if_neg (by decide)).trans ?_); first | exact if_pos rfl | assumption) (by (repeat refine (if_neg (by decide)).trans ?_); first | exact if_pos rfl | assumption) (by (repeat refine (if_neg (by decide)).trans ?_); first | exact if_pos rfl | assumption) (fun p hp _ _ _ => hp) G)

set_option maxHeartbeats 8000000 in
theorem A2_c5 {w : World} {loose : List Str} {mean : ExcName → Option Value} {mg mb : Str → Option Value} {dp un : Nat} {gd : Option (List Code)} {a : Addr} {outer : List Env} {A₀ : Around} {base h₀ g₀ : Heap} {L : Addr} {m : Str → Option Value}
    {news : List (Addr × Obj)} {s : Shared} {Q : Flow → Shared → Prop} {E : Value → Shared → Prop} {v : V} {u : U} {n : Nat} {S0 : Stmt} {S1 : Stmt} {st : Bool} {td0 : Tok}
    (eS0 : S0 = nthS 1 (thenB (nthS 3 loopB))) (eS1 : S1 = nthS 2 (thenB (nthS 3 loopB))) (XB : (Mine.hd.heap_39 w.params).In base) (TB : Top topProg loose mean mg mb base) (CB : CodeHd base 352 348) (B : Below A₀ base outer h₀) (D : KtsDicts (frs outer) h₀) (T0 : KtsTurn (frs outer) g₀ h₀) (F : Fr h₀ L s.heap m) (N : News h₀ L s.heap news) (hdp : dp + 100 < recursionLimit) (hun : un + 500 < cLine) (hn : n ≤ 90) (G : St news v u true false st n) (nL : m "loaded" = some (.bool true)) (nM : m "marked" = some (.bool false)) (nS : m "sticky" = some (.bool st)) (nA : m "asked" = some (.ref u.la)) (nT : m "told" = some (.ref u.lt)) (hf1 : v.f1 = true) (hza : u.va.length ≤ 1000) (hzt : u.vt.length ≤ 1000) (nD : m "due" = some (.str "done" td0))
    (ret : ∀ h' tk' news' m' td, Fr h₀ L h' m' → News h₀ L h' news' → m' "loaded" = some (.bool true) → m' "marked" = some (.bool false) → m' "sticky" = some (.bool st) → m' "asked" = some (.ref u.la) → m' "told" = some (.ref u.lt) →  m' "due" = some (.str "failed" td) → (∀ p ∈ news, tagO p.2 = 100 → p.1 ≠ u.la → p.1 ≠ u.lt → p ∈ news') → St news' v u true false st n → Q .next { s with heap := h', toks := tk' }) :
    wpAny (model PySem.Challenge.rw_am6027_01.row.prog w) (top none dp un gd "law" lawS L a (.ref 352) (lawCl v u) outer) (execs [S0, S1] (envX "law" lawS L a (.ref 352) (lawCl v u))) Q E s := by
  w_top off
  w_strict (
    revert XB
    k_fill
    intro XB
    have X := XB.keeps B.stays
    have T := TB.keeps B.stays
    have J := G.D.jars G.S
    have dcf := G.S.ocf
    have dcj := G.S.ocj
    have hoo := G.S.oo
    have mco : (u.co, u.oo) ∈ news := G.has (by simp [rows])
    have mck : (u.ck, u.ok) ∈ news := G.has (by simp [rows])
    have mcw : (u.cw, u.ow) ∈ news := G.has (by simp [rows])
    have mla : (u.la, PySem.W.listOf u.va.toArray u.na) ∈ news := G.has (by simp [rows])
    have mlt : (u.lt, PySem.W.listOf u.vt.toArray u.nt) ∈ news := G.has (by simp [rows])
    have mll : (v.ll, PySem.W.listOf v.vl.toArray v.nl) ∈ news := G.has (by simp [rows])
    have mlc : (v.lc, PySem.W.listOf v.vc.toArray v.nc) ∈ news := G.has (by simp [rows])
    subst eS0 eS1
    have DD := G.D
    have eS := Eq.refl lawS
    conv at eS => rhs; whnf
    have e0 := Eq.refl (nthS 1 (thenB (nthS 3 loopB)))
    conv at e0 => rhs; whnf
    have e1 := Eq.refl (nthS 2 (thenB (nthS 3 loopB)))
    conv at e1 => rhs; whnf
    rw [eS, e0, e1]
    clear eS e0 e1
    k_steps
    exact ret _ _ _ _ _ (by k_asm) (by k_asm) (by (repeat refine (if_neg (by decide)).trans ?_); first | exact if_pos rfl | assumption) (by (repeat refine (if_neg (by decide)).trans ?_); first | exact if_pos rfl | assumption) (by (repeat refine (if_neg (by decide)).trans ?_); first | exact if_pos rfl | assumption) (by (repeat refine (if_neg (by decide)).trans ?_); first | exact if_pos rfl | assumption) (by (repeat refine (if_neg (by decide)).trans ?_); first | exact if_pos rfl | assumption) (by (repeat refine (if_neg (by decide)).trans ?_); first | exact if_pos rfl | assumption) (fun p hp _ _ _ => hp) G)

set_option maxHeartbeats 8000000 in
theorem A2_c6 {w : World} {loose : List Str} {mean : ExcName → Option Value} {mg mb : Str → Option Value} {dp un : Nat} {gd : Option (List Code)} {a : Addr} {outer : List Env} {A₀ : Around} {base h₀ g₀ : Heap} {L : Addr} {m : Str → Option Value}
    {news : List (Addr × Obj)} {s : Shared} {Q : Flow → Shared → Prop} {E : Value → Shared → Prop} {v : V} {u : U} {n : Nat} {S0 : Stmt} {S1 : Stmt} {st : Bool} {td0 : Tok}
    (eS0 : S0 = nthS 1 (thenB (nthS 3 loopB))) (eS1 : S1 = nthS 2 (thenB (nthS 3 loopB))) (XB : (Mine.hd.heap_39 w.params).In base) (TB : Top topProg loose mean mg mb base) (CB : CodeHd base 352 348) (B : Below A₀ base outer h₀) (D : KtsDicts (frs outer) h₀) (T0 : KtsTurn (frs outer) g₀ h₀) (F : Fr h₀ L s.heap m) (N : News h₀ L s.heap news) (hdp : dp + 100 < recursionLimit) (hun : un + 500 < cLine) (hn : n ≤ 90) (G : St news v u true false st n) (nL : m "loaded" = some (.bool true)) (nM : m "marked" = some (.bool false)) (nS : m "sticky" = some (.bool st)) (nA : m "asked" = some (.ref u.la)) (nT : m "told" = some (.ref u.lt)) (hf1 : v.f1 = false) (hza : u.va.length ≤ 1000) (hzt : u.vt.length ≤ 1000) (nD : m "due" = some (.str "done" td0))
    (ret : ∀ h' tk' news' m' t2 td, Fr h₀ L h' m' → News h₀ L h' news' → m' "loaded" = some (.bool true) → m' "marked" = some (.bool true) → m' "sticky" = some (.bool st) → m' "asked" = some (.ref u.la) → m' "told" = some (.ref u.lt) →  m' "due" = some (.str "done" td) → (∀ p ∈ news, tagO p.2 = 100 → p.1 ≠ u.la → p.1 ≠ u.lt → p ∈ news') → St news' v { u with vt := u.vt ++ [.bytes #[109] t2], nt := u.nt + 1 } true false st n → Q .next { s with heap := h', toks := tk' }) :
    wpAny (model PySem.Challenge.rw_am6027_01.row.prog w) (top none dp un gd "law" lawS L a (.ref 352) (lawCl v u) outer) (execs [S0, S1] (envX "law" lawS L a (.ref 352) (lawCl v u))) Q E s := by
  w_top off
  w_strict (
    revert XB
    k_fill
    intro XB
    have X := XB.keeps B.stays
    have T := TB.keeps B.stays
    have J := G.D.jars G.S
    have dcf := G.S.ocf
    have dcj := G.S.ocj
    have hoo := G.S.oo
    have mco : (u.co, u.oo) ∈ news := G.has (by simp [rows])
    have mck : (u.ck, u.ok) ∈ news := G.has (by simp [rows])
    have mcw : (u.cw, u.ow) ∈ news := G.has (by simp [rows])
    have mla : (u.la, PySem.W.listOf u.va.toArray u.na) ∈ news := G.has (by simp [rows])
    have mlt : (u.lt, PySem.W.listOf u.vt.toArray u.nt) ∈ news := G.has (by simp [rows])
    have mll : (v.ll, PySem.W.listOf v.vl.toArray v.nl) ∈ news := G.has (by simp [rows])
    have mlc : (v.lc, PySem.W.listOf v.vc.toArray v.nc) ∈ news := G.has (by simp [rows])
    subst eS0 eS1
    have DD := G.D
    have eS := Eq.refl lawS
    conv at eS => rhs; whnf
    have e0 := Eq.refl (nthS 1 (thenB (nthS 3 loopB)))
    conv at e0 => rhs; whnf
    have e1 := Eq.refl (nthS 2 (thenB (nthS 3 loopB)))
    conv at e1 => rhs; whnf
    rw [eS, e0, e1]
    clear eS e0 e1
    k_steps
    exact ret _ _ _ _ _ _ (by k_asm) (by k_asm) (by (repeat refine (if_neg (by decide)).trans ?_); first | exact if_pos rfl | assumption) (by (repeat refine (if_neg (by decide)).trans ?_); first | exact if_pos rfl | assumption) (by (repeat refine (if_neg (by decide)).trans ?_); first | exact if_pos rfl | assumption) (by (repeat refine (if_neg (by decide)).trans ?_); first | exact if_pos rfl | assumption) (by (repeat refine (if_neg (by decide)).trans ?_); first | exact if_pos rfl | assumption) (by (repeat refine (if_neg (by decide)).trans ?_); first | exact if_pos rfl | assumption) (fun p hp _ _ h2 => upd_keep (G.D.uT _) hp h2) (G.pushT _))
end Mine
end
section
open PySem PySem.W PyProof.Rows PySem.Calls
set_option Elab.async false
set_option maxRecDepth 100000
namespace Mine

local macro_rules | `(tactic| walk_at "ite") => `(tactic| first | with_reducible refine ite_pos (by decide) ?_ | with_reducible refine ite_neg (by decide) ?_)
local macro_rules | `(tactic| k_room) => `(tactic| ((try simp only [depth_mark, depth_under_make, depth_under_kw, depth_in1, depth_deeper, depth_caller]); (try dsimp only [top]); omega))
local macro_rules | `(tactic| k_units) => `(tactic| ((try simp only [units_in1, units_deeper, Around.mark_units, units_caller]); (try dsimp only [top]); (have hcL9 := cLine_is); omega))
local macro_rules | `(tactic| k_handed) => `(tactic| assumption)
local macro_rules | `(tactic| k_upd) => `(tactic| assumption)
local macro_rules | `(tactic| k_mem) => `(tactic| first | (refine' Jars.x' ?J ?h; (case J => first | assumption | apply_assumption); (case h => exact rfl)) | (refine' Jars.dx' ?J ?h; (case J => first | assumption | apply_assumption); (case h => exact rfl)) | (refine' Jars.y' ?J ?h; (case J => first | assumption | apply_assumption); (case h => exact rfl)) | (refine' Jars.dy' ?J ?h; (case J => first | assumption | apply_assumption); (case h => exact rfl)) | (refine' Jars.ll' ?J ?h; (case J => first | assumption | apply_assumption); (case h => exact rfl)) | (refine' Jars.lc' ?J ?h; (case J => first | assumption | apply_assumption); (case h => exact rfl)) | (refine' Jars.fs' ?J ?h; (case J => first | assumption | apply_assumption); (case h => exact rfl)) | (refine' Jars.fr' ?J ?h; (case J => first | assumption | apply_assumption); (case h => exact rfl)) | (refine' Jars.cf' ?J ?h; (case J => first | assumption | apply_assumption); (case h => exact rfl)) | (refine' Jars.cj' ?J ?h; (case J => first | assumption | apply_assumption); (case h => exact rfl)) | (refine' Jars.fl' ?J ?h; (case J => first | assumption | apply_assumption); (case h => exact rfl)) | (refine' Jars.cs' ?J ?h; (case J => first | assumption | apply_assumption); (case h => exact rfl)) | (refine' Jars.cr' ?J ?h; (case J => first | assumption | apply_assumption); (case h => exact rfl)))
local macro_rules | `(tactic| size_fits) => `(tactic| (simp only [List.size_toArray, PySem.sizeLine_eq]; omega))

local macro_rules | `(tactic| walk_at "eval Name") => `(tactic| (k_here; k_dflt (refine' nameX_F ?N ?c ?m ?d ?_ ?a ?b; (case a => rfl); (case b => rfl); (case N => k_asm); (case c => rfl); (case m => k_mem); (case d => k_asm); k_whole)))
local macro_rules | `(tactic| ktr_room) => `(tactic| ((try simp only [depth_mark, depth_under_make, depth_under_kw, depth_in1, depth_deeper, depth_caller, units_in1, units_deeper, Around.mark_units, units_caller]); (try dsimp only [top]); first | omega | (have hcL9 := cLine_is; omega) | decide))
local macro_rules | `(tactic| ktr_enter) => `(tactic| (refine' enterT ?B ?D ?T0 ?F ?N ?XB ?TB ?kA ?kF ?kK ?ho ?hcd ?hroom ?hbind ?hloc ?_ ?c1 ?c2 ?c3 ?c4; (case kA => exact rfl); (case kF => exact rfl); (case kK => first | assumption | exact rfl); (case B => k_asm); (case D => k_asm); (case T0 => first | assumption | exact KtsTurn.refl); (case F => k_asm); (case N => k_asm); (case XB => k_asm); (case TB => k_asm); (case ho => k_is); (case hcd => k_is); (case hroom => k_room); (case hbind => first | exact BindsTo.of_eq rfl | exact binds_K (by k_in) rfl (by k_is) rfl rfl rfl); (case hloc => exact locs rfl); (case c1 => exact rfl); (case c2 => exact rfl); (case c3 => exact rfl); (case c4 => decide); k_whole; intro g' L' h' FG' F' N' B' D' X' T'; (try dsimp only); (try k_fold)))
local macro_rules | `(tactic| kla_enter) => `(tactic| (refine' enterTL ?B ?D ?T0 ?F ?N ?XB ?TB ?kA ?kF ?kK ?ho ?hcd ?hroom ?hbind ?hloc ?_ ?c1 ?c2 ?c3 ?c4; (case kA => exact rfl); (case kF => exact rfl); (case kK => first | assumption | exact rfl); (case B => k_asm); (case D => k_asm); (case T0 => first | assumption | exact KtsTurn.refl); (case F => k_asm); (case N => k_asm); (case XB => k_asm); (case TB => k_asm); (case ho => k_mem); (case hcd => first | exact jars_codeS (by k_asm) (by k_asm) | exact jars_codeR (by k_asm) (by k_asm)); (case hroom => k_room); (case hbind => exact rfl); (case hloc => exact locs rfl); (case c1 => exact rfl); (case c2 => exact rfl); (case c3 => exact rfl); (case c4 => decide); k_whole; intro g' L' h' FG' F' N' B' D' X' T'; (try dsimp only); (try k_fold)))
local macro_rules | `(tactic| walk_at "LeaveT") => `(tactic| (k_dflt (refine' leaveT_ ?F ?N ?T ?_; (case F => k_asm); (case N => k_asm); (case T => first | assumption | exact KtsTurn.refl); k_whole); intro h₀' T' F' N' B' D'; (try dsimp only)))
local macro_rules | `(tactic| walk_at "subscriptTail Name Constant ref int") => `(tactic| ((with_reducible show wpAny _ _ (subscriptTail _ _ (Value.ref _) (Value.int _ _)) _ _ _); k_dflt (refine' item_fl ?N ?m ?a ?b ?x ?_; (case N => k_asm); (case m => k_mem); (case a => decide); (case b => decide); (case x => rfl); k_whole)))
local macro_rules | `(tactic| walk_at "callWith ref") => `(tactic| (k_here; (show wpAny _ _ (callWith _ (Value.ref (V.fr _)) _ _ _) _ _ _); k_dflt (first
  | (refine' callWith_F ?k1 ?_; (case k1 => exact FnAt.of (by k_asm) (by k_mem)); k_whole)
  | (refine' callWith_F0 ?k1 ?_; (case k1 => exact FnAt.of (by k_asm) (by k_mem)); k_whole; try dsimp only [List.nil_append, List.cons_append]))))
local macro_rules | `(tactic| walk_at "callWith ref") => `(tactic| (k_here; (show wpAny _ _ (callWith _ (Value.ref (V.fs _)) _ _ _) _ _ _); k_dflt (first
  | (refine' callWith_F ?k1 ?_; (case k1 => exact FnAt.of (by k_asm) (by k_mem)); k_whole)
  | (refine' callWith_F0 ?k1 ?_; (case k1 => exact FnAt.of (by k_asm) (by k_mem)); k_whole; try dsimp only [List.nil_append, List.cons_append]))))
local macro_rules | `(tactic| walk_at "getMethod ref") => `(tactic| (k_here; k_dflt (refine' method_shadow ?k1 ?k2 ?k3 ?k4 ?k5 ?k6 ?k7 ?k8 ?k9 ?k10 ?k11 ?_; (case k1 => k_asm); (case k2 => k_asm); (case k3 => k_inst); (case k4 => k_is); (case k5 => k_is); (case k6 => k_is); (case k7 => k_is); (case k8 => k_is); (case k9 => k_is); (case k10 => k_get); (case k11 => first | rfl | k_handed); k_whole)))
local macro_rules | `(tactic| walk_at "leaving ref") => `(tactic| (k_here; first
  | (with_reducible rename RaisedSN _ _ _ _ _ _ _ => rsX; k_dflt (refine' passX ?f ?K ?F ?R ?U ?_; (case R => exact rsX); (case f => exact rfl); (case K => k_asm); (case F => k_asm); (case U => k_asm); k_whole); clear rsX; intro h' R' U'; (try dsimp only at R' U' ⊢); (try k_unfold); (try dsimp only); (try (with_reducible rename RaisedSN _ _ _ _ _ _ _ => rsX; with_reducible rename Heap.UpToSlots _ _ => rsU; (show wpAny _ _ _ _ _ _); k_dflt (refine' exc_of rfl ?FG ?B ?D ?T0 ?T rsX rsU ?_; (case T => assumption); (case FG => k_asm); (case B => k_asm); (case D => k_asm); (case T0 => first | assumption | exact KtsTurn.refl); k_whole); clear rsX rsU; intro h₀' g' T' FG' B' D' R' U'; (try dsimp only))))
  | (k_dflt (refine' leave_raiseS ?k1 ?k0 ?k2 ?k3 ?_; (case k0 => first | assumption | exact Heap.MadeExc.of (by assumption)); (case k2 => assumption); (case k1 => assumption); (case k3 => k_asm); k_whole); intro h' t' S' R' U'; (try dsimp only at S' R' U' ⊢); (replace S' := toSN S'); clear R')))

local macro_rules | `(tactic| k_mem) => `(tactic| assumption)
local macro_rules | `(tactic| walk_at "eval Name") => `(tactic| (k_here; k_dflt (refine' nameX_C ?N ?c ?m ?d ?_ ?a ?b; (case a => rfl); (case b => rfl); (case N => k_asm); (case c => rfl); (case m => k_mem); (case d => k_asm); k_whole)))
local macro_rules | `(tactic| walk_at "eval Name") => `(tactic| (k_here; k_dflt (refine' nameX_L ?F ?hv ?_ ?a ?b; (case a => rfl); (case b => rfl); (case F => k_asm); (case hv => ((repeat refine (if_neg (by decide)).trans ?_); first | exact if_pos rfl | assumption)); k_whole)))
local macro_rules | `(tactic| walk_at "compareOp NotEq ref ref") => `(tactic| (k_here; k_dflt (refine' ne_marks ?l1 ?l2 ?m1 ?m2 ?e ?u ?_; (case l1 => exact isList_of (by k_asm) (by assumption)); (case l2 => exact isList_of (by k_asm) (by assumption)); (case m1 => assumption); (case m2 => assumption); (case e => assumption); (case u => ktr_room); k_whole)))

local macro_rules | `(tactic| walk_at "callWith ref") => `(tactic| (k_here; k_dflt (first | (refine' callWith_K ?k1 ?k2 ?_; (case k1 => k_asm); (case k2 => k_is); k_whole) | (refine' callWith_K0 ?k1 ?k2 ?_; (case k1 => k_in); (case k2 => k_is); k_whole))))

local macro_rules | `(tactic| walk_at "eval Lambda IfExp") => `(tactic| (k_here; k_dflt (refine' mk_deed ?F ?N ?T ?C ?G ?hk ?hw ?e1 ?e2 ?_; (case F => k_asm); (case N => k_asm); (case T => k_asm); (case C => kn_code); (case G => assumption); (case hk => assumption); (case hw => assumption); (case e1 => rfl); (case e2 => rfl); k_whole); intro f' h' tk' news' ps' F' N' kp' G' DD'))
local macro_rules | `(tactic| walk_at "eval Lambda Call") => `(tactic| (k_here; k_dflt (refine' mk_reg ?F ?N ?T ?C ?G ?e2 ?_; (case F => k_asm); (case N => k_asm); (case T => k_asm); (case C => kn_code); (case G => assumption); (case e2 => rfl); k_whole); intro f' h' tk' news' ps' F' N' G' DD'))

set_option maxHeartbeats 8000000 in
theorem A4 {w : World} {loose : List Str} {mean : ExcName → Option Value} {mg mb : Str → Option Value} {dp un : Nat} {gd : Option (List Code)} {a : Addr} {outer : List Env} {A₀ : Around} {base h₀ g₀ : Heap} {L : Addr} {m : Str → Option Value}
    {news : List (Addr × Obj)} {s : Shared} {Q : Flow → Shared → Prop} {E : Value → Shared → Prop} {v : V} {u : U} {n : Nat} {S0 : Stmt} {ld mk st : Bool} {kd : Int} {tk0 : Tok} {z : Value}
    (eS0 : S0 = nthS 3 (thenB (nthS 3 loopB))) (XB : (Mine.hd.heap_39 w.params).In base) (TB : Top topProg loose mean mg mb base) (CB : CodeHd base 352 348) (B : Below A₀ base outer h₀) (D : KtsDicts (frs outer) h₀) (T0 : KtsTurn (frs outer) g₀ h₀) (F : Fr h₀ L s.heap m) (N : News h₀ L s.heap news) (hdp : dp + 100 < recursionLimit) (hun : un + 500 < cLine) (hn : n ≤ 90) (G : St news v u ld mk st n)  (hkd : u.ok.data = .cell (some (.int kd tk0))) (hwd : u.ow.data = .cell (some z))
    (ret : ∀ f h' tk' news' ps, Fr h₀ L h' (fun y => if y = "deed" then some (.ref f) else m y) → News h₀ L h' news' → (∀ q ∈ news, tagO q.2 = 100 → q ∈ news') → St news' v { u with ps := ps } ld mk st n → Deed news' f v.x kd z → Q .next { s with heap := h', toks := tk' }) :
    wpAny (model PySem.Challenge.rw_am6027_01.row.prog w) (top none dp un gd "law" lawS L a (.ref 352) (lawCl v u) outer) (exec S0 (envX "law" lawS L a (.ref 352) (lawCl v u))) Q E s := by
  w_top off
  w_strict (
    revert XB
    k_fill
    intro XB
    have X := XB.keeps B.stays
    have T := TB.keeps B.stays
    have J := G.D.jars G.S
    have dcf := G.S.ocf
    have dcj := G.S.ocj
    have hoo := G.S.oo
    have mco : (u.co, u.oo) ∈ news := G.has (by simp [rows])
    have mck : (u.ck, u.ok) ∈ news := G.has (by simp [rows])
    have mcw : (u.cw, u.ow) ∈ news := G.has (by simp [rows])
    have mla : (u.la, PySem.W.listOf u.va.toArray u.na) ∈ news := G.has (by simp [rows])
    have mlt : (u.lt, PySem.W.listOf u.vt.toArray u.nt) ∈ news := G.has (by simp [rows])
    have mll : (v.ll, PySem.W.listOf v.vl.toArray v.nl) ∈ news := G.has (by simp [rows])
    have mlc : (v.lc, PySem.W.listOf v.vc.toArray v.nc) ∈ news := G.has (by simp [rows])
    subst eS0
    have eS := Eq.refl lawS
    conv at eS => rhs; whnf
    have e0 := Eq.refl (nthS 3 (thenB (nthS 3 loopB)))
    conv at e0 => rhs; whnf
    rw [eS, e0]
    clear eS e0
    k_steps
    exact ret _ _ _ _ _ (by k_asm) (by k_asm) (by assumption) (by assumption) (by assumption))
local macro_rules | `(tactic| walk_at "call ref") => `(tactic| (k_here; k_dflt (show wpAny _ _ (PySem.call (Value.ref 339) [_]) _ _ _); k_dflt (refine' wt0_on ?XB ?TB ?B ?D ?T0 ?F ?N ?hk ?hdp ?hun ?hn ?G ?DD ?W ?_; (case B => k_asm); (case D => k_asm); (case T0 => first | assumption | exact KtsTurn.refl); (case F => k_asm); (case N => k_asm); (case XB => k_asm); (case TB => k_asm); (case hk => exact rfl); (case G => assumption); (case hdp => ktr_room); (case hun => ktr_room); (case hn => omega); (case DD => assumption); (case W => assumption); k_whole); intro h₀' h' tk' ts' news' Fp' T' F' N' B' D' X' P' G'; (try dsimp only)))

set_option maxHeartbeats 8000000 in
theorem A5_wt0_on {w : World} {loose : List Str} {mean : ExcName → Option Value} {mg mb : Str → Option Value} {dp un : Nat} {gd : Option (List Code)} {a : Addr} {outer : List Env} {A₀ : Around} {base h₀ g₀ : Heap} {L : Addr} {m : Str → Option Value}
    {news : List (Addr × Obj)} {s : Shared} {Q : Flow → Shared → Prop} {E : Value → Shared → Prop} {v : V} {u : U} {n : Nat} {st : Bool} {f : Addr} {z : Value} {td : Tok} {S0 : Stmt}
    (eS0 : S0 = nthS 4 (thenB (nthS 3 loopB))) (XB : (Mine.hd.heap_39 w.params).In base) (TB : Top topProg loose mean mg mb base) (CB : CodeHd base 352 348) (B : Below A₀ base outer h₀) (D : KtsDicts (frs outer) h₀) (T0 : KtsTurn (frs outer) g₀ h₀) (F : Fr h₀ L s.heap m) (N : News h₀ L s.heap news) (hdp : dp + 100 < recursionLimit) (hun : un + 500 < cLine) (hn : n ≤ 90) (G : St news v u true true st n) (nF : m "deed" = some (.ref f)) (nD : m "due" = some (.str "done" td)) (DD : Deed news f v.x 0 z) (W : Word news true z) 
    (ret : ∀ h₀' h' tk' news' F', KtsTurn (frs outer) g₀ h₀' → Fr h₀' L h' m → News h₀' L h' news' → Below A₀ base outer h₀' → KtsDicts (frs outer) h₀' → (Mine.hd.heap_39 w.params).In h₀' → Top topProg loose mean mg mb h₀' → St news' { v with F := F' } u true true st (n + 1) → Q .next { s with heap := h', toks := tk' }) :
    wpAny (model PySem.Challenge.rw_am6027_01.row.prog w) (top none dp un gd "law" lawS L a (.ref 352) (lawCl v u) outer) (exec S0 (envX "law" lawS L a (.ref 352) (lawCl v u))) Q E s := by
  w_top off
  w_strict (
    revert XB
    k_fill
    intro XB
    subst eS0
    have X := XB.keeps B.stays
    have T := TB.keeps B.stays
    have eS := Eq.refl lawS
    conv at eS => rhs; whnf
    have e0 := Eq.refl (nthS 4 (thenB (nthS 3 loopB)))
    conv at e0 => rhs; whnf
    rw [eS, e0]
    clear eS e0
    k_steps
    exact ret _ _ _ _ _ (by k_asm) (by k_asm) (by k_asm) (by k_asm) (by k_asm) (by k_asm) (by k_asm) (by assumption))
local macro_rules | `(tactic| walk_at "call ref") => `(tactic| (k_here; k_dflt (show wpAny _ _ (PySem.call (Value.ref 339) [_]) _ _ _); k_dflt (refine' wt0_mark ?XB ?TB ?B ?D ?T0 ?F ?N ?hk ?hdp ?hun ?hn ?G ?DD ?W ?hf ?_; (case B => k_asm); (case D => k_asm); (case T0 => first | assumption | exact KtsTurn.refl); (case F => k_asm); (case N => k_asm); (case XB => k_asm); (case TB => k_asm); (case hk => exact rfl); (case G => assumption); (case hdp => ktr_room); (case hun => ktr_room); (case hn => omega); (case DD => assumption); (case W => assumption); (case hf => assumption); k_whole); intro h₀' h' tk' ts' news' Fp' T' F' N' B' D' X' P' G'; (try dsimp only)))

set_option maxHeartbeats 8000000 in
theorem A5_wt0_mark {w : World} {loose : List Str} {mean : ExcName → Option Value} {mg mb : Str → Option Value} {dp un : Nat} {gd : Option (List Code)} {a : Addr} {outer : List Env} {A₀ : Around} {base h₀ g₀ : Heap} {L : Addr} {m : Str → Option Value}
    {news : List (Addr × Obj)} {s : Shared} {Q : Flow → Shared → Prop} {E : Value → Shared → Prop} {v : V} {u : U} {n : Nat} {st : Bool} {f : Addr} {z : Value} {td : Tok} {S0 : Stmt}
    (eS0 : S0 = nthS 4 (thenB (nthS 3 loopB))) (XB : (Mine.hd.heap_39 w.params).In base) (TB : Top topProg loose mean mg mb base) (CB : CodeHd base 352 348) (B : Below A₀ base outer h₀) (D : KtsDicts (frs outer) h₀) (T0 : KtsTurn (frs outer) g₀ h₀) (F : Fr h₀ L s.heap m) (N : News h₀ L s.heap news) (hdp : dp + 100 < recursionLimit) (hun : un + 500 < cLine) (hn : n ≤ 90) (G : St news v u true false st n) (nF : m "deed" = some (.ref f)) (nD : m "due" = some (.str "done" td)) (DD : Deed news f v.x 0 z) (W : Word news true z) (hf : v.f1 = false)
    (ret : ∀ h₀' h' tk' news' F', KtsTurn (frs outer) g₀ h₀' → Fr h₀' L h' m → News h₀' L h' news' → Below A₀ base outer h₀' → KtsDicts (frs outer) h₀' → (Mine.hd.heap_39 w.params).In h₀' → Top topProg loose mean mg mb h₀' → St news' { v with F := F', vc := v.vc ++ [.bytes #[109] v.t0], nc := v.nc + 1 } u true true st (n + 1) → Q .next { s with heap := h', toks := tk' }) :
    wpAny (model PySem.Challenge.rw_am6027_01.row.prog w) (top none dp un gd "law" lawS L a (.ref 352) (lawCl v u) outer) (exec S0 (envX "law" lawS L a (.ref 352) (lawCl v u))) Q E s := by
  w_top off
  w_strict (
    revert XB
    k_fill
    intro XB
    subst eS0
    have X := XB.keeps B.stays
    have T := TB.keeps B.stays
    have eS := Eq.refl lawS
    conv at eS => rhs; whnf
    have e0 := Eq.refl (nthS 4 (thenB (nthS 3 loopB)))
    conv at e0 => rhs; whnf
    rw [eS, e0]
    clear eS e0
    k_steps
    exact ret _ _ _ _ _ (by k_asm) (by k_asm) (by k_asm) (by k_asm) (by k_asm) (by k_asm) (by k_asm) (by assumption))
local macro_rules | `(tactic| walk_at "call ref") => `(tactic| (k_here; k_dflt (show wpAny _ _ (PySem.call (Value.ref 339) [_]) _ _ _); k_dflt (refine' wt0_no ?XB ?TB ?B ?D ?T0 ?F ?N ?hk ?hdp ?hun ?hn ?G ?DD ?W ?hf ?_; (case B => k_asm); (case D => k_asm); (case T0 => first | assumption | exact KtsTurn.refl); (case F => k_asm); (case N => k_asm); (case XB => k_asm); (case TB => k_asm); (case hk => exact rfl); (case G => assumption); (case hdp => ktr_room); (case hun => ktr_room); (case hn => omega); (case DD => assumption); (case W => assumption); (case hf => assumption); k_whole); intro h₀' h' tk' ts' news' Fp' T' F' N' B' D' X' P' G'; (try dsimp only)))

set_option maxHeartbeats 8000000 in
theorem A5_wt0_no {w : World} {loose : List Str} {mean : ExcName → Option Value} {mg mb : Str → Option Value} {dp un : Nat} {gd : Option (List Code)} {a : Addr} {outer : List Env} {A₀ : Around} {base h₀ g₀ : Heap} {L : Addr} {m : Str → Option Value}
    {news : List (Addr × Obj)} {s : Shared} {Q : Flow → Shared → Prop} {E : Value → Shared → Prop} {v : V} {u : U} {n : Nat} {st : Bool} {f : Addr} {z : Value} {td : Tok} {S0 : Stmt}
    (eS0 : S0 = nthS 4 (thenB (nthS 3 loopB))) (XB : (Mine.hd.heap_39 w.params).In base) (TB : Top topProg loose mean mg mb base) (CB : CodeHd base 352 348) (B : Below A₀ base outer h₀) (D : KtsDicts (frs outer) h₀) (T0 : KtsTurn (frs outer) g₀ h₀) (F : Fr h₀ L s.heap m) (N : News h₀ L s.heap news) (hdp : dp + 100 < recursionLimit) (hun : un + 500 < cLine) (hn : n ≤ 90) (G : St news v u true false st n) (nF : m "deed" = some (.ref f)) (nD : m "due" = some (.str "failed" td)) (DD : Deed news f v.x 0 z) (W : Word news true z) (hf : v.f1 = true)
    (ret : ∀ h₀' h' tk' news' F', KtsTurn (frs outer) g₀ h₀' → Fr h₀' L h' m → News h₀' L h' news' → Below A₀ base outer h₀' → KtsDicts (frs outer) h₀' → (Mine.hd.heap_39 w.params).In h₀' → Top topProg loose mean mg mb h₀' → St news' { v with F := F' } u true false st (n + 1) → Q .next { s with heap := h', toks := tk' }) :
    wpAny (model PySem.Challenge.rw_am6027_01.row.prog w) (top none dp un gd "law" lawS L a (.ref 352) (lawCl v u) outer) (exec S0 (envX "law" lawS L a (.ref 352) (lawCl v u))) Q E s := by
  w_top off
  w_strict (
    revert XB
    k_fill
    intro XB
    subst eS0
    have X := XB.keeps B.stays
    have T := TB.keeps B.stays
    have eS := Eq.refl lawS
    conv at eS => rhs; whnf
    have e0 := Eq.refl (nthS 4 (thenB (nthS 3 loopB)))
    conv at e0 => rhs; whnf
    rw [eS, e0]
    clear eS e0
    k_steps
    exact ret _ _ _ _ _ (by k_asm) (by k_asm) (by k_asm) (by k_asm) (by k_asm) (by k_asm) (by k_asm) (by assumption))
local macro_rules | `(tactic| walk_at "call ref") => `(tactic| (k_here; k_dflt (show wpAny _ _ (PySem.call (Value.ref 339) [_]) _ _ _); k_dflt (refine' wt7_on ?XB ?TB ?B ?D ?T0 ?F ?N ?hk ?hdp ?hun ?hn ?G ?DD ?W ?_; (case B => k_asm); (case D => k_asm); (case T0 => first | assumption | exact KtsTurn.refl); (case F => k_asm); (case N => k_asm); (case XB => k_asm); (case TB => k_asm); (case hk => exact rfl); (case G => assumption); (case hdp => ktr_room); (case hun => ktr_room); (case hn => omega); (case DD => assumption); (case W => assumption); k_whole); intro h₀' h' tk' ts' news' Fp' T' F' N' B' D' X' P' G'; (try dsimp only)))

set_option maxHeartbeats 8000000 in
theorem A5_wt7_on {w : World} {loose : List Str} {mean : ExcName → Option Value} {mg mb : Str → Option Value} {dp un : Nat} {gd : Option (List Code)} {a : Addr} {outer : List Env} {A₀ : Around} {base h₀ g₀ : Heap} {L : Addr} {m : Str → Option Value}
    {news : List (Addr × Obj)} {s : Shared} {Q : Flow → Shared → Prop} {E : Value → Shared → Prop} {v : V} {u : U} {n : Nat} {st : Bool} {f : Addr} {z : Value} {td : Tok} {S0 : Stmt}
    (eS0 : S0 = nthS 4 (thenB (nthS 3 loopB))) (XB : (Mine.hd.heap_39 w.params).In base) (TB : Top topProg loose mean mg mb base) (CB : CodeHd base 352 348) (B : Below A₀ base outer h₀) (D : KtsDicts (frs outer) h₀) (T0 : KtsTurn (frs outer) g₀ h₀) (F : Fr h₀ L s.heap m) (N : News h₀ L s.heap news) (hdp : dp + 100 < recursionLimit) (hun : un + 500 < cLine) (hn : n ≤ 90) (G : St news v u true true st n) (nF : m "deed" = some (.ref f)) (nD : m "due" = some (.str "done" td)) (DD : Deed news f v.x 7 z) (W : Word news true z) 
    (ret : ∀ h₀' h' tk' news' F', KtsTurn (frs outer) g₀ h₀' → Fr h₀' L h' m → News h₀' L h' news' → Below A₀ base outer h₀' → KtsDicts (frs outer) h₀' → (Mine.hd.heap_39 w.params).In h₀' → Top topProg loose mean mg mb h₀' → St news' { v with F := F' } u true true st (n + 1) → Q .next { s with heap := h', toks := tk' }) :
    wpAny (model PySem.Challenge.rw_am6027_01.row.prog w) (top none dp un gd "law" lawS L a (.ref 352) (lawCl v u) outer) (exec S0 (envX "law" lawS L a (.ref 352) (lawCl v u))) Q E s := by
  w_top off
  w_strict (
    revert XB
    k_fill
    intro XB
    subst eS0
    have X := XB.keeps B.stays
    have T := TB.keeps B.stays
    have eS := Eq.refl lawS
    conv at eS => rhs; whnf
    have e0 := Eq.refl (nthS 4 (thenB (nthS 3 loopB)))
    conv at e0 => rhs; whnf
    rw [eS, e0]
    clear eS e0
    k_steps
    exact ret _ _ _ _ _ (by k_asm) (by k_asm) (by k_asm) (by k_asm) (by k_asm) (by k_asm) (by k_asm) (by assumption))
local macro_rules | `(tactic| walk_at "call ref") => `(tactic| (k_here; k_dflt (show wpAny _ _ (PySem.call (Value.ref 339) [_]) _ _ _); k_dflt (refine' wt7_mark ?XB ?TB ?B ?D ?T0 ?F ?N ?hk ?hdp ?hun ?hn ?G ?DD ?W ?hf ?_; (case B => k_asm); (case D => k_asm); (case T0 => first | assumption | exact KtsTurn.refl); (case F => k_asm); (case N => k_asm); (case XB => k_asm); (case TB => k_asm); (case hk => exact rfl); (case G => assumption); (case hdp => ktr_room); (case hun => ktr_room); (case hn => omega); (case DD => assumption); (case W => assumption); (case hf => assumption); k_whole); intro h₀' h' tk' ts' news' Fp' T' F' N' B' D' X' P' G'; (try dsimp only)))

set_option maxHeartbeats 8000000 in
theorem A5_wt7_mark {w : World} {loose : List Str} {mean : ExcName → Option Value} {mg mb : Str → Option Value} {dp un : Nat} {gd : Option (List Code)} {a : Addr} {outer : List Env} {A₀ : Around} {base h₀ g₀ : Heap} {L : Addr} {m : Str → Option Value}
    {news : List (Addr × Obj)} {s : Shared} {Q : Flow → Shared → Prop} {E : Value → Shared → Prop} {v : V} {u : U} {n : Nat} {st : Bool} {f : Addr} {z : Value} {td : Tok} {S0 : Stmt}
    (eS0 : S0 = nthS 4 (thenB (nthS 3 loopB))) (XB : (Mine.hd.heap_39 w.params).In base) (TB : Top topProg loose mean mg mb base) (CB : CodeHd base 352 348) (B : Below A₀ base outer h₀) (D : KtsDicts (frs outer) h₀) (T0 : KtsTurn (frs outer) g₀ h₀) (F : Fr h₀ L s.heap m) (N : News h₀ L s.heap news) (hdp : dp + 100 < recursionLimit) (hun : un + 500 < cLine) (hn : n ≤ 90) (G : St news v u true false st n) (nF : m "deed" = some (.ref f)) (nD : m "due" = some (.str "done" td)) (DD : Deed news f v.x 7 z) (W : Word news true z) (hf : v.f1 = false)
    (ret : ∀ h₀' h' tk' news' F', KtsTurn (frs outer) g₀ h₀' → Fr h₀' L h' m → News h₀' L h' news' → Below A₀ base outer h₀' → KtsDicts (frs outer) h₀' → (Mine.hd.heap_39 w.params).In h₀' → Top topProg loose mean mg mb h₀' → St news' { v with F := F', vc := v.vc ++ [.bytes #[109] v.t0], nc := v.nc + 1 } u true true st (n + 1) → Q .next { s with heap := h', toks := tk' }) :
    wpAny (model PySem.Challenge.rw_am6027_01.row.prog w) (top none dp un gd "law" lawS L a (.ref 352) (lawCl v u) outer) (exec S0 (envX "law" lawS L a (.ref 352) (lawCl v u))) Q E s := by
  w_top off
  w_strict (
    revert XB
    k_fill
    intro XB
    subst eS0
    have X := XB.keeps B.stays
    have T := TB.keeps B.stays
    have eS := Eq.refl lawS
    conv at eS => rhs; whnf
    have e0 := Eq.refl (nthS 4 (thenB (nthS 3 loopB)))
    conv at e0 => rhs; whnf
    rw [eS, e0]
    clear eS e0
    k_steps
    exact ret _ _ _ _ _ (by k_asm) (by k_asm) (by k_asm) (by k_asm) (by k_asm) (by k_asm) (by k_asm) (by assumption))
local macro_rules | `(tactic| walk_at "call ref") => `(tactic| (k_here; k_dflt (show wpAny _ _ (PySem.call (Value.ref 339) [_]) _ _ _); k_dflt (refine' wt7_no ?XB ?TB ?B ?D ?T0 ?F ?N ?hk ?hdp ?hun ?hn ?G ?DD ?W ?hf ?_; (case B => k_asm); (case D => k_asm); (case T0 => first | assumption | exact KtsTurn.refl); (case F => k_asm); (case N => k_asm); (case XB => k_asm); (case TB => k_asm); (case hk => exact rfl); (case G => assumption); (case hdp => ktr_room); (case hun => ktr_room); (case hn => omega); (case DD => assumption); (case W => assumption); (case hf => assumption); k_whole); intro h₀' h' tk' ts' news' Fp' T' F' N' B' D' X' P' G'; (try dsimp only)))

set_option maxHeartbeats 8000000 in
theorem A5_wt7_no {w : World} {loose : List Str} {mean : ExcName → Option Value} {mg mb : Str → Option Value} {dp un : Nat} {gd : Option (List Code)} {a : Addr} {outer : List Env} {A₀ : Around} {base h₀ g₀ : Heap} {L : Addr} {m : Str → Option Value}
    {news : List (Addr × Obj)} {s : Shared} {Q : Flow → Shared → Prop} {E : Value → Shared → Prop} {v : V} {u : U} {n : Nat} {st : Bool} {f : Addr} {z : Value} {td : Tok} {S0 : Stmt}
    (eS0 : S0 = nthS 4 (thenB (nthS 3 loopB))) (XB : (Mine.hd.heap_39 w.params).In base) (TB : Top topProg loose mean mg mb base) (CB : CodeHd base 352 348) (B : Below A₀ base outer h₀) (D : KtsDicts (frs outer) h₀) (T0 : KtsTurn (frs outer) g₀ h₀) (F : Fr h₀ L s.heap m) (N : News h₀ L s.heap news) (hdp : dp + 100 < recursionLimit) (hun : un + 500 < cLine) (hn : n ≤ 90) (G : St news v u true false st n) (nF : m "deed" = some (.ref f)) (nD : m "due" = some (.str "failed" td)) (DD : Deed news f v.x 7 z) (W : Word news true z) (hf : v.f1 = true)
    (ret : ∀ h₀' h' tk' news' F', KtsTurn (frs outer) g₀ h₀' → Fr h₀' L h' m → News h₀' L h' news' → Below A₀ base outer h₀' → KtsDicts (frs outer) h₀' → (Mine.hd.heap_39 w.params).In h₀' → Top topProg loose mean mg mb h₀' → St news' { v with F := F' } u true false st (n + 1) → Q .next { s with heap := h', toks := tk' }) :
    wpAny (model PySem.Challenge.rw_am6027_01.row.prog w) (top none dp un gd "law" lawS L a (.ref 352) (lawCl v u) outer) (exec S0 (envX "law" lawS L a (.ref 352) (lawCl v u))) Q E s := by
  w_top off
  w_strict (
    revert XB
    k_fill
    intro XB
    subst eS0
    have X := XB.keeps B.stays
    have T := TB.keeps B.stays
    have eS := Eq.refl lawS
    conv at eS => rhs; whnf
    have e0 := Eq.refl (nthS 4 (thenB (nthS 3 loopB)))
    conv at e0 => rhs; whnf
    rw [eS, e0]
    clear eS e0
    k_steps
    exact ret _ _ _ _ _ (by k_asm) (by k_asm) (by k_asm) (by k_asm) (by k_asm) (by k_asm) (by k_asm) (by assumption))
local macro_rules | `(tactic| walk_at "call ref") => `(tactic| (k_here; k_dflt (show wpAny _ _ (PySem.call (Value.ref 339) [_]) _ _ _); k_dflt (refine' wt0_noN1 ?XB ?TB ?B ?D ?T0 ?F ?N ?hk ?hdp ?hun ?hn ?G ?DD ?W ?hf ?hf2 ?_; (case B => k_asm); (case D => k_asm); (case T0 => first | assumption | exact KtsTurn.refl); (case F => k_asm); (case N => k_asm); (case XB => k_asm); (case TB => k_asm); (case hk => exact rfl); (case G => assumption); (case hdp => ktr_room); (case hun => ktr_room); (case hn => omega); (case DD => assumption); (case W => assumption); (case hf => assumption); (case hf2 => assumption); k_whole); intro h₀' h' tk' ts' news' Fp' T' F' N' B' D' X' P' G'; (try dsimp only)))

set_option maxHeartbeats 8000000 in
theorem A5_wt0_noN1 {w : World} {loose : List Str} {mean : ExcName → Option Value} {mg mb : Str → Option Value} {dp un : Nat} {gd : Option (List Code)} {a : Addr} {outer : List Env} {A₀ : Around} {base h₀ g₀ : Heap} {L : Addr} {m : Str → Option Value}
    {news : List (Addr × Obj)} {s : Shared} {Q : Flow → Shared → Prop} {E : Value → Shared → Prop} {v : V} {u : U} {n : Nat} {f : Addr} {z : Value} {td : Tok} {S0 : Stmt}
    (eS0 : S0 = nthS 4 (thenB (nthS 3 loopB))) (XB : (Mine.hd.heap_39 w.params).In base) (TB : Top topProg loose mean mg mb base) (CB : CodeHd base 352 348) (B : Below A₀ base outer h₀) (D : KtsDicts (frs outer) h₀) (T0 : KtsTurn (frs outer) g₀ h₀) (F : Fr h₀ L s.heap m) (N : News h₀ L s.heap news) (hdp : dp + 100 < recursionLimit) (hun : un + 500 < cLine) (hn : n ≤ 90) (G : St news v u false false false n) (nF : m "deed" = some (.ref f)) (nD : m "due" = some (.str "failed" td)) (DD : Deed news f v.x 0 z) (W : Word news true z) (hf : v.f0 = false) (hf2 : v.f1 = true)
    (ret : ∀ h₀' h' tk' news' F', KtsTurn (frs outer) g₀ h₀' → Fr h₀' L h' m → News h₀' L h' news' → Below A₀ base outer h₀' → KtsDicts (frs outer) h₀' → (Mine.hd.heap_39 w.params).In h₀' → Top topProg loose mean mg mb h₀' → St news' { v with F := F', vl := v.vl ++ [.bytes #[109] v.t0], nl := v.nl + 1 } u true false false (n + 1) → Q .next { s with heap := h', toks := tk' }) :
    wpAny (model PySem.Challenge.rw_am6027_01.row.prog w) (top none dp un gd "law" lawS L a (.ref 352) (lawCl v u) outer) (exec S0 (envX "law" lawS L a (.ref 352) (lawCl v u))) Q E s := by
  w_top off
  w_strict (
    revert XB
    k_fill
    intro XB
    subst eS0
    have X := XB.keeps B.stays
    have T := TB.keeps B.stays
    have eS := Eq.refl lawS
    conv at eS => rhs; whnf
    have e0 := Eq.refl (nthS 4 (thenB (nthS 3 loopB)))
    conv at e0 => rhs; whnf
    rw [eS, e0]
    clear eS e0
    k_steps
    exact ret _ _ _ _ _ (by k_asm) (by k_asm) (by k_asm) (by k_asm) (by k_asm) (by k_asm) (by k_asm) (by assumption))
local macro_rules | `(tactic| walk_at "call ref") => `(tactic| (k_here; k_dflt (show wpAny _ _ (PySem.call (Value.ref 339) [_]) _ _ _); k_dflt (refine' wt0_onN ?XB ?TB ?B ?D ?T0 ?F ?N ?hk ?hdp ?hun ?hn ?G ?DD ?W ?hf ?hf2 ?_; (case B => k_asm); (case D => k_asm); (case T0 => first | assumption | exact KtsTurn.refl); (case F => k_asm); (case N => k_asm); (case XB => k_asm); (case TB => k_asm); (case hk => exact rfl); (case G => assumption); (case hdp => ktr_room); (case hun => ktr_room); (case hn => omega); (case DD => assumption); (case W => assumption); (case hf => assumption); (case hf2 => assumption); k_whole); intro h₀' h' tk' ts' news' Fp' T' F' N' B' D' X' P' G'; (try dsimp only)))

set_option maxHeartbeats 8000000 in
theorem A5_wt0_onN {w : World} {loose : List Str} {mean : ExcName → Option Value} {mg mb : Str → Option Value} {dp un : Nat} {gd : Option (List Code)} {a : Addr} {outer : List Env} {A₀ : Around} {base h₀ g₀ : Heap} {L : Addr} {m : Str → Option Value}
    {news : List (Addr × Obj)} {s : Shared} {Q : Flow → Shared → Prop} {E : Value → Shared → Prop} {v : V} {u : U} {n : Nat} {f : Addr} {z : Value} {td : Tok} {S0 : Stmt}
    (eS0 : S0 = nthS 4 (thenB (nthS 3 loopB))) (XB : (Mine.hd.heap_39 w.params).In base) (TB : Top topProg loose mean mg mb base) (CB : CodeHd base 352 348) (B : Below A₀ base outer h₀) (D : KtsDicts (frs outer) h₀) (T0 : KtsTurn (frs outer) g₀ h₀) (F : Fr h₀ L s.heap m) (N : News h₀ L s.heap news) (hdp : dp + 100 < recursionLimit) (hun : un + 500 < cLine) (hn : n ≤ 90) (G : St news v u false false false n) (nF : m "deed" = some (.ref f)) (nD : m "due" = some (.str "done" td)) (DD : Deed news f v.x 0 z) (W : Word news true z) (hf : v.f0 = false) (hf2 : v.f1 = false)
    (ret : ∀ h₀' h' tk' news' F', KtsTurn (frs outer) g₀ h₀' → Fr h₀' L h' m → News h₀' L h' news' → Below A₀ base outer h₀' → KtsDicts (frs outer) h₀' → (Mine.hd.heap_39 w.params).In h₀' → Top topProg loose mean mg mb h₀' → St news' { v with F := F', vl := v.vl ++ [.bytes #[109] v.t0], nl := v.nl + 1, vc := v.vc ++ [.bytes #[109] v.t0], nc := v.nc + 1 } u true true false (n + 1 + 1) → Q .next { s with heap := h', toks := tk' }) :
    wpAny (model PySem.Challenge.rw_am6027_01.row.prog w) (top none dp un gd "law" lawS L a (.ref 352) (lawCl v u) outer) (exec S0 (envX "law" lawS L a (.ref 352) (lawCl v u))) Q E s := by
  w_top off
  w_strict (
    revert XB
    k_fill
    intro XB
    subst eS0
    have X := XB.keeps B.stays
    have T := TB.keeps B.stays
    have eS := Eq.refl lawS
    conv at eS => rhs; whnf
    have e0 := Eq.refl (nthS 4 (thenB (nthS 3 loopB)))
    conv at e0 => rhs; whnf
    rw [eS, e0]
    clear eS e0
    k_steps
    exact ret _ _ _ _ _ (by k_asm) (by k_asm) (by k_asm) (by k_asm) (by k_asm) (by k_asm) (by k_asm) (by assumption))
local macro_rules | `(tactic| walk_at "call ref") => `(tactic| (k_here; k_dflt (show wpAny _ _ (PySem.call (Value.ref 339) [_]) _ _ _); k_dflt (refine' wt0_noN0 ?XB ?TB ?B ?D ?T0 ?F ?N ?hk ?hdp ?hun ?hn ?G ?DD ?W ?hf ?_; (case B => k_asm); (case D => k_asm); (case T0 => first | assumption | exact KtsTurn.refl); (case F => k_asm); (case N => k_asm); (case XB => k_asm); (case TB => k_asm); (case hk => exact rfl); (case G => assumption); (case hdp => ktr_room); (case hun => ktr_room); (case hn => omega); (case DD => assumption); (case W => assumption); (case hf => assumption); k_whole); intro h₀' h' tk' ts' news' Fp' T' F' N' B' D' X' P' G'; (try dsimp only)))

set_option maxHeartbeats 8000000 in
theorem A5_wt0_noN0 {w : World} {loose : List Str} {mean : ExcName → Option Value} {mg mb : Str → Option Value} {dp un : Nat} {gd : Option (List Code)} {a : Addr} {outer : List Env} {A₀ : Around} {base h₀ g₀ : Heap} {L : Addr} {m : Str → Option Value}
    {news : List (Addr × Obj)} {s : Shared} {Q : Flow → Shared → Prop} {E : Value → Shared → Prop} {v : V} {u : U} {n : Nat} {f : Addr} {z : Value} {td : Tok} {S0 : Stmt}
    (eS0 : S0 = nthS 4 (thenB (nthS 3 loopB))) (XB : (Mine.hd.heap_39 w.params).In base) (TB : Top topProg loose mean mg mb base) (CB : CodeHd base 352 348) (B : Below A₀ base outer h₀) (D : KtsDicts (frs outer) h₀) (T0 : KtsTurn (frs outer) g₀ h₀) (F : Fr h₀ L s.heap m) (N : News h₀ L s.heap news) (hdp : dp + 100 < recursionLimit) (hun : un + 500 < cLine) (hn : n ≤ 90) (G : St news v u false false false n) (nF : m "deed" = some (.ref f)) (nD : m "due" = some (.str "failed" td)) (DD : Deed news f v.x 0 z) (W : Word news true z) (hf : v.f0 = true)
    (ret : ∀ h₀' h' tk' news' F', KtsTurn (frs outer) g₀ h₀' → Fr h₀' L h' m → News h₀' L h' news' → Below A₀ base outer h₀' → KtsDicts (frs outer) h₀' → (Mine.hd.heap_39 w.params).In h₀' → Top topProg loose mean mg mb h₀' → St news' { v with F := F' } u false false false (n + 1) → Q .next { s with heap := h', toks := tk' }) :
    wpAny (model PySem.Challenge.rw_am6027_01.row.prog w) (top none dp un gd "law" lawS L a (.ref 352) (lawCl v u) outer) (exec S0 (envX "law" lawS L a (.ref 352) (lawCl v u))) Q E s := by
  w_top off
  w_strict (
    revert XB
    k_fill
    intro XB
    subst eS0
    have X := XB.keeps B.stays
    have T := TB.keeps B.stays
    have eS := Eq.refl lawS
    conv at eS => rhs; whnf
    have e0 := Eq.refl (nthS 4 (thenB (nthS 3 loopB)))
    conv at e0 => rhs; whnf
    rw [eS, e0]
    clear eS e0
    k_steps
    exact ret _ _ _ _ _ (by k_asm) (by k_asm) (by k_asm) (by k_asm) (by k_asm) (by k_asm) (by k_asm) (by assumption))
end Mine
end
section
open PySem PySem.W PyProof.Rows PySem.Calls
set_option Elab.async false
set_option maxRecDepth 100000
namespace Mine

local macro_rules | `(tactic| walk_at "ite") => `(tactic| first | with_reducible refine ite_pos (by decide) ?_ | with_reducible refine ite_neg (by decide) ?_)
local macro_rules | `(tactic| k_room) => `(tactic| ((try simp only [depth_mark, depth_under_make, depth_under_kw, depth_in1, depth_deeper, depth_caller]); (try dsimp only [top]); omega))
local macro_rules | `(tactic| k_units) => `(tactic| ((try simp only [units_in1, units_deeper, Around.mark_units, units_caller]); (try dsimp only [top]); (have hcL9 := cLine_is); omega))
local macro_rules | `(tactic| k_handed) => `(tactic| assumption)
local macro_rules | `(tactic| k_upd) => `(tactic| assumption)
local macro_rules | `(tactic| k_mem) => `(tactic| first | (refine' Jars.x' ?J ?h; (case J => first | assumption | apply_assumption); (case h => exact rfl)) | (refine' Jars.dx' ?J ?h; (case J => first | assumption | apply_assumption); (case h => exact rfl)) | (refine' Jars.y' ?J ?h; (case J => first | assumption | apply_assumption); (case h => exact rfl)) | (refine' Jars.dy' ?J ?h; (case J => first | assumption | apply_assumption); (case h => exact rfl)) | (refine' Jars.ll' ?J ?h; (case J => first | assumption | apply_assumption); (case h => exact rfl)) | (refine' Jars.lc' ?J ?h; (case J => first | assumption | apply_assumption); (case h => exact rfl)) | (refine' Jars.fs' ?J ?h; (case J => first | assumption | apply_assumption); (case h => exact rfl)) | (refine' Jars.fr' ?J ?h; (case J => first | assumption | apply_assumption); (case h => exact rfl)) | (refine' Jars.cf' ?J ?h; (case J => first | assumption | apply_assumption); (case h => exact rfl)) | (refine' Jars.cj' ?J ?h; (case J => first | assumption | apply_assumption); (case h => exact rfl)) | (refine' Jars.fl' ?J ?h; (case J => first | assumption | apply_assumption); (case h => exact rfl)) | (refine' Jars.cs' ?J ?h; (case J => first | assumption | apply_assumption); (case h => exact rfl)) | (refine' Jars.cr' ?J ?h; (case J => first | assumption | apply_assumption); (case h => exact rfl)))
local macro_rules | `(tactic| size_fits) => `(tactic| (simp only [List.size_toArray, PySem.sizeLine_eq]; omega))

local macro_rules | `(tactic| walk_at "eval Name") => `(tactic| (k_here; k_dflt (refine' nameX_F ?N ?c ?m ?d ?_ ?a ?b; (case a => rfl); (case b => rfl); (case N => k_asm); (case c => rfl); (case m => k_mem); (case d => k_asm); k_whole)))
local macro_rules | `(tactic| ktr_room) => `(tactic| ((try simp only [depth_mark, depth_under_make, depth_under_kw, depth_in1, depth_deeper, depth_caller, units_in1, units_deeper, Around.mark_units, units_caller]); (try dsimp only [top]); first | omega | (have hcL9 := cLine_is; omega) | decide))
local macro_rules | `(tactic| ktr_enter) => `(tactic| (refine' enterT ?B ?D ?T0 ?F ?N ?XB ?TB ?kA ?kF ?kK ?ho ?hcd ?hroom ?hbind ?hloc ?_ ?c1 ?c2 ?c3 ?c4; (case kA => exact rfl); (case kF => exact rfl); (case kK => first | assumption | exact rfl); (case B => k_asm); (case D => k_asm); (case T0 => first | assumption | exact KtsTurn.refl); (case F => k_asm); (case N => k_asm); (case XB => k_asm); (case TB => k_asm); (case ho => k_is); (case hcd => k_is); (case hroom => k_room); (case hbind => first | exact BindsTo.of_eq rfl | exact binds_K (by k_in) rfl (by k_is) rfl rfl rfl); (case hloc => exact locs rfl); (case c1 => exact rfl); (case c2 => exact rfl); (case c3 => exact rfl); (case c4 => decide); k_whole; intro g' L' h' FG' F' N' B' D' X' T'; (try dsimp only); (try k_fold)))
local macro_rules | `(tactic| kla_enter) => `(tactic| (refine' enterTL ?B ?D ?T0 ?F ?N ?XB ?TB ?kA ?kF ?kK ?ho ?hcd ?hroom ?hbind ?hloc ?_ ?c1 ?c2 ?c3 ?c4; (case kA => exact rfl); (case kF => exact rfl); (case kK => first | assumption | exact rfl); (case B => k_asm); (case D => k_asm); (case T0 => first | assumption | exact KtsTurn.refl); (case F => k_asm); (case N => k_asm); (case XB => k_asm); (case TB => k_asm); (case ho => k_mem); (case hcd => first | exact jars_codeS (by k_asm) (by k_asm) | exact jars_codeR (by k_asm) (by k_asm)); (case hroom => k_room); (case hbind => exact rfl); (case hloc => exact locs rfl); (case c1 => exact rfl); (case c2 => exact rfl); (case c3 => exact rfl); (case c4 => decide); k_whole; intro g' L' h' FG' F' N' B' D' X' T'; (try dsimp only); (try k_fold)))
local macro_rules | `(tactic| walk_at "LeaveT") => `(tactic| (k_dflt (refine' leaveT_ ?F ?N ?T ?_; (case F => k_asm); (case N => k_asm); (case T => first | assumption | exact KtsTurn.refl); k_whole); intro h₀' T' F' N' B' D'; (try dsimp only)))
local macro_rules | `(tactic| walk_at "subscriptTail Name Constant ref int") => `(tactic| ((with_reducible show wpAny _ _ (subscriptTail _ _ (Value.ref _) (Value.int _ _)) _ _ _); k_dflt (refine' item_fl ?N ?m ?a ?b ?x ?_; (case N => k_asm); (case m => k_mem); (case a => decide); (case b => decide); (case x => rfl); k_whole)))
local macro_rules | `(tactic| walk_at "callWith ref") => `(tactic| (k_here; (show wpAny _ _ (callWith _ (Value.ref (V.fr _)) _ _ _) _ _ _); k_dflt (first
  | (refine' callWith_F ?k1 ?_; (case k1 => exact FnAt.of (by k_asm) (by k_mem)); k_whole)
  | (refine' callWith_F0 ?k1 ?_; (case k1 => exact FnAt.of (by k_asm) (by k_mem)); k_whole; try dsimp only [List.nil_append, List.cons_append]))))
local macro_rules | `(tactic| walk_at "callWith ref") => `(tactic| (k_here; (show wpAny _ _ (callWith _ (Value.ref (V.fs _)) _ _ _) _ _ _); k_dflt (first
  | (refine' callWith_F ?k1 ?_; (case k1 => exact FnAt.of (by k_asm) (by k_mem)); k_whole)
  | (refine' callWith_F0 ?k1 ?_; (case k1 => exact FnAt.of (by k_asm) (by k_mem)); k_whole; try dsimp only [List.nil_append, List.cons_append]))))
local macro_rules | `(tactic| walk_at "getMethod ref") => `(tactic| (k_here; k_dflt (refine' method_shadow ?k1 ?k2 ?k3 ?k4 ?k5 ?k6 ?k7 ?k8 ?k9 ?k10 ?k11 ?_; (case k1 => k_asm); (case k2 => k_asm); (case k3 => k_inst); (case k4 => k_is); (case k5 => k_is); (case k6 => k_is); (case k7 => k_is); (case k8 => k_is); (case k9 => k_is); (case k10 => k_get); (case k11 => first | rfl | k_handed); k_whole)))
local macro_rules | `(tactic| walk_at "leaving ref") => `(tactic| (k_here; first
  | (with_reducible rename RaisedSN _ _ _ _ _ _ _ => rsX; k_dflt (refine' passX ?f ?K ?F ?R ?U ?_; (case R => exact rsX); (case f => exact rfl); (case K => k_asm); (case F => k_asm); (case U => k_asm); k_whole); clear rsX; intro h' R' U'; (try dsimp only at R' U' ⊢); (try k_unfold); (try dsimp only); (try (with_reducible rename RaisedSN _ _ _ _ _ _ _ => rsX; with_reducible rename Heap.UpToSlots _ _ => rsU; (show wpAny _ _ _ _ _ _); k_dflt (refine' exc_of rfl ?FG ?B ?D ?T0 ?T rsX rsU ?_; (case T => assumption); (case FG => k_asm); (case B => k_asm); (case D => k_asm); (case T0 => first | assumption | exact KtsTurn.refl); k_whole); clear rsX rsU; intro h₀' g' T' FG' B' D' R' U'; (try dsimp only))))
  | (k_dflt (refine' leave_raiseS ?k1 ?k0 ?k2 ?k3 ?_; (case k0 => first | assumption | exact Heap.MadeExc.of (by assumption)); (case k2 => assumption); (case k1 => assumption); (case k3 => k_asm); k_whole); intro h' t' S' R' U'; (try dsimp only at S' R' U' ⊢); (replace S' := toSN S'); clear R')))

local macro_rules | `(tactic| k_mem) => `(tactic| assumption)
local macro_rules | `(tactic| walk_at "eval Name") => `(tactic| (k_here; k_dflt (refine' nameX_C ?N ?c ?m ?d ?_ ?a ?b; (case a => rfl); (case b => rfl); (case N => k_asm); (case c => rfl); (case m => k_mem); (case d => k_asm); k_whole)))
local macro_rules | `(tactic| walk_at "eval Name") => `(tactic| (k_here; k_dflt (refine' nameX_L ?F ?hv ?_ ?a ?b; (case a => rfl); (case b => rfl); (case F => k_asm); (case hv => ((repeat refine (if_neg (by decide)).trans ?_); first | exact if_pos rfl | assumption)); k_whole)))
local macro_rules | `(tactic| walk_at "compareOp NotEq ref ref") => `(tactic| (k_here; k_dflt (refine' ne_marks ?l1 ?l2 ?m1 ?m2 ?e ?u ?_; (case l1 => exact isList_of (by k_asm) (by assumption)); (case l2 => exact isList_of (by k_asm) (by assumption)); (case m1 => assumption); (case m2 => assumption); (case e => assumption); (case u => ktr_room); k_whole)))

local macro_rules | `(tactic| walk_at "callWith ref") => `(tactic| (k_here; k_dflt (first | (refine' callWith_K ?k1 ?k2 ?_; (case k1 => k_asm); (case k2 => k_is); k_whole) | (refine' callWith_K0 ?k1 ?k2 ?_; (case k1 => k_in); (case k2 => k_is); k_whole))))

local macro_rules | `(tactic| walk_at "storeName") => `(tactic| (k_here; k_dflt (refine' storeX_C ?F ?N ?c ?U ?d ?_ ?a ?b; (case a => rfl); (case b => rfl); (case F => k_asm); (case N => k_asm); (case c => rfl); (case U => first | exact Led.fK (by assumption) | exact Led.fW (by assumption)); (case d => assumption); k_whole); intro h' o' F' N' d'; (try dsimp only)))

set_option maxHeartbeats 8000000 in
theorem head {w : World} {loose : List Str} {mean : ExcName → Option Value} {mg mb : Str → Option Value} {dp un : Nat} {gd : Option (List Code)} {a : Addr} {outer : List Env} {A₀ : Around} {base h₀ g₀ : Heap} {L : Addr} {m : Str → Option Value}
    {news : List (Addr × Obj)} {s : Shared} {Q : Flow → Shared → Prop} {E : Value → Shared → Prop} {v : V} {u : U} {n : Nat} {S0 : Stmt} {S1 : Stmt} {S2 : Stmt} {ld mk st : Bool} {i : Int} {ti : Tok}
    (eS0 : S0 = nthS 0 loopB) (eS1 : S1 = nthS 1 loopB) (eS2 : S2 = nthS 2 loopB) (XB : (Mine.hd.heap_39 w.params).In base) (TB : Top topProg loose mean mg mb base) (CB : CodeHd base 352 348) (B : Below A₀ base outer h₀) (D : KtsDicts (frs outer) h₀) (T0 : KtsTurn (frs outer) g₀ h₀) (F : Fr h₀ L s.heap m) (N : News h₀ L s.heap news) (hdp : dp + 100 < recursionLimit) (hun : un + 500 < cLine) (hn : n ≤ 90) (G : St news v u ld mk st n) (nL : m "loaded" = some (.bool ld)) (nM : m "marked" = some (.bool mk)) (nS : m "sticky" = some (.bool st)) (nA : m "asked" = some (.ref u.la)) (nT : m "told" = some (.ref u.lt)) (nV : m "v" = some (.int i ti))
    (ret : ∀ h' tk' t1 t2 t3 (o' : Obj), Fr h₀ L h' (fun y => if y = "due" then some (.str "done" t3) else if y = "more" then some (.int (Int.fdiv i 8) t2) else m y) → News h₀ L h' (put u.ck o' news) → o'.data = .cell (some (.int (Int.fmod i 8) t1)) → Q .next { s with heap := h', toks := tk' }) :
    wpAny (model PySem.Challenge.rw_am6027_01.row.prog w) (top none dp un gd "law" lawS L a (.ref 352) (lawCl v u) outer) (execs [S0, S1, S2] (envX "law" lawS L a (.ref 352) (lawCl v u))) Q E s := by
  w_top off
  w_strict (
    revert XB
    k_fill
    intro XB
    have X := XB.keeps B.stays
    have T := TB.keeps B.stays
    have J := G.D.jars G.S
    have dcf := G.S.ocf
    have dcj := G.S.ocj
    have hoo := G.S.oo
    have mco : (u.co, u.oo) ∈ news := G.has (by simp [rows])
    have mck : (u.ck, u.ok) ∈ news := G.has (by simp [rows])
    have mcw : (u.cw, u.ow) ∈ news := G.has (by simp [rows])
    have mla : (u.la, PySem.W.listOf u.va.toArray u.na) ∈ news := G.has (by simp [rows])
    have mlt : (u.lt, PySem.W.listOf u.vt.toArray u.nt) ∈ news := G.has (by simp [rows])
    have mll : (v.ll, PySem.W.listOf v.vl.toArray v.nl) ∈ news := G.has (by simp [rows])
    have mlc : (v.lc, PySem.W.listOf v.vc.toArray v.nc) ∈ news := G.has (by simp [rows])
    subst eS0 eS1 eS2
    obtain ⟨kc, hkc⟩ := G.kc
    have DD := G.D
    have eS := Eq.refl lawS
    conv at eS => rhs; whnf
    have e0 := Eq.refl (nthS 0 loopB)
    conv at e0 => rhs; whnf
    have e1 := Eq.refl (nthS 1 loopB)
    conv at e1 => rhs; whnf
    have e2 := Eq.refl (nthS 2 loopB)
    conv at e2 => rhs; whnf
    rw [eS, e0, e1, e2]
    clear eS e0 e1 e2
    k_steps
    exact ret _ _ _ _ _ _ (by k_asm) (by k_asm) (by assumption))
end Mine
end
section
open PySem PySem.W PyProof.Rows PySem.Calls
set_option Elab.async false
set_option maxRecDepth 100000
namespace Mine

local macro_rules | `(tactic| walk_at "ite") => `(tactic| first | with_reducible refine ite_pos (by decide) ?_ | with_reducible refine ite_neg (by decide) ?_)
local macro_rules | `(tactic| k_room) => `(tactic| ((try simp only [depth_mark, depth_under_make, depth_under_kw, depth_in1, depth_deeper, depth_caller]); (try dsimp only [top]); omega))
local macro_rules | `(tactic| k_units) => `(tactic| ((try simp only [units_in1, units_deeper, Around.mark_units, units_caller]); (try dsimp only [top]); (have hcL9 := cLine_is); omega))
local macro_rules | `(tactic| k_handed) => `(tactic| assumption)
local macro_rules | `(tactic| k_upd) => `(tactic| assumption)
local macro_rules | `(tactic| k_mem) => `(tactic| first | (refine' Jars.x' ?J ?h; (case J => first | assumption | apply_assumption); (case h => exact rfl)) | (refine' Jars.dx' ?J ?h; (case J => first | assumption | apply_assumption); (case h => exact rfl)) | (refine' Jars.y' ?J ?h; (case J => first | assumption | apply_assumption); (case h => exact rfl)) | (refine' Jars.dy' ?J ?h; (case J => first | assumption | apply_assumption); (case h => exact rfl)) | (refine' Jars.ll' ?J ?h; (case J => first | assumption | apply_assumption); (case h => exact rfl)) | (refine' Jars.lc' ?J ?h; (case J => first | assumption | apply_assumption); (case h => exact rfl)) | (refine' Jars.fs' ?J ?h; (case J => first | assumption | apply_assumption); (case h => exact rfl)) | (refine' Jars.fr' ?J ?h; (case J => first | assumption | apply_assumption); (case h => exact rfl)) | (refine' Jars.cf' ?J ?h; (case J => first | assumption | apply_assumption); (case h => exact rfl)) | (refine' Jars.cj' ?J ?h; (case J => first | assumption | apply_assumption); (case h => exact rfl)) | (refine' Jars.fl' ?J ?h; (case J => first | assumption | apply_assumption); (case h => exact rfl)) | (refine' Jars.cs' ?J ?h; (case J => first | assumption | apply_assumption); (case h => exact rfl)) | (refine' Jars.cr' ?J ?h; (case J => first | assumption | apply_assumption); (case h => exact rfl)))
local macro_rules | `(tactic| size_fits) => `(tactic| (simp only [List.size_toArray, PySem.sizeLine_eq]; omega))

local macro_rules | `(tactic| walk_at "eval Name") => `(tactic| (k_here; k_dflt (refine' nameX_F ?N ?c ?m ?d ?_ ?a ?b; (case a => rfl); (case b => rfl); (case N => k_asm); (case c => rfl); (case m => k_mem); (case d => k_asm); k_whole)))
local macro_rules | `(tactic| ktr_room) => `(tactic| ((try simp only [depth_mark, depth_under_make, depth_under_kw, depth_in1, depth_deeper, depth_caller, units_in1, units_deeper, Around.mark_units, units_caller]); (try dsimp only [top]); first | omega | (have hcL9 := cLine_is; omega) | decide))
local macro_rules | `(tactic| ktr_enter) => `(tactic| (refine' enterT ?B ?D ?T0 ?F ?N ?XB ?TB ?kA ?kF ?kK ?ho ?hcd ?hroom ?hbind ?hloc ?_ ?c1 ?c2 ?c3 ?c4; (case kA => exact rfl); (case kF => exact rfl); (case kK => first | assumption | exact rfl); (case B => k_asm); (case D => k_asm); (case T0 => first | assumption | exact KtsTurn.refl); (case F => k_asm); (case N => k_asm); (case XB => k_asm); (case TB => k_asm); (case ho => k_is); (case hcd => k_is); (case hroom => k_room); (case hbind => first | exact BindsTo.of_eq rfl | exact binds_K (by k_in) rfl (by k_is) rfl rfl rfl); (case hloc => exact locs rfl); (case c1 => exact rfl); (case c2 => exact rfl); (case c3 => exact rfl); (case c4 => decide); k_whole; intro g' L' h' FG' F' N' B' D' X' T'; (try dsimp only); (try k_fold)))
local macro_rules | `(tactic| kla_enter) => `(tactic| (refine' enterTL ?B ?D ?T0 ?F ?N ?XB ?TB ?kA ?kF ?kK ?ho ?hcd ?hroom ?hbind ?hloc ?_ ?c1 ?c2 ?c3 ?c4; (case kA => exact rfl); (case kF => exact rfl); (case kK => first | assumption | exact rfl); (case B => k_asm); (case D => k_asm); (case T0 => first | assumption | exact KtsTurn.refl); (case F => k_asm); (case N => k_asm); (case XB => k_asm); (case TB => k_asm); (case ho => k_mem); (case hcd => first | exact jars_codeS (by k_asm) (by k_asm) | exact jars_codeR (by k_asm) (by k_asm)); (case hroom => k_room); (case hbind => exact rfl); (case hloc => exact locs rfl); (case c1 => exact rfl); (case c2 => exact rfl); (case c3 => exact rfl); (case c4 => decide); k_whole; intro g' L' h' FG' F' N' B' D' X' T'; (try dsimp only); (try k_fold)))
local macro_rules | `(tactic| walk_at "LeaveT") => `(tactic| (k_dflt (refine' leaveT_ ?F ?N ?T ?_; (case F => k_asm); (case N => k_asm); (case T => first | assumption | exact KtsTurn.refl); k_whole); intro h₀' T' F' N' B' D'; (try dsimp only)))
local macro_rules | `(tactic| walk_at "subscriptTail Name Constant ref int") => `(tactic| ((with_reducible show wpAny _ _ (subscriptTail _ _ (Value.ref _) (Value.int _ _)) _ _ _); k_dflt (refine' item_fl ?N ?m ?a ?b ?x ?_; (case N => k_asm); (case m => k_mem); (case a => decide); (case b => decide); (case x => rfl); k_whole)))
local macro_rules | `(tactic| walk_at "callWith ref") => `(tactic| (k_here; (show wpAny _ _ (callWith _ (Value.ref (V.fr _)) _ _ _) _ _ _); k_dflt (first
  | (refine' callWith_F ?k1 ?_; (case k1 => exact FnAt.of (by k_asm) (by k_mem)); k_whole)
  | (refine' callWith_F0 ?k1 ?_; (case k1 => exact FnAt.of (by k_asm) (by k_mem)); k_whole; try dsimp only [List.nil_append, List.cons_append]))))
local macro_rules | `(tactic| walk_at "callWith ref") => `(tactic| (k_here; (show wpAny _ _ (callWith _ (Value.ref (V.fs _)) _ _ _) _ _ _); k_dflt (first
  | (refine' callWith_F ?k1 ?_; (case k1 => exact FnAt.of (by k_asm) (by k_mem)); k_whole)
  | (refine' callWith_F0 ?k1 ?_; (case k1 => exact FnAt.of (by k_asm) (by k_mem)); k_whole; try dsimp only [List.nil_append, List.cons_append]))))
local macro_rules | `(tactic| walk_at "getMethod ref") => `(tactic| (k_here; k_dflt (refine' method_shadow ?k1 ?k2 ?k3 ?k4 ?k5 ?k6 ?k7 ?k8 ?k9 ?k10 ?k11 ?_; (case k1 => k_asm); (case k2 => k_asm); (case k3 => k_inst); (case k4 => k_is); (case k5 => k_is); (case k6 => k_is); (case k7 => k_is); (case k8 => k_is); (case k9 => k_is); (case k10 => k_get); (case k11 => first | rfl | k_handed); k_whole)))
local macro_rules | `(tactic| walk_at "leaving ref") => `(tactic| (k_here; first
  | (with_reducible rename RaisedSN _ _ _ _ _ _ _ => rsX; k_dflt (refine' passX ?f ?K ?F ?R ?U ?_; (case R => exact rsX); (case f => exact rfl); (case K => k_asm); (case F => k_asm); (case U => k_asm); k_whole); clear rsX; intro h' R' U'; (try dsimp only at R' U' ⊢); (try k_unfold); (try dsimp only); (try (with_reducible rename RaisedSN _ _ _ _ _ _ _ => rsX; with_reducible rename Heap.UpToSlots _ _ => rsU; (show wpAny _ _ _ _ _ _); k_dflt (refine' exc_of rfl ?FG ?B ?D ?T0 ?T rsX rsU ?_; (case T => assumption); (case FG => k_asm); (case B => k_asm); (case D => k_asm); (case T0 => first | assumption | exact KtsTurn.refl); k_whole); clear rsX rsU; intro h₀' g' T' FG' B' D' R' U'; (try dsimp only))))
  | (k_dflt (refine' leave_raiseS ?k1 ?k0 ?k2 ?k3 ?_; (case k0 => first | assumption | exact Heap.MadeExc.of (by assumption)); (case k2 => assumption); (case k1 => assumption); (case k3 => k_asm); k_whole); intro h' t' S' R' U'; (try dsimp only at S' R' U' ⊢); (replace S' := toSN S'); clear R')))
local macro_rules | `(tactic| walk_at "call ref") => `(tactic| (k_here; (show wpAny _ _ (PySem.call (Value.ref 35) [_, Value.str (PySem.Str.ofString "_Persistent__flags") _]) _ _ _); k_dflt (refine' oga_flags ?X ?B ?F ?N ?T ?hk ?J ?hx ?dp ?un ?hF ?hh ?_; (case X => k_asm); (case B => k_asm); (case F => k_asm); (case N => k_asm); (case T => k_asm); (case hk => first | assumption | exact rfl); (case J => first | k_asm | apply_assumption); (case hx => exact rfl); (case dp => ktr_room); (case un => ktr_room); (case hF => first | assumption | exact rfl); (case hh => first | rfl | assumption); k_whole); intro h' tk' F' N'; (try dsimp only); (try k_sweep)))
local macro_rules | `(tactic| walk_at "call ref") => `(tactic| (k_here; (show wpAny _ _ (PySem.call (Value.ref 35) [_, Value.str (PySem.Str.ofString "_Persistent__jar") _]) _ _ _); k_dflt (refine' oga_jar ?X ?B ?F ?N ?T ?hk ?J ?hx ?dp ?un ?_; (case X => k_asm); (case B => k_asm); (case F => k_asm); (case N => k_asm); (case T => k_asm); (case hk => first | assumption | exact rfl); (case J => first | k_asm | apply_assumption); (case hx => exact rfl); (case dp => ktr_room); (case un => ktr_room); k_whole); intro h' tk' F' N'; (try dsimp only); (try k_sweep)))
local macro_rules | `(tactic| walk_at "call ref") => `(tactic| (k_here; (show wpAny _ _ (PySem.call (Value.ref 35) [_, Value.str (PySem.Str.ofString "_Persistent__oid") _]) _ _ _); k_dflt (refine' oga_oid ?X ?B ?F ?N ?T ?hk ?J ?hx ?dp ?un ?_; (case X => k_asm); (case B => k_asm); (case F => k_asm); (case N => k_asm); (case T => k_asm); (case hk => first | assumption | exact rfl); (case J => first | k_asm | apply_assumption); (case hx => exact rfl); (case dp => ktr_room); (case un => ktr_room); k_whole); intro h' tk' F' N'; (try dsimp only); (try k_sweep)))

local macro_rules | `(tactic| k_mem) => `(tactic| assumption)
local macro_rules | `(tactic| walk_at "eval Name") => `(tactic| (k_here; k_dflt (refine' nameX_C ?N ?c ?m ?d ?_ ?a ?b; (case a => rfl); (case b => rfl); (case N => k_asm); (case c => rfl); (case m => k_mem); (case d => k_asm); k_whole)))
local macro_rules | `(tactic| walk_at "eval Name") => `(tactic| (k_here; k_dflt (refine' nameX_L ?F ?hv ?_ ?a ?b; (case a => rfl); (case b => rfl); (case F => k_asm); (case hv => ((repeat refine (if_neg (by decide)).trans ?_); first | exact if_pos rfl | assumption)); k_whole)))
local macro_rules | `(tactic| walk_at "compareOp NotEq ref ref") => `(tactic| (k_here; k_dflt (refine' ne_marks ?l1 ?l2 ?m1 ?m2 ?e ?u ?_; (case l1 => exact isList_of (by k_asm) (by assumption)); (case l2 => exact isList_of (by k_asm) (by assumption)); (case m1 => assumption); (case m2 => assumption); (case e => assumption); (case u => ktr_room); k_whole)))

local macro_rules | `(tactic| walk_at "callWith ref") => `(tactic| (k_here; k_dflt (first | (refine' callWith_K ?k1 ?k2 ?_; (case k1 => k_asm); (case k2 => k_is); k_whole) | (refine' callWith_K0 ?k1 ?k2 ?_; (case k1 => k_in); (case k2 => k_is); k_whole))))

set_option maxHeartbeats 8000000 in
theorem rowN {w : World} {loose : List Str} {mean : ExcName → Option Value} {mg mb : Str → Option Value} {dp un : Nat} {gd : Option (List Code)} {a : Addr} {outer : List Env} {A₀ : Around} {base h₀ g₀ : Heap} {L : Addr} {m : Str → Option Value}
    {news : List (Addr × Obj)} {s : Shared} {Q : Flow → Shared → Prop} {E : Value → Shared → Prop} {v : V} {u : U} {n : Nat} {S0 : Stmt}
    (eS0 : S0 = nthS 4 loopB) (XB : (Mine.hd.heap_39 w.params).In base) (TB : Top topProg loose mean mg mb base) (CB : CodeHd base 352 348) (B : Below A₀ base outer h₀) (D : KtsDicts (frs outer) h₀) (T0 : KtsTurn (frs outer) g₀ h₀) (F : Fr h₀ L s.heap m) (N : News h₀ L s.heap news) (hdp : dp + 100 < recursionLimit) (hun : un + 500 < cLine) (hn : n ≤ 90) (G : St news v u false false false n) (nL : m "loaded" = some (.bool false)) (nM : m "marked" = some (.bool false)) (nS : m "sticky" = some (.bool false)) (nA : m "asked" = some (.ref u.la)) (nT : m "told" = some (.ref u.lt)) 
    (ret : ∀ h' tk' ra rn q1 q2, Fr h₀ L h' (fun y => if y = "row" then some (.ref ra) else m y) → News h₀ L h' ((ra, ({ cls := .type "tuple", data := .seq #[.none, .int (-1) q1, .str "ghost" q2, .bool false] rn } : Obj)) :: news) → (∀ p ∈ news, p.1 < ra) → Q .next { s with heap := h', toks := tk' }) :
    wpAny (model PySem.Challenge.rw_am6027_01.row.prog w) (top none dp un gd "law" lawS L a (.ref 352) (lawCl v u) outer) (exec S0 (envX "law" lawS L a (.ref 352) (lawCl v u))) Q E s := by
  w_top off
  w_strict (
    revert XB
    k_fill
    intro XB
    have X := XB.keeps B.stays
    have T := TB.keeps B.stays
    have J := G.D.jars G.S
    have dcf := G.S.ocf
    have dcj := G.S.ocj
    have hoo := G.S.oo
    have mco : (u.co, u.oo) ∈ news := G.has (by simp [rows])
    have mck : (u.ck, u.ok) ∈ news := G.has (by simp [rows])
    have mcw : (u.cw, u.ow) ∈ news := G.has (by simp [rows])
    have mla : (u.la, PySem.W.listOf u.va.toArray u.na) ∈ news := G.has (by simp [rows])
    have mlt : (u.lt, PySem.W.listOf u.vt.toArray u.nt) ∈ news := G.has (by simp [rows])
    have mll : (v.ll, PySem.W.listOf v.vl.toArray v.nl) ∈ news := G.has (by simp [rows])
    have mlc : (v.lc, PySem.W.listOf v.vc.toArray v.nc) ∈ news := G.has (by simp [rows])
    subst eS0
    have eS := Eq.refl lawS
    conv at eS => rhs; whnf
    have e0 := Eq.refl (nthS 4 loopB)
    conv at e0 => rhs; whnf
    rw [eS, e0]
    clear eS e0
    k_steps
    exact ret _ _ _ _ _ _ (by k_asm) (by k_asm) (by assumption))

set_option maxHeartbeats 8000000 in
theorem row0 {w : World} {loose : List Str} {mean : ExcName → Option Value} {mg mb : Str → Option Value} {dp un : Nat} {gd : Option (List Code)} {a : Addr} {outer : List Env} {A₀ : Around} {base h₀ g₀ : Heap} {L : Addr} {m : Str → Option Value}
    {news : List (Addr × Obj)} {s : Shared} {Q : Flow → Shared → Prop} {E : Value → Shared → Prop} {v : V} {u : U} {n : Nat} {S0 : Stmt}
    (eS0 : S0 = nthS 4 loopB) (XB : (Mine.hd.heap_39 w.params).In base) (TB : Top topProg loose mean mg mb base) (CB : CodeHd base 352 348) (B : Below A₀ base outer h₀) (D : KtsDicts (frs outer) h₀) (T0 : KtsTurn (frs outer) g₀ h₀) (F : Fr h₀ L s.heap m) (N : News h₀ L s.heap news) (hdp : dp + 100 < recursionLimit) (hun : un + 500 < cLine) (hn : n ≤ 90) (G : St news v u true false false n) (nL : m "loaded" = some (.bool true)) (nM : m "marked" = some (.bool false)) (nS : m "sticky" = some (.bool false)) (nA : m "asked" = some (.ref u.la)) (nT : m "told" = some (.ref u.lt)) 
    (ret : ∀ h' tk' ra rn q1 q2, Fr h₀ L h' (fun y => if y = "row" then some (.ref ra) else m y) → News h₀ L h' ((ra, ({ cls := .type "tuple", data := .seq #[.bool false, .int 0 q1, .str "saved" q2, .bool false] rn } : Obj)) :: news) → (∀ p ∈ news, p.1 < ra) → Q .next { s with heap := h', toks := tk' }) :
    wpAny (model PySem.Challenge.rw_am6027_01.row.prog w) (top none dp un gd "law" lawS L a (.ref 352) (lawCl v u) outer) (exec S0 (envX "law" lawS L a (.ref 352) (lawCl v u))) Q E s := by
  w_top off
  w_strict (
    revert XB
    k_fill
    intro XB
    have X := XB.keeps B.stays
    have T := TB.keeps B.stays
    have J := G.D.jars G.S
    have dcf := G.S.ocf
    have dcj := G.S.ocj
    have hoo := G.S.oo
    have mco : (u.co, u.oo) ∈ news := G.has (by simp [rows])
    have mck : (u.ck, u.ok) ∈ news := G.has (by simp [rows])
    have mcw : (u.cw, u.ow) ∈ news := G.has (by simp [rows])
    have mla : (u.la, PySem.W.listOf u.va.toArray u.na) ∈ news := G.has (by simp [rows])
    have mlt : (u.lt, PySem.W.listOf u.vt.toArray u.nt) ∈ news := G.has (by simp [rows])
    have mll : (v.ll, PySem.W.listOf v.vl.toArray v.nl) ∈ news := G.has (by simp [rows])
    have mlc : (v.lc, PySem.W.listOf v.vc.toArray v.nc) ∈ news := G.has (by simp [rows])
    subst eS0
    have eS := Eq.refl lawS
    conv at eS => rhs; whnf
    have e0 := Eq.refl (nthS 4 loopB)
    conv at e0 => rhs; whnf
    rw [eS, e0]
    clear eS e0
    k_steps
    exact ret _ _ _ _ _ _ (by k_asm) (by k_asm) (by assumption))

set_option maxHeartbeats 8000000 in
theorem row1 {w : World} {loose : List Str} {mean : ExcName → Option Value} {mg mb : Str → Option Value} {dp un : Nat} {gd : Option (List Code)} {a : Addr} {outer : List Env} {A₀ : Around} {base h₀ g₀ : Heap} {L : Addr} {m : Str → Option Value}
    {news : List (Addr × Obj)} {s : Shared} {Q : Flow → Shared → Prop} {E : Value → Shared → Prop} {v : V} {u : U} {n : Nat} {S0 : Stmt}
    (eS0 : S0 = nthS 4 loopB) (XB : (Mine.hd.heap_39 w.params).In base) (TB : Top topProg loose mean mg mb base) (CB : CodeHd base 352 348) (B : Below A₀ base outer h₀) (D : KtsDicts (frs outer) h₀) (T0 : KtsTurn (frs outer) g₀ h₀) (F : Fr h₀ L s.heap m) (N : News h₀ L s.heap news) (hdp : dp + 100 < recursionLimit) (hun : un + 500 < cLine) (hn : n ≤ 90) (G : St news v u true true false n) (nL : m "loaded" = some (.bool true)) (nM : m "marked" = some (.bool true)) (nS : m "sticky" = some (.bool false)) (nA : m "asked" = some (.ref u.la)) (nT : m "told" = some (.ref u.lt)) 
    (ret : ∀ h' tk' ra rn q1 q2, Fr h₀ L h' (fun y => if y = "row" then some (.ref ra) else m y) → News h₀ L h' ((ra, ({ cls := .type "tuple", data := .seq #[.bool true, .int 1 q1, .str "changed" q2, .bool false] rn } : Obj)) :: news) → (∀ p ∈ news, p.1 < ra) → Q .next { s with heap := h', toks := tk' }) :
    wpAny (model PySem.Challenge.rw_am6027_01.row.prog w) (top none dp un gd "law" lawS L a (.ref 352) (lawCl v u) outer) (exec S0 (envX "law" lawS L a (.ref 352) (lawCl v u))) Q E s := by
  w_top off
  w_strict (
    revert XB
    k_fill
    intro XB
    have X := XB.keeps B.stays
    have T := TB.keeps B.stays
    have J := G.D.jars G.S
    have dcf := G.S.ocf
    have dcj := G.S.ocj
    have hoo := G.S.oo
    have mco : (u.co, u.oo) ∈ news := G.has (by simp [rows])
    have mck : (u.ck, u.ok) ∈ news := G.has (by simp [rows])
    have mcw : (u.cw, u.ow) ∈ news := G.has (by simp [rows])
    have mla : (u.la, PySem.W.listOf u.va.toArray u.na) ∈ news := G.has (by simp [rows])
    have mlt : (u.lt, PySem.W.listOf u.vt.toArray u.nt) ∈ news := G.has (by simp [rows])
    have mll : (v.ll, PySem.W.listOf v.vl.toArray v.nl) ∈ news := G.has (by simp [rows])
    have mlc : (v.lc, PySem.W.listOf v.vc.toArray v.nc) ∈ news := G.has (by simp [rows])
    subst eS0
    have eS := Eq.refl lawS
    conv at eS => rhs; whnf
    have e0 := Eq.refl (nthS 4 loopB)
    conv at e0 => rhs; whnf
    rw [eS, e0]
    clear eS e0
    k_steps
    exact ret _ _ _ _ _ _ (by k_asm) (by k_asm) (by assumption))

set_option maxHeartbeats 8000000 in
theorem row2 {w : World} {loose : List Str} {mean : ExcName → Option Value} {mg mb : Str → Option Value} {dp un : Nat} {gd : Option (List Code)} {a : Addr} {outer : List Env} {A₀ : Around} {base h₀ g₀ : Heap} {L : Addr} {m : Str → Option Value}
    {news : List (Addr × Obj)} {s : Shared} {Q : Flow → Shared → Prop} {E : Value → Shared → Prop} {v : V} {u : U} {n : Nat} {S0 : Stmt}
    (eS0 : S0 = nthS 4 loopB) (XB : (Mine.hd.heap_39 w.params).In base) (TB : Top topProg loose mean mg mb base) (CB : CodeHd base 352 348) (B : Below A₀ base outer h₀) (D : KtsDicts (frs outer) h₀) (T0 : KtsTurn (frs outer) g₀ h₀) (F : Fr h₀ L s.heap m) (N : News h₀ L s.heap news) (hdp : dp + 100 < recursionLimit) (hun : un + 500 < cLine) (hn : n ≤ 90) (G : St news v u true false true n) (nL : m "loaded" = some (.bool true)) (nM : m "marked" = some (.bool false)) (nS : m "sticky" = some (.bool true)) (nA : m "asked" = some (.ref u.la)) (nT : m "told" = some (.ref u.lt)) 
    (ret : ∀ h' tk' ra rn q1 q2, Fr h₀ L h' (fun y => if y = "row" then some (.ref ra) else m y) → News h₀ L h' ((ra, ({ cls := .type "tuple", data := .seq #[.bool false, .int 2 q1, .str "sticky" q2, .bool true] rn } : Obj)) :: news) → (∀ p ∈ news, p.1 < ra) → Q .next { s with heap := h', toks := tk' }) :
    wpAny (model PySem.Challenge.rw_am6027_01.row.prog w) (top none dp un gd "law" lawS L a (.ref 352) (lawCl v u) outer) (exec S0 (envX "law" lawS L a (.ref 352) (lawCl v u))) Q E s := by
  w_top off
  w_strict (
    revert XB
    k_fill
    intro XB
    have X := XB.keeps B.stays
    have T := TB.keeps B.stays
    have J := G.D.jars G.S
    have dcf := G.S.ocf
    have dcj := G.S.ocj
    have hoo := G.S.oo
    have mco : (u.co, u.oo) ∈ news := G.has (by simp [rows])
    have mck : (u.ck, u.ok) ∈ news := G.has (by simp [rows])
    have mcw : (u.cw, u.ow) ∈ news := G.has (by simp [rows])
    have mla : (u.la, PySem.W.listOf u.va.toArray u.na) ∈ news := G.has (by simp [rows])
    have mlt : (u.lt, PySem.W.listOf u.vt.toArray u.nt) ∈ news := G.has (by simp [rows])
    have mll : (v.ll, PySem.W.listOf v.vl.toArray v.nl) ∈ news := G.has (by simp [rows])
    have mlc : (v.lc, PySem.W.listOf v.vc.toArray v.nc) ∈ news := G.has (by simp [rows])
    subst eS0
    have eS := Eq.refl lawS
    conv at eS => rhs; whnf
    have e0 := Eq.refl (nthS 4 loopB)
    conv at e0 => rhs; whnf
    rw [eS, e0]
    clear eS e0
    k_steps
    exact ret _ _ _ _ _ _ (by k_asm) (by k_asm) (by assumption))

set_option maxHeartbeats 8000000 in
theorem row3 {w : World} {loose : List Str} {mean : ExcName → Option Value} {mg mb : Str → Option Value} {dp un : Nat} {gd : Option (List Code)} {a : Addr} {outer : List Env} {A₀ : Around} {base h₀ g₀ : Heap} {L : Addr} {m : Str → Option Value}
    {news : List (Addr × Obj)} {s : Shared} {Q : Flow → Shared → Prop} {E : Value → Shared → Prop} {v : V} {u : U} {n : Nat} {S0 : Stmt}
    (eS0 : S0 = nthS 4 loopB) (XB : (Mine.hd.heap_39 w.params).In base) (TB : Top topProg loose mean mg mb base) (CB : CodeHd base 352 348) (B : Below A₀ base outer h₀) (D : KtsDicts (frs outer) h₀) (T0 : KtsTurn (frs outer) g₀ h₀) (F : Fr h₀ L s.heap m) (N : News h₀ L s.heap news) (hdp : dp + 100 < recursionLimit) (hun : un + 500 < cLine) (hn : n ≤ 90) (G : St news v u true true true n) (nL : m "loaded" = some (.bool true)) (nM : m "marked" = some (.bool true)) (nS : m "sticky" = some (.bool true)) (nA : m "asked" = some (.ref u.la)) (nT : m "told" = some (.ref u.lt)) 
    (ret : ∀ h' tk' ra rn q1 q2, Fr h₀ L h' (fun y => if y = "row" then some (.ref ra) else m y) → News h₀ L h' ((ra, ({ cls := .type "tuple", data := .seq #[.bool true, .int 2 q1, .str "sticky" q2, .bool true] rn } : Obj)) :: news) → (∀ p ∈ news, p.1 < ra) → Q .next { s with heap := h', toks := tk' }) :
    wpAny (model PySem.Challenge.rw_am6027_01.row.prog w) (top none dp un gd "law" lawS L a (.ref 352) (lawCl v u) outer) (exec S0 (envX "law" lawS L a (.ref 352) (lawCl v u))) Q E s := by
  w_top off
  w_strict (
    revert XB
    k_fill
    intro XB
    have X := XB.keeps B.stays
    have T := TB.keeps B.stays
    have J := G.D.jars G.S
    have dcf := G.S.ocf
    have dcj := G.S.ocj
    have hoo := G.S.oo
    have mco : (u.co, u.oo) ∈ news := G.has (by simp [rows])
    have mck : (u.ck, u.ok) ∈ news := G.has (by simp [rows])
    have mcw : (u.cw, u.ow) ∈ news := G.has (by simp [rows])
    have mla : (u.la, PySem.W.listOf u.va.toArray u.na) ∈ news := G.has (by simp [rows])
    have mlt : (u.lt, PySem.W.listOf u.vt.toArray u.nt) ∈ news := G.has (by simp [rows])
    have mll : (v.ll, PySem.W.listOf v.vl.toArray v.nl) ∈ news := G.has (by simp [rows])
    have mlc : (v.lc, PySem.W.listOf v.vc.toArray v.nc) ∈ news := G.has (by simp [rows])
    subst eS0
    have eS := Eq.refl lawS
    conv at eS => rhs; whnf
    have e0 := Eq.refl (nthS 4 loopB)
    conv at e0 => rhs; whnf
    rw [eS, e0]
    clear eS e0
    k_steps
    exact ret _ _ _ _ _ _ (by k_asm) (by k_asm) (by assumption))
end Mine
end
section
open PySem PySem.W PyProof.Rows PySem.Calls
set_option Elab.async false
set_option maxRecDepth 100000
namespace Mine

theorem isList_of {h₀ h : Heap} {L l : Addr} {news : List (Addr × Obj)} {vs : List Value} {k : Nat} (N : News h₀ L h news) (hm : (l, PySem.W.listOf vs.toArray k) ∈ news) : h.IsList l vs.toArray := ⟨_, (N _ hm).1, rfl, k, rfl⟩

local macro_rules | `(tactic| walk_at "ite") => `(tactic| first | with_reducible refine ite_pos (by decide) ?_ | with_reducible refine ite_neg (by decide) ?_)
local macro_rules | `(tactic| k_room) => `(tactic| ((try simp only [depth_mark, depth_under_make, depth_under_kw, depth_in1, depth_deeper, depth_caller]); (try dsimp only [top]); omega))
local macro_rules | `(tactic| k_units) => `(tactic| ((try simp only [units_in1, units_deeper, Around.mark_units, units_caller]); (try dsimp only [top]); (have hcL9 := cLine_is); omega))
local macro_rules | `(tactic| k_handed) => `(tactic| assumption)
local macro_rules | `(tactic| k_upd) => `(tactic| assumption)
local macro_rules | `(tactic| k_mem) => `(tactic| first | (refine' Jars.x' ?J ?h; (case J => first | assumption | apply_assumption); (case h => exact rfl)) | (refine' Jars.dx' ?J ?h; (case J => first | assumption | apply_assumption); (case h => exact rfl)) | (refine' Jars.y' ?J ?h; (case J => first | assumption | apply_assumption); (case h => exact rfl)) | (refine' Jars.dy' ?J ?h; (case J => first | assumption | apply_assumption); (case h => exact rfl)) | (refine' Jars.ll' ?J ?h; (case J => first | assumption | apply_assumption); (case h => exact rfl)) | (refine' Jars.lc' ?J ?h; (case J => first | assumption | apply_assumption); (case h => exact rfl)) | (refine' Jars.fs' ?J ?h; (case J => first | assumption | apply_assumption); (case h => exact rfl)) | (refine' Jars.fr' ?J ?h; (case J => first | assumption | apply_assumption); (case h => exact rfl)) | (refine' Jars.cf' ?J ?h; (case J => first | assumption | apply_assumption); (case h => exact rfl)) | (refine' Jars.cj' ?J ?h; (case J => first | assumption | apply_assumption); (case h => exact rfl)) | (refine' Jars.fl' ?J ?h; (case J => first | assumption | apply_assumption); (case h => exact rfl)) | (refine' Jars.cs' ?J ?h; (case J => first | assumption | apply_assumption); (case h => exact rfl)) | (refine' Jars.cr' ?J ?h; (case J => first | assumption | apply_assumption); (case h => exact rfl)))
local macro_rules | `(tactic| size_fits) => `(tactic| (simp only [List.size_toArray, PySem.sizeLine_eq]; omega))

local macro_rules | `(tactic| walk_at "eval Name") => `(tactic| (k_here; k_dflt (refine' nameX_F ?N ?c ?m ?d ?_ ?a ?b; (case a => rfl); (case b => rfl); (case N => k_asm); (case c => rfl); (case m => k_mem); (case d => k_asm); k_whole)))
local macro_rules | `(tactic| ktr_room) => `(tactic| ((try simp only [depth_mark, depth_under_make, depth_under_kw, depth_in1, depth_deeper, depth_caller, units_in1, units_deeper, Around.mark_units, units_caller]); (try dsimp only [top]); first | omega | (have hcL9 := cLine_is; omega) | decide))
local macro_rules | `(tactic| ktr_enter) => `(tactic| (refine' enterT ?B ?D ?T0 ?F ?N ?XB ?TB ?kA ?kF ?kK ?ho ?hcd ?hroom ?hbind ?hloc ?_ ?c1 ?c2 ?c3 ?c4; (case kA => exact rfl); (case kF => exact rfl); (case kK => first | assumption | exact rfl); (case B => k_asm); (case D => k_asm); (case T0 => first | assumption | exact KtsTurn.refl); (case F => k_asm); (case N => k_asm); (case XB => k_asm); (case TB => k_asm); (case ho => k_is); (case hcd => k_is); (case hroom => k_room); (case hbind => first | exact BindsTo.of_eq rfl | exact binds_K (by k_in) rfl (by k_is) rfl rfl rfl); (case hloc => exact locs rfl); (case c1 => exact rfl); (case c2 => exact rfl); (case c3 => exact rfl); (case c4 => decide); k_whole; intro g' L' h' FG' F' N' B' D' X' T'; (try dsimp only); (try k_fold)))
local macro_rules | `(tactic| kla_enter) => `(tactic| (refine' enterTL ?B ?D ?T0 ?F ?N ?XB ?TB ?kA ?kF ?kK ?ho ?hcd ?hroom ?hbind ?hloc ?_ ?c1 ?c2 ?c3 ?c4; (case kA => exact rfl); (case kF => exact rfl); (case kK => first | assumption | exact rfl); (case B => k_asm); (case D => k_asm); (case T0 => first | assumption | exact KtsTurn.refl); (case F => k_asm); (case N => k_asm); (case XB => k_asm); (case TB => k_asm); (case ho => k_mem); (case hcd => first | exact jars_codeS (by k_asm) (by k_asm) | exact jars_codeR (by k_asm) (by k_asm)); (case hroom => k_room); (case hbind => exact rfl); (case hloc => exact locs rfl); (case c1 => exact rfl); (case c2 => exact rfl); (case c3 => exact rfl); (case c4 => decide); k_whole; intro g' L' h' FG' F' N' B' D' X' T'; (try dsimp only); (try k_fold)))
local macro_rules | `(tactic| walk_at "LeaveT") => `(tactic| (k_dflt (refine' leaveT_ ?F ?N ?T ?_; (case F => k_asm); (case N => k_asm); (case T => first | assumption | exact KtsTurn.refl); k_whole); intro h₀' T' F' N' B' D'; (try dsimp only)))
local macro_rules | `(tactic| walk_at "subscriptTail Name Constant ref int") => `(tactic| ((with_reducible show wpAny _ _ (subscriptTail _ _ (Value.ref _) (Value.int _ _)) _ _ _); k_dflt (refine' item_fl ?N ?m ?a ?b ?x ?_; (case N => k_asm); (case m => k_mem); (case a => decide); (case b => decide); (case x => rfl); k_whole)))
local macro_rules | `(tactic| walk_at "callWith ref") => `(tactic| (k_here; (show wpAny _ _ (callWith _ (Value.ref (V.fr _)) _ _ _) _ _ _); k_dflt (first
  | (refine' callWith_F ?k1 ?_; (case k1 => exact FnAt.of (by k_asm) (by k_mem)); k_whole)
  | (refine' callWith_F0 ?k1 ?_; (case k1 => exact FnAt.of (by k_asm) (by k_mem)); k_whole; try dsimp only [List.nil_append, List.cons_append]))))
local macro_rules | `(tactic| walk_at "callWith ref") => `(tactic| (k_here; (show wpAny _ _ (callWith _ (Value.ref (V.fs _)) _ _ _) _ _ _); k_dflt (first
  | (refine' callWith_F ?k1 ?_; (case k1 => exact FnAt.of (by k_asm) (by k_mem)); k_whole)
  | (refine' callWith_F0 ?k1 ?_; (case k1 => exact FnAt.of (by k_asm) (by k_mem)); k_whole; try dsimp only [List.nil_append, List.cons_append]))))
local macro_rules | `(tactic| walk_at "getMethod ref") => `(tactic| (k_here; k_dflt (refine' method_shadow ?k1 ?k2 ?k3 ?k4 ?k5 ?k6 ?k7 ?k8 ?k9 ?k10 ?k11 ?_; (case k1 => k_asm); (case k2 => k_asm); (case k3 => k_inst); (case k4 => k_is); (case k5 => k_is); (case k6 => k_is); (case k7 => k_is); (case k8 => k_is); (case k9 => k_is); (case k10 => k_get); (case k11 => first | rfl | k_handed); k_whole)))
local macro_rules | `(tactic| walk_at "leaving ref") => `(tactic| (k_here; first
  | (with_reducible rename RaisedSN _ _ _ _ _ _ _ => rsX; k_dflt (refine' passX ?f ?K ?F ?R ?U ?_; (case R => exact rsX); (case f => exact rfl); (case K => k_asm); (case F => k_asm); (case U => k_asm); k_whole); clear rsX; intro h' R' U'; (try dsimp only at R' U' ⊢); (try k_unfold); (try dsimp only); (try (with_reducible rename RaisedSN _ _ _ _ _ _ _ => rsX; with_reducible rename Heap.UpToSlots _ _ => rsU; (show wpAny _ _ _ _ _ _); k_dflt (refine' exc_of rfl ?FG ?B ?D ?T0 ?T rsX rsU ?_; (case T => assumption); (case FG => k_asm); (case B => k_asm); (case D => k_asm); (case T0 => first | assumption | exact KtsTurn.refl); k_whole); clear rsX rsU; intro h₀' g' T' FG' B' D' R' U'; (try dsimp only))))
  | (k_dflt (refine' leave_raiseS ?k1 ?k0 ?k2 ?k3 ?_; (case k0 => first | assumption | exact Heap.MadeExc.of (by assumption)); (case k2 => assumption); (case k1 => assumption); (case k3 => k_asm); k_whole); intro h' t' S' R' U'; (try dsimp only at S' R' U' ⊢); (replace S' := toSN S'); clear R')))
local macro_rules | `(tactic| walk_at "call ref") => `(tactic| (k_here; (show wpAny _ _ (PySem.call (Value.ref 35) [_, Value.str (PySem.Str.ofString "_Persistent__flags") _]) _ _ _); k_dflt (refine' oga_flags ?X ?B ?F ?N ?T ?hk ?J ?hx ?dp ?un ?hF ?hh ?_; (case X => k_asm); (case B => k_asm); (case F => k_asm); (case N => k_asm); (case T => k_asm); (case hk => first | assumption | exact rfl); (case J => first | k_asm | apply_assumption); (case hx => exact rfl); (case dp => ktr_room); (case un => ktr_room); (case hF => first | assumption | exact rfl); (case hh => first | rfl | assumption); k_whole); intro h' tk' F' N'; (try dsimp only); (try k_sweep)))
local macro_rules | `(tactic| walk_at "call ref") => `(tactic| (k_here; (show wpAny _ _ (PySem.call (Value.ref 35) [_, Value.str (PySem.Str.ofString "_Persistent__jar") _]) _ _ _); k_dflt (refine' oga_jar ?X ?B ?F ?N ?T ?hk ?J ?hx ?dp ?un ?_; (case X => k_asm); (case B => k_asm); (case F => k_asm); (case N => k_asm); (case T => k_asm); (case hk => first | assumption | exact rfl); (case J => first | k_asm | apply_assumption); (case hx => exact rfl); (case dp => ktr_room); (case un => ktr_room); k_whole); intro h' tk' F' N'; (try dsimp only); (try k_sweep)))
local macro_rules | `(tactic| walk_at "call ref") => `(tactic| (k_here; (show wpAny _ _ (PySem.call (Value.ref 35) [_, Value.str (PySem.Str.ofString "_Persistent__oid") _]) _ _ _); k_dflt (refine' oga_oid ?X ?B ?F ?N ?T ?hk ?J ?hx ?dp ?un ?_; (case X => k_asm); (case B => k_asm); (case F => k_asm); (case N => k_asm); (case T => k_asm); (case hk => first | assumption | exact rfl); (case J => first | k_asm | apply_assumption); (case hx => exact rfl); (case dp => ktr_room); (case un => ktr_room); k_whole); intro h' tk' F' N'; (try dsimp only); (try k_sweep)))

local macro_rules | `(tactic| k_mem) => `(tactic| assumption)
local macro_rules | `(tactic| walk_at "eval Name") => `(tactic| (k_here; k_dflt (refine' nameX_C ?N ?c ?m ?d ?_ ?a ?b; (case a => rfl); (case b => rfl); (case N => k_asm); (case c => rfl); (case m => k_mem); (case d => k_asm); k_whole)))
local macro_rules | `(tactic| walk_at "eval Name") => `(tactic| (k_here; k_dflt (refine' nameX_L ?F ?hv ?_ ?a ?b; (case a => rfl); (case b => rfl); (case F => k_asm); (case hv => ((repeat refine (if_neg (by decide)).trans ?_); first | exact if_pos rfl | assumption)); k_whole)))
local macro_rules | `(tactic| walk_at "compareOp NotEq ref ref") => `(tactic| (k_here; k_dflt (refine' ne_marks ?l1 ?l2 ?m1 ?m2 ?e ?u ?_; (case l1 => exact isList_of (by k_asm) (by assumption)); (case l2 => exact isList_of (by k_asm) (by assumption)); (case m1 => assumption); (case m2 => assumption); (case e => assumption); (case u => ktr_room); k_whole)))

local macro_rules | `(tactic| walk_at "callWith ref") => `(tactic| (k_here; k_dflt (first | (refine' callWith_K ?k1 ?k2 ?_; (case k1 => k_asm); (case k2 => k_is); k_whole) | (refine' callWith_K0 ?k1 ?k2 ?_; (case k1 => k_in); (case k2 => k_is); k_whole))))
local macro_rules | `(tactic| walk_at "subscriptTail Name Constant ref int") => `(tactic| (k_here; k_dflt (refine' item_tupleT ?t ?a ?b ?c ?d ?_; (case t => exact News.isTup (by k_asm) (by assumption)); (case a => decide); (case b => decide); (case c => rfl); (case d => rfl); k_whole)))

set_option maxHeartbeats 8000000 in
theorem tailN {w : World} {loose : List Str} {mean : ExcName → Option Value} {mg mb : Str → Option Value} {dp un : Nat} {gd : Option (List Code)} {a : Addr} {outer : List Env} {A₀ : Around} {base h₀ g₀ : Heap} {L : Addr} {m : Str → Option Value}
    {news : List (Addr × Obj)} {s : Shared} {Q : Flow → Shared → Prop} {E : Value → Shared → Prop} {v : V} {u : U} {n : Nat} {S0 : Stmt} {S1 : Stmt} {ra : Addr} {rn : Nat} {q1 q2 : Tok}
    (eS0 : S0 = nthS 5 loopB) (eS1 : S1 = nthS 6 loopB) (XB : (Mine.hd.heap_39 w.params).In base) (TB : Top topProg loose mean mg mb base) (CB : CodeHd base 352 348) (B : Below A₀ base outer h₀) (D : KtsDicts (frs outer) h₀) (T0 : KtsTurn (frs outer) g₀ h₀) (F : Fr h₀ L s.heap m) (N : News h₀ L s.heap news) (hdp : dp + 100 < recursionLimit) (hun : un + 500 < cLine) (hn : n ≤ 90) (G : St news v u false false false n) (nL : m "loaded" = some (.bool false)) (nM : m "marked" = some (.bool false)) (nS : m "sticky" = some (.bool false)) (nA : m "asked" = some (.ref u.la)) (nT : m "told" = some (.ref u.lt)) (Y : Same v u) (hF : v.F = .none) (nR : m "row" = some (.ref ra)) (mra : (ra, ({ cls := .type "tuple", data := .seq #[.none, .int (-1) q1, .str "ghost" q2, .bool false] rn } : Obj)) ∈ news)
    (ret : ∀ h' tk', Fr h₀ L h' m → News h₀ L h' news → Q .next { s with heap := h', toks := tk' }) :
    wpAny (model PySem.Challenge.rw_am6027_01.row.prog w) (top none dp un gd "law" lawS L a (.ref 352) (lawCl v u) outer) (execs [S0, S1] (envX "law" lawS L a (.ref 352) (lawCl v u))) Q E s := by
  w_top off
  w_strict (
    revert XB
    k_fill
    intro XB
    have X := XB.keeps B.stays
    have T := TB.keeps B.stays
    have J := G.D.jars G.S
    have dcf := G.S.ocf
    have dcj := G.S.ocj
    have hoo := G.S.oo
    have mco : (u.co, u.oo) ∈ news := G.has (by simp [rows])
    have mck : (u.ck, u.ok) ∈ news := G.has (by simp [rows])
    have mcw : (u.cw, u.ow) ∈ news := G.has (by simp [rows])
    have mla : (u.la, PySem.W.listOf u.va.toArray u.na) ∈ news := G.has (by simp [rows])
    have mlt : (u.lt, PySem.W.listOf u.vt.toArray u.nt) ∈ news := G.has (by simp [rows])
    have mll : (v.ll, PySem.W.listOf v.vl.toArray v.nl) ∈ news := G.has (by simp [rows])
    have mlc : (v.lc, PySem.W.listOf v.vc.toArray v.nc) ∈ news := G.has (by simp [rows])
    subst eS0 eS1
    have yma := Y.ma
    have ymt := Y.mt
    have yml := G.ml
    have ymc := G.mc
    have yel := Y.el
    have yec := Y.ec
    have eS := Eq.refl lawS
    conv at eS => rhs; whnf
    have e0 := Eq.refl (nthS 5 loopB)
    conv at e0 => rhs; whnf
    have e1 := Eq.refl (nthS 6 loopB)
    conv at e1 => rhs; whnf
    rw [eS, e0, e1]
    clear eS e0 e1
    k_steps
    exact ret _ _ (by k_asm) (by k_asm))

set_option maxHeartbeats 8000000 in
theorem tail0 {w : World} {loose : List Str} {mean : ExcName → Option Value} {mg mb : Str → Option Value} {dp un : Nat} {gd : Option (List Code)} {a : Addr} {outer : List Env} {A₀ : Around} {base h₀ g₀ : Heap} {L : Addr} {m : Str → Option Value}
    {news : List (Addr × Obj)} {s : Shared} {Q : Flow → Shared → Prop} {E : Value → Shared → Prop} {v : V} {u : U} {n : Nat} {S0 : Stmt} {S1 : Stmt} {tf : Tok} {ra : Addr} {rn : Nat} {q1 q2 : Tok}
    (eS0 : S0 = nthS 5 loopB) (eS1 : S1 = nthS 6 loopB) (XB : (Mine.hd.heap_39 w.params).In base) (TB : Top topProg loose mean mg mb base) (CB : CodeHd base 352 348) (B : Below A₀ base outer h₀) (D : KtsDicts (frs outer) h₀) (T0 : KtsTurn (frs outer) g₀ h₀) (F : Fr h₀ L s.heap m) (N : News h₀ L s.heap news) (hdp : dp + 100 < recursionLimit) (hun : un + 500 < cLine) (hn : n ≤ 90) (G : St news v u true false false n) (nL : m "loaded" = some (.bool true)) (nM : m "marked" = some (.bool false)) (nS : m "sticky" = some (.bool false)) (nA : m "asked" = some (.ref u.la)) (nT : m "told" = some (.ref u.lt)) (Y : Same v u) (hF : v.F = .int 0 tf) (nR : m "row" = some (.ref ra)) (mra : (ra, ({ cls := .type "tuple", data := .seq #[.bool false, .int 0 q1, .str "saved" q2, .bool false] rn } : Obj)) ∈ news)
    (ret : ∀ h' tk', Fr h₀ L h' m → News h₀ L h' news → Q .next { s with heap := h', toks := tk' }) :
    wpAny (model PySem.Challenge.rw_am6027_01.row.prog w) (top none dp un gd "law" lawS L a (.ref 352) (lawCl v u) outer) (execs [S0, S1] (envX "law" lawS L a (.ref 352) (lawCl v u))) Q E s := by
  w_top off
  w_strict (
    revert XB
    k_fill
    intro XB
    have X := XB.keeps B.stays
    have T := TB.keeps B.stays
    have J := G.D.jars G.S
    have dcf := G.S.ocf
    have dcj := G.S.ocj
    have hoo := G.S.oo
    have mco : (u.co, u.oo) ∈ news := G.has (by simp [rows])
    have mck : (u.ck, u.ok) ∈ news := G.has (by simp [rows])
    have mcw : (u.cw, u.ow) ∈ news := G.has (by simp [rows])
    have mla : (u.la, PySem.W.listOf u.va.toArray u.na) ∈ news := G.has (by simp [rows])
    have mlt : (u.lt, PySem.W.listOf u.vt.toArray u.nt) ∈ news := G.has (by simp [rows])
    have mll : (v.ll, PySem.W.listOf v.vl.toArray v.nl) ∈ news := G.has (by simp [rows])
    have mlc : (v.lc, PySem.W.listOf v.vc.toArray v.nc) ∈ news := G.has (by simp [rows])
    subst eS0 eS1
    have yma := Y.ma
    have ymt := Y.mt
    have yml := G.ml
    have ymc := G.mc
    have yel := Y.el
    have yec := Y.ec
    have eS := Eq.refl lawS
    conv at eS => rhs; whnf
    have e0 := Eq.refl (nthS 5 loopB)
    conv at e0 => rhs; whnf
    have e1 := Eq.refl (nthS 6 loopB)
    conv at e1 => rhs; whnf
    rw [eS, e0, e1]
    clear eS e0 e1
    k_steps
    exact ret _ _ (by k_asm) (by k_asm))

set_option maxHeartbeats 8000000 in
theorem tail1 {w : World} {loose : List Str} {mean : ExcName → Option Value} {mg mb : Str → Option Value} {dp un : Nat} {gd : Option (List Code)} {a : Addr} {outer : List Env} {A₀ : Around} {base h₀ g₀ : Heap} {L : Addr} {m : Str → Option Value}
    {news : List (Addr × Obj)} {s : Shared} {Q : Flow → Shared → Prop} {E : Value → Shared → Prop} {v : V} {u : U} {n : Nat} {S0 : Stmt} {S1 : Stmt} {tf : Tok} {ra : Addr} {rn : Nat} {q1 q2 : Tok}
    (eS0 : S0 = nthS 5 loopB) (eS1 : S1 = nthS 6 loopB) (XB : (Mine.hd.heap_39 w.params).In base) (TB : Top topProg loose mean mg mb base) (CB : CodeHd base 352 348) (B : Below A₀ base outer h₀) (D : KtsDicts (frs outer) h₀) (T0 : KtsTurn (frs outer) g₀ h₀) (F : Fr h₀ L s.heap m) (N : News h₀ L s.heap news) (hdp : dp + 100 < recursionLimit) (hun : un + 500 < cLine) (hn : n ≤ 90) (G : St news v u true true false n) (nL : m "loaded" = some (.bool true)) (nM : m "marked" = some (.bool true)) (nS : m "sticky" = some (.bool false)) (nA : m "asked" = some (.ref u.la)) (nT : m "told" = some (.ref u.lt)) (Y : Same v u) (hF : v.F = .int 1 tf) (nR : m "row" = some (.ref ra)) (mra : (ra, ({ cls := .type "tuple", data := .seq #[.bool true, .int 1 q1, .str "changed" q2, .bool false] rn } : Obj)) ∈ news)
    (ret : ∀ h' tk', Fr h₀ L h' m → News h₀ L h' news → Q .next { s with heap := h', toks := tk' }) :
    wpAny (model PySem.Challenge.rw_am6027_01.row.prog w) (top none dp un gd "law" lawS L a (.ref 352) (lawCl v u) outer) (execs [S0, S1] (envX "law" lawS L a (.ref 352) (lawCl v u))) Q E s := by
  w_top off
  w_strict (
    revert XB
    k_fill
    intro XB
    have X := XB.keeps B.stays
    have T := TB.keeps B.stays
    have J := G.D.jars G.S
    have dcf := G.S.ocf
    have dcj := G.S.ocj
    have hoo := G.S.oo
    have mco : (u.co, u.oo) ∈ news := G.has (by simp [rows])
    have mck : (u.ck, u.ok) ∈ news := G.has (by simp [rows])
    have mcw : (u.cw, u.ow) ∈ news := G.has (by simp [rows])
    have mla : (u.la, PySem.W.listOf u.va.toArray u.na) ∈ news := G.has (by simp [rows])
    have mlt : (u.lt, PySem.W.listOf u.vt.toArray u.nt) ∈ news := G.has (by simp [rows])
    have mll : (v.ll, PySem.W.listOf v.vl.toArray v.nl) ∈ news := G.has (by simp [rows])
    have mlc : (v.lc, PySem.W.listOf v.vc.toArray v.nc) ∈ news := G.has (by simp [rows])
    subst eS0 eS1
    have yma := Y.ma
    have ymt := Y.mt
    have yml := G.ml
    have ymc := G.mc
    have yel := Y.el
    have yec := Y.ec
    have eS := Eq.refl lawS
    conv at eS => rhs; whnf
    have e0 := Eq.refl (nthS 5 loopB)
    conv at e0 => rhs; whnf
    have e1 := Eq.refl (nthS 6 loopB)
    conv at e1 => rhs; whnf
    rw [eS, e0, e1]
    clear eS e0 e1
    k_steps
    exact ret _ _ (by k_asm) (by k_asm))

set_option maxHeartbeats 8000000 in
theorem tail2 {w : World} {loose : List Str} {mean : ExcName → Option Value} {mg mb : Str → Option Value} {dp un : Nat} {gd : Option (List Code)} {a : Addr} {outer : List Env} {A₀ : Around} {base h₀ g₀ : Heap} {L : Addr} {m : Str → Option Value}
    {news : List (Addr × Obj)} {s : Shared} {Q : Flow → Shared → Prop} {E : Value → Shared → Prop} {v : V} {u : U} {n : Nat} {S0 : Stmt} {S1 : Stmt} {tf : Tok} {ra : Addr} {rn : Nat} {q1 q2 : Tok}
    (eS0 : S0 = nthS 5 loopB) (eS1 : S1 = nthS 6 loopB) (XB : (Mine.hd.heap_39 w.params).In base) (TB : Top topProg loose mean mg mb base) (CB : CodeHd base 352 348) (B : Below A₀ base outer h₀) (D : KtsDicts (frs outer) h₀) (T0 : KtsTurn (frs outer) g₀ h₀) (F : Fr h₀ L s.heap m) (N : News h₀ L s.heap news) (hdp : dp + 100 < recursionLimit) (hun : un + 500 < cLine) (hn : n ≤ 90) (G : St news v u true false true n) (nL : m "loaded" = some (.bool true)) (nM : m "marked" = some (.bool false)) (nS : m "sticky" = some (.bool true)) (nA : m "asked" = some (.ref u.la)) (nT : m "told" = some (.ref u.lt)) (Y : Same v u) (hF : v.F = .int 2 tf) (nR : m "row" = some (.ref ra)) (mra : (ra, ({ cls := .type "tuple", data := .seq #[.bool false, .int 2 q1, .str "sticky" q2, .bool true] rn } : Obj)) ∈ news)
    (ret : ∀ h' tk', Fr h₀ L h' m → News h₀ L h' news → Q .next { s with heap := h', toks := tk' }) :
    wpAny (model PySem.Challenge.rw_am6027_01.row.prog w) (top none dp un gd "law" lawS L a (.ref 352) (lawCl v u) outer) (execs [S0, S1] (envX "law" lawS L a (.ref 352) (lawCl v u))) Q E s := by
  w_top off
  w_strict (
    revert XB
    k_fill
    intro XB
    have X := XB.keeps B.stays
    have T := TB.keeps B.stays
    have J := G.D.jars G.S
    have dcf := G.S.ocf
    have dcj := G.S.ocj
    have hoo := G.S.oo
    have mco : (u.co, u.oo) ∈ news := G.has (by simp [rows])
    have mck : (u.ck, u.ok) ∈ news := G.has (by simp [rows])
    have mcw : (u.cw, u.ow) ∈ news := G.has (by simp [rows])
    have mla : (u.la, PySem.W.listOf u.va.toArray u.na) ∈ news := G.has (by simp [rows])
    have mlt : (u.lt, PySem.W.listOf u.vt.toArray u.nt) ∈ news := G.has (by simp [rows])
    have mll : (v.ll, PySem.W.listOf v.vl.toArray v.nl) ∈ news := G.has (by simp [rows])
    have mlc : (v.lc, PySem.W.listOf v.vc.toArray v.nc) ∈ news := G.has (by simp [rows])
    subst eS0 eS1
    have yma := Y.ma
    have ymt := Y.mt
    have yml := G.ml
    have ymc := G.mc
    have yel := Y.el
    have yec := Y.ec
    have eS := Eq.refl lawS
    conv at eS => rhs; whnf
    have e0 := Eq.refl (nthS 5 loopB)
    conv at e0 => rhs; whnf
    have e1 := Eq.refl (nthS 6 loopB)
    conv at e1 => rhs; whnf
    rw [eS, e0, e1]
    clear eS e0 e1
    k_steps
    exact ret _ _ (by k_asm) (by k_asm))

set_option maxHeartbeats 8000000 in
theorem tail3 {w : World} {loose : List Str} {mean : ExcName → Option Value} {mg mb : Str → Option Value} {dp un : Nat} {gd : Option (List Code)} {a : Addr} {outer : List Env} {A₀ : Around} {base h₀ g₀ : Heap} {L : Addr} {m : Str → Option Value}
    {news : List (Addr × Obj)} {s : Shared} {Q : Flow → Shared → Prop} {E : Value → Shared → Prop} {v : V} {u : U} {n : Nat} {S0 : Stmt} {S1 : Stmt} {tf : Tok} {ra : Addr} {rn : Nat} {q1 q2 : Tok}
    (eS0 : S0 = nthS 5 loopB) (eS1 : S1 = nthS 6 loopB) (XB : (Mine.hd.heap_39 w.params).In base) (TB : Top topProg loose mean mg mb base) (CB : CodeHd base 352 348) (B : Below A₀ base outer h₀) (D : KtsDicts (frs outer) h₀) (T0 : KtsTurn (frs outer) g₀ h₀) (F : Fr h₀ L s.heap m) (N : News h₀ L s.heap news) (hdp : dp + 100 < recursionLimit) (hun : un + 500 < cLine) (hn : n ≤ 90) (G : St news v u true true true n) (nL : m "loaded" = some (.bool true)) (nM : m "marked" = some (.bool true)) (nS : m "sticky" = some (.bool true)) (nA : m "asked" = some (.ref u.la)) (nT : m "told" = some (.ref u.lt)) (Y : Same v u) (hF : v.F = .int 3 tf) (nR : m "row" = some (.ref ra)) (mra : (ra, ({ cls := .type "tuple", data := .seq #[.bool true, .int 2 q1, .str "sticky" q2, .bool true] rn } : Obj)) ∈ news)
    (ret : ∀ h' tk', Fr h₀ L h' m → News h₀ L h' news → Q .next { s with heap := h', toks := tk' }) :
    wpAny (model PySem.Challenge.rw_am6027_01.row.prog w) (top none dp un gd "law" lawS L a (.ref 352) (lawCl v u) outer) (execs [S0, S1] (envX "law" lawS L a (.ref 352) (lawCl v u))) Q E s := by
  w_top off
  w_strict (
    revert XB
    k_fill
    intro XB
    have X := XB.keeps B.stays
    have T := TB.keeps B.stays
    have J := G.D.jars G.S
    have dcf := G.S.ocf
    have dcj := G.S.ocj
    have hoo := G.S.oo
    have mco : (u.co, u.oo) ∈ news := G.has (by simp [rows])
    have mck : (u.ck, u.ok) ∈ news := G.has (by simp [rows])
    have mcw : (u.cw, u.ow) ∈ news := G.has (by simp [rows])
    have mla : (u.la, PySem.W.listOf u.va.toArray u.na) ∈ news := G.has (by simp [rows])
    have mlt : (u.lt, PySem.W.listOf u.vt.toArray u.nt) ∈ news := G.has (by simp [rows])
    have mll : (v.ll, PySem.W.listOf v.vl.toArray v.nl) ∈ news := G.has (by simp [rows])
    have mlc : (v.lc, PySem.W.listOf v.vc.toArray v.nc) ∈ news := G.has (by simp [rows])
    subst eS0 eS1
    have yma := Y.ma
    have ymt := Y.mt
    have yml := G.ml
    have ymc := G.mc
    have yel := Y.el
    have yec := Y.ec
    have eS := Eq.refl lawS
    conv at eS => rhs; whnf
    have e0 := Eq.refl (nthS 5 loopB)
    conv at e0 => rhs; whnf
    have e1 := Eq.refl (nthS 6 loopB)
    conv at e1 => rhs; whnf
    rw [eS, e0, e1]
    clear eS e0 e1
    k_steps
    exact ret _ _ (by k_asm) (by k_asm))
end Mine
end
section
open PySem PySem.W PyProof.Rows PySem.Calls
set_option Elab.async false
set_option maxRecDepth 100000
namespace Mine
structure Nm (m : Str → Option Value) (u : U) (ld mk st : Bool) : Prop where
  L : m "loaded" = some (.bool ld)
  M : m "marked" = some (.bool mk)
  S : m "sticky" = some (.bool st)
  A : m "asked" = some (.ref u.la)
  T : m "told" = some (.ref u.lt)
/-- how a turn leaves things -/
def End (A₀ : Around) (base : Heap) (outer : List Env) (g₀ : Heap) (L : Addr) (v : V) (u : U) (n : Nat) (h' : Heap) : Prop :=
  ∃ h₀' m' news' v' u' ld mk st n', KtsTurn (frs outer) g₀ h₀' ∧ Fr h₀' L h' m' ∧ News h₀' L h' news' ∧ Below A₀ base outer h₀' ∧ KtsDicts (frs outer) h₀' ∧
    Nm m' u' ld mk st ∧ St news' v' u' ld mk st n' ∧ Same v' u' ∧ (lawCl v' u' = lawCl v u ∧ u'.rest = u.rest) ∧ n' ≤ n + 2
theorem execs_app {M : Model} {A : Around} {E : Value → Shared → Prop} {env : Env} {Q : Flow → Shared → Prop} {l2 : List Stmt} (l1 : List Stmt) {s : Shared}
    (h : wpAny M A (execs l1 env) (fun f s' => match f with | .next => wpAny M A (execs l2 env) Q E s' | f => Q f s') E s) : wpAny M A (execs (l1 ++ l2) env) Q E s := by
  intro Γ p hΓ
  have h1 := h Γ p hΓ
  clear h
  induction l1 generalizing s p with
  | nil => exact h1 Γ p hΓ
  | cons a r ih =>
    rw [List.cons_append, execs_cons, Sem.wp_bind']
    rw [execs_cons, Sem.wp_bind'] at h1
    refine Sem.wp_mono M Γ _ (fun f p' s' z => ?_) (fun _ _ _ z => z) _ _ h1
    cases f with
    | next => exact ih p' z
    | _ => exact z
end Mine
end
section
open PySem PySem.W PyProof.Rows PySem.Calls
set_option Elab.async false
set_option maxRecDepth 100000
namespace Mine

theorem tup_ne {news : List (Addr × Obj)} {a d : Addr} {items : Array Value} {k : Nat} {o o' : Obj} {news' : List (Addr × Obj)} (U₁ : Upd d o o' news news') (h : (a, ({ cls := .type "tuple", data := .seq items k } : Obj)) ∈ news) (hc : o.cls = .type "list") : a ≠ d := fun e => by
  subst e
  have z := upd_one U₁ h
  rw [← z] at hc
  injection hc with hc
  exact absurd hc (by decide)
theorem Word.keep {news news' : List (Addr × Obj)} {v : V} {u : U} {b : Bool} {z : Value} (W : Word news b z) (D : Led news v u) (h : ∀ p ∈ news, tagO p.2 = 100 → p.1 ≠ u.la → p.1 ≠ u.lt → p ∈ news') : Word news' b z := by
  cases W with
  | bool b => exact .bool b
  | int i t => exact .int i t
  | str x t h => exact .str x t h
  | bytes x t h => exact .bytes x t h
  | tup a items n hm h2 => exact .tup a items n (h _ hm rfl (tup_ne (D.uA default) hm rfl) (tup_ne (D.uT default) hm rfl)) h2
theorem thenA_is : ∃ S0 S1 S2 S3 S4, thenB (nthS 3 loopB) = S0 :: ([S1, S2] ++ [S3, S4]) ∧ S0 = nthS 0 (thenB (nthS 3 loopB)) ∧ S1 = nthS 1 (thenB (nthS 3 loopB)) ∧ S2 = nthS 2 (thenB (nthS 3 loopB)) ∧ S3 = nthS 3 (thenB (nthS 3 loopB)) ∧ S4 = nthS 4 (thenB (nthS 3 loopB)) := ⟨_, _, _, _, _, rfl, rfl, rfl, rfl, rfl, rfl⟩

theorem bodyA_g0 {w : World} {loose : List Str} {mean : ExcName → Option Value} {mg mb : Str → Option Value} {dp un : Nat} {gd : Option (List Code)} {a : Addr} {outer : List Env} {A₀ : Around} {base h₀ g₀ : Heap} {L : Addr} {m : Str → Option Value}
    {news : List (Addr × Obj)} {s : Shared} {Q : Flow → Shared → Prop} {E : Value → Shared → Prop} {v : V} {u : U} {n : Nat} {q : Int} {tq td0 tk0 : Tok} {TB0 : List Stmt}
    (eT : TB0 = (thenB (nthS 3 loopB))) (XB : (Mine.hd.heap_39 w.params).In base) (TB : Top topProg loose mean mg mb base) (CB : CodeHd base 352 348) (B : Below A₀ base outer h₀) (D : KtsDicts (frs outer) h₀) (T0 : KtsTurn (frs outer) g₀ h₀) (F : Fr h₀ L s.heap m) (N : News h₀ L s.heap news) (hdp : dp + 100 < recursionLimit) (hun : un + 500 < cLine) (hn : n ≤ 90) (G : St news v u false false false n) (K : Nm m u false false false) (Y : Same v u) (nQ : m "more" = some (.int q tq)) (nD : m "due" = some (.str "done" td0)) (hkd : u.ok.data = .cell (some (.int 0 tk0))) (hf0 : v.f0 = true)
    (ret : ∀ h' tk', End A₀ base outer g₀ L v u n h' → Q .next { s with heap := h', toks := tk' }) :
    wpAny (model PySem.Challenge.rw_am6027_01.row.prog w) (top none dp un gd "law" lawS L a (.ref 352) (lawCl v u) outer) (execs TB0 (envX "law" lawS L a (.ref 352) (lawCl v u))) Q E s := by
  obtain ⟨S0, S1, S2, S3, S4, e, e0, e1, e2, e3, e4⟩ := thenA_is
  rw [eT, e]
  clear e eT
  have hza : u.va.length ≤ 1000 := by have := G.bl; have := Y.el; omega
  have hzt : u.vt.length ≤ 1000 := by have := G.bc; have := Y.ec; omega
  refine wpAny_execs_cons (A1 e0 XB TB CB B D T0 F N hdp hun hn G K.L K.M K.S K.A K.T nQ fun h1 tk1 news1 z o1 F1 N1 G1 W1 d1 => ?_)
  refine execs_app _ (A2_c1 (u := { u with ow := o1 }) e1 e2 XB TB CB B D T0 F1 N1 hdp hun hn G1 K.L K.M K.S K.A K.T hf0 hza hzt nD fun h2 tk2 news2 m2  td F2 N2 nL2 nM2 nS2 nA2 nT2 nD2 kp2 G2 => ?_)
  have W2 := W1.keep G1.D kp2
  refine wpAny_execs_cons (A4 (u := { u with ow := o1 }) e3 XB TB CB B D T0 F2 N2 hdp hun hn G2 hkd d1 fun f h3 tk3 news3 ps F3 N3 kp3 G3 DD3 => ?_)
  have nx : ∀ y : Str, y ≠ "deed" → (if y = ("deed" : Str) then some (Value.ref f) else m2 y) = m2 y := fun y hy => if_neg hy
  refine wpAny_execs_cons (A5_wt0_noN0 (u := { u with ow := o1, ps := ps }) e4 XB TB CB B D T0 F3 N3 hdp hun hn G3 (if_pos rfl) ((nx "due" (by decide)).trans nD2) DD3 (W2.mono' kp3) hf0 fun h₀4 h4 tk4 news4 F' T4 F4 N4 B4 D4 X4 P4 G4 => ?_)
  exact wpAny_execs_nil (ret _ _ ⟨h₀4, _, _, { v with F := F' }, { u with ow := o1, ps := ps }, false, false, false, n + 1, T4, F4, N4, B4, D4, ⟨(nx "loaded" (by decide)).trans nL2, (nx "marked" (by decide)).trans nM2, (nx "sticky" (by decide)).trans nS2, (nx "asked" (by decide)).trans nA2, (nx "told" (by decide)).trans nT2⟩, G4, ⟨Y.ma, Y.mt, Y.el, Y.ec⟩, ⟨rfl, rfl⟩, by omega⟩)

theorem bodyA_g1 {w : World} {loose : List Str} {mean : ExcName → Option Value} {mg mb : Str → Option Value} {dp un : Nat} {gd : Option (List Code)} {a : Addr} {outer : List Env} {A₀ : Around} {base h₀ g₀ : Heap} {L : Addr} {m : Str → Option Value}
    {news : List (Addr × Obj)} {s : Shared} {Q : Flow → Shared → Prop} {E : Value → Shared → Prop} {v : V} {u : U} {n : Nat} {q : Int} {tq td0 tk0 : Tok} {TB0 : List Stmt}
    (eT : TB0 = (thenB (nthS 3 loopB))) (XB : (Mine.hd.heap_39 w.params).In base) (TB : Top topProg loose mean mg mb base) (CB : CodeHd base 352 348) (B : Below A₀ base outer h₀) (D : KtsDicts (frs outer) h₀) (T0 : KtsTurn (frs outer) g₀ h₀) (F : Fr h₀ L s.heap m) (N : News h₀ L s.heap news) (hdp : dp + 100 < recursionLimit) (hun : un + 500 < cLine) (hn : n ≤ 90) (G : St news v u false false false n) (K : Nm m u false false false) (Y : Same v u) (nQ : m "more" = some (.int q tq)) (nD : m "due" = some (.str "done" td0)) (hkd : u.ok.data = .cell (some (.int 0 tk0))) (hf0 : v.f0 = false) (hf1 : v.f1 = true)
    (ret : ∀ h' tk', End A₀ base outer g₀ L v u n h' → Q .next { s with heap := h', toks := tk' }) :
    wpAny (model PySem.Challenge.rw_am6027_01.row.prog w) (top none dp un gd "law" lawS L a (.ref 352) (lawCl v u) outer) (execs TB0 (envX "law" lawS L a (.ref 352) (lawCl v u))) Q E s := by
  obtain ⟨S0, S1, S2, S3, S4, e, e0, e1, e2, e3, e4⟩ := thenA_is
  rw [eT, e]
  clear e eT
  have hza : u.va.length ≤ 1000 := by have := G.bl; have := Y.el; omega
  have hzt : u.vt.length ≤ 1000 := by have := G.bc; have := Y.ec; omega
  refine wpAny_execs_cons (A1 e0 XB TB CB B D T0 F N hdp hun hn G K.L K.M K.S K.A K.T nQ fun h1 tk1 news1 z o1 F1 N1 G1 W1 d1 => ?_)
  refine execs_app _ (A2_c2 (u := { u with ow := o1 }) e1 e2 XB TB CB B D T0 F1 N1 hdp hun hn G1 K.L K.M K.S K.A K.T hf0 hf1 hza hzt nD fun h2 tk2 news2 m2 t0 td F2 N2 nL2 nM2 nS2 nA2 nT2 nD2 kp2 G2 => ?_)
  have W2 := W1.keep G1.D kp2
  refine wpAny_execs_cons (A4 (u := { u with ow := o1, va := u.va ++ [.bytes #[109] t0], na := u.na + 1 }) e3 XB TB CB B D T0 F2 N2 hdp hun hn G2 hkd d1 fun f h3 tk3 news3 ps F3 N3 kp3 G3 DD3 => ?_)
  have nx : ∀ y : Str, y ≠ "deed" → (if y = ("deed" : Str) then some (Value.ref f) else m2 y) = m2 y := fun y hy => if_neg hy
  refine wpAny_execs_cons (A5_wt0_noN1 (u := { u with ow := o1, ps := ps, va := u.va ++ [.bytes #[109] t0], na := u.na + 1 }) e4 XB TB CB B D T0 F3 N3 hdp hun hn G3 (if_pos rfl) ((nx "due" (by decide)).trans nD2) DD3 (W2.mono' kp3) hf0 hf1 fun h₀4 h4 tk4 news4 F' T4 F4 N4 B4 D4 X4 P4 G4 => ?_)
  exact wpAny_execs_nil (ret _ _ ⟨h₀4, _, _, { v with F := F', vl := v.vl ++ [.bytes #[109] v.t0], nl := v.nl + 1 }, { u with ow := o1, ps := ps, va := u.va ++ [.bytes #[109] t0], na := u.na + 1 }, true, false, false, n + 1, T4, F4, N4, B4, D4, ⟨(nx "loaded" (by decide)).trans nL2, (nx "marked" (by decide)).trans nM2, (nx "sticky" (by decide)).trans nS2, (nx "asked" (by decide)).trans nA2, (nx "told" (by decide)).trans nT2⟩, G4, ⟨Y.ma.push, Y.mt, (by rw [List.length_append, List.length_append]; exact congrArg (· + 1) Y.el), Y.ec⟩, ⟨rfl, rfl⟩, by omega⟩)

theorem bodyA_g2 {w : World} {loose : List Str} {mean : ExcName → Option Value} {mg mb : Str → Option Value} {dp un : Nat} {gd : Option (List Code)} {a : Addr} {outer : List Env} {A₀ : Around} {base h₀ g₀ : Heap} {L : Addr} {m : Str → Option Value}
    {news : List (Addr × Obj)} {s : Shared} {Q : Flow → Shared → Prop} {E : Value → Shared → Prop} {v : V} {u : U} {n : Nat} {q : Int} {tq td0 tk0 : Tok} {TB0 : List Stmt}
    (eT : TB0 = (thenB (nthS 3 loopB))) (XB : (Mine.hd.heap_39 w.params).In base) (TB : Top topProg loose mean mg mb base) (CB : CodeHd base 352 348) (B : Below A₀ base outer h₀) (D : KtsDicts (frs outer) h₀) (T0 : KtsTurn (frs outer) g₀ h₀) (F : Fr h₀ L s.heap m) (N : News h₀ L s.heap news) (hdp : dp + 100 < recursionLimit) (hun : un + 500 < cLine) (hn : n ≤ 90) (G : St news v u false false false n) (K : Nm m u false false false) (Y : Same v u) (nQ : m "more" = some (.int q tq)) (nD : m "due" = some (.str "done" td0)) (hkd : u.ok.data = .cell (some (.int 0 tk0))) (hf0 : v.f0 = false) (hf1 : v.f1 = false)
    (ret : ∀ h' tk', End A₀ base outer g₀ L v u n h' → Q .next { s with heap := h', toks := tk' }) :
    wpAny (model PySem.Challenge.rw_am6027_01.row.prog w) (top none dp un gd "law" lawS L a (.ref 352) (lawCl v u) outer) (execs TB0 (envX "law" lawS L a (.ref 352) (lawCl v u))) Q E s := by
  obtain ⟨S0, S1, S2, S3, S4, e, e0, e1, e2, e3, e4⟩ := thenA_is
  rw [eT, e]
  clear e eT
  have hza : u.va.length ≤ 1000 := by have := G.bl; have := Y.el; omega
  have hzt : u.vt.length ≤ 1000 := by have := G.bc; have := Y.ec; omega
  refine wpAny_execs_cons (A1 e0 XB TB CB B D T0 F N hdp hun hn G K.L K.M K.S K.A K.T nQ fun h1 tk1 news1 z o1 F1 N1 G1 W1 d1 => ?_)
  refine execs_app _ (A2_c3 (u := { u with ow := o1 }) e1 e2 XB TB CB B D T0 F1 N1 hdp hun hn G1 K.L K.M K.S K.A K.T hf0 hf1 hza hzt nD fun h2 tk2 news2 m2 t0 t1 td F2 N2 nL2 nM2 nS2 nA2 nT2 nD2 kp2 G2 => ?_)
  have W2 := W1.keep G1.D kp2
  refine wpAny_execs_cons (A4 (u := { u with ow := o1, va := u.va ++ [.bytes #[109] t0], na := u.na + 1, vt := u.vt ++ [.bytes #[109] t1], nt := u.nt + 1 }) e3 XB TB CB B D T0 F2 N2 hdp hun hn G2 hkd d1 fun f h3 tk3 news3 ps F3 N3 kp3 G3 DD3 => ?_)
  have nx : ∀ y : Str, y ≠ "deed" → (if y = ("deed" : Str) then some (Value.ref f) else m2 y) = m2 y := fun y hy => if_neg hy
  refine wpAny_execs_cons (A5_wt0_onN (u := { u with ow := o1, ps := ps, va := u.va ++ [.bytes #[109] t0], na := u.na + 1, vt := u.vt ++ [.bytes #[109] t1], nt := u.nt + 1 }) e4 XB TB CB B D T0 F3 N3 hdp hun hn G3 (if_pos rfl) ((nx "due" (by decide)).trans nD2) DD3 (W2.mono' kp3) hf0 hf1 fun h₀4 h4 tk4 news4 F' T4 F4 N4 B4 D4 X4 P4 G4 => ?_)
  exact wpAny_execs_nil (ret _ _ ⟨h₀4, _, _, { v with F := F', vl := v.vl ++ [.bytes #[109] v.t0], nl := v.nl + 1, vc := v.vc ++ [.bytes #[109] v.t0], nc := v.nc + 1 }, { u with ow := o1, ps := ps, va := u.va ++ [.bytes #[109] t0], na := u.na + 1, vt := u.vt ++ [.bytes #[109] t1], nt := u.nt + 1 }, true, true, false, n + 1 + 1, T4, F4, N4, B4, D4, ⟨(nx "loaded" (by decide)).trans nL2, (nx "marked" (by decide)).trans nM2, (nx "sticky" (by decide)).trans nS2, (nx "asked" (by decide)).trans nA2, (nx "told" (by decide)).trans nT2⟩, G4, ⟨Y.ma.push, Y.mt.push, (by rw [List.length_append, List.length_append]; exact congrArg (· + 1) Y.el), (by rw [List.length_append, List.length_append]; exact congrArg (· + 1) Y.ec)⟩, ⟨rfl, rfl⟩, by omega⟩)

theorem bodyA_l0m {w : World} {loose : List Str} {mean : ExcName → Option Value} {mg mb : Str → Option Value} {dp un : Nat} {gd : Option (List Code)} {a : Addr} {outer : List Env} {A₀ : Around} {base h₀ g₀ : Heap} {L : Addr} {m : Str → Option Value}
    {news : List (Addr × Obj)} {s : Shared} {Q : Flow → Shared → Prop} {E : Value → Shared → Prop} {v : V} {u : U} {n : Nat} {st : Bool} {q : Int} {tq td0 tk0 : Tok} {TB0 : List Stmt}
    (eT : TB0 = (thenB (nthS 3 loopB))) (XB : (Mine.hd.heap_39 w.params).In base) (TB : Top topProg loose mean mg mb base) (CB : CodeHd base 352 348) (B : Below A₀ base outer h₀) (D : KtsDicts (frs outer) h₀) (T0 : KtsTurn (frs outer) g₀ h₀) (F : Fr h₀ L s.heap m) (N : News h₀ L s.heap news) (hdp : dp + 100 < recursionLimit) (hun : un + 500 < cLine) (hn : n ≤ 90) (G : St news v u true true st n) (K : Nm m u true true st) (Y : Same v u) (nQ : m "more" = some (.int q tq)) (nD : m "due" = some (.str "done" td0)) (hkd : u.ok.data = .cell (some (.int 0 tk0))) 
    (ret : ∀ h' tk', End A₀ base outer g₀ L v u n h' → Q .next { s with heap := h', toks := tk' }) :
    wpAny (model PySem.Challenge.rw_am6027_01.row.prog w) (top none dp un gd "law" lawS L a (.ref 352) (lawCl v u) outer) (execs TB0 (envX "law" lawS L a (.ref 352) (lawCl v u))) Q E s := by
  obtain ⟨S0, S1, S2, S3, S4, e, e0, e1, e2, e3, e4⟩ := thenA_is
  rw [eT, e]
  clear e eT
  have hza : u.va.length ≤ 1000 := by have := G.bl; have := Y.el; omega
  have hzt : u.vt.length ≤ 1000 := by have := G.bc; have := Y.ec; omega
  refine wpAny_execs_cons (A1 e0 XB TB CB B D T0 F N hdp hun hn G K.L K.M K.S K.A K.T nQ fun h1 tk1 news1 z o1 F1 N1 G1 W1 d1 => ?_)
  refine execs_app _ (A2_c4 (u := { u with ow := o1 }) e1 e2 XB TB CB B D T0 F1 N1 hdp hun hn G1 K.L K.M K.S K.A K.T  hza hzt nD fun h2 tk2 news2 m2  td F2 N2 nL2 nM2 nS2 nA2 nT2 nD2 kp2 G2 => ?_)
  have W2 := W1.keep G1.D kp2
  refine wpAny_execs_cons (A4 (u := { u with ow := o1 }) e3 XB TB CB B D T0 F2 N2 hdp hun hn G2 hkd d1 fun f h3 tk3 news3 ps F3 N3 kp3 G3 DD3 => ?_)
  have nx : ∀ y : Str, y ≠ "deed" → (if y = ("deed" : Str) then some (Value.ref f) else m2 y) = m2 y := fun y hy => if_neg hy
  refine wpAny_execs_cons (A5_wt0_on (u := { u with ow := o1, ps := ps }) e4 XB TB CB B D T0 F3 N3 hdp hun hn G3 (if_pos rfl) ((nx "due" (by decide)).trans nD2) DD3 (W2.mono' kp3)  fun h₀4 h4 tk4 news4 F' T4 F4 N4 B4 D4 X4 P4 G4 => ?_)
  exact wpAny_execs_nil (ret _ _ ⟨h₀4, _, _, { v with F := F' }, { u with ow := o1, ps := ps }, true, true, st, n + 1, T4, F4, N4, B4, D4, ⟨(nx "loaded" (by decide)).trans nL2, (nx "marked" (by decide)).trans nM2, (nx "sticky" (by decide)).trans nS2, (nx "asked" (by decide)).trans nA2, (nx "told" (by decide)).trans nT2⟩, G4, ⟨Y.ma, Y.mt, Y.el, Y.ec⟩, ⟨rfl, rfl⟩, by omega⟩)

theorem bodyA_l0n {w : World} {loose : List Str} {mean : ExcName → Option Value} {mg mb : Str → Option Value} {dp un : Nat} {gd : Option (List Code)} {a : Addr} {outer : List Env} {A₀ : Around} {base h₀ g₀ : Heap} {L : Addr} {m : Str → Option Value}
    {news : List (Addr × Obj)} {s : Shared} {Q : Flow → Shared → Prop} {E : Value → Shared → Prop} {v : V} {u : U} {n : Nat} {st : Bool} {q : Int} {tq td0 tk0 : Tok} {TB0 : List Stmt}
    (eT : TB0 = (thenB (nthS 3 loopB))) (XB : (Mine.hd.heap_39 w.params).In base) (TB : Top topProg loose mean mg mb base) (CB : CodeHd base 352 348) (B : Below A₀ base outer h₀) (D : KtsDicts (frs outer) h₀) (T0 : KtsTurn (frs outer) g₀ h₀) (F : Fr h₀ L s.heap m) (N : News h₀ L s.heap news) (hdp : dp + 100 < recursionLimit) (hun : un + 500 < cLine) (hn : n ≤ 90) (G : St news v u true false st n) (K : Nm m u true false st) (Y : Same v u) (nQ : m "more" = some (.int q tq)) (nD : m "due" = some (.str "done" td0)) (hkd : u.ok.data = .cell (some (.int 0 tk0))) (hf1 : v.f1 = true)
    (ret : ∀ h' tk', End A₀ base outer g₀ L v u n h' → Q .next { s with heap := h', toks := tk' }) :
    wpAny (model PySem.Challenge.rw_am6027_01.row.prog w) (top none dp un gd "law" lawS L a (.ref 352) (lawCl v u) outer) (execs TB0 (envX "law" lawS L a (.ref 352) (lawCl v u))) Q E s := by
  obtain ⟨S0, S1, S2, S3, S4, e, e0, e1, e2, e3, e4⟩ := thenA_is
  rw [eT, e]
  clear e eT
  have hza : u.va.length ≤ 1000 := by have := G.bl; have := Y.el; omega
  have hzt : u.vt.length ≤ 1000 := by have := G.bc; have := Y.ec; omega
  refine wpAny_execs_cons (A1 e0 XB TB CB B D T0 F N hdp hun hn G K.L K.M K.S K.A K.T nQ fun h1 tk1 news1 z o1 F1 N1 G1 W1 d1 => ?_)
  refine execs_app _ (A2_c5 (u := { u with ow := o1 }) e1 e2 XB TB CB B D T0 F1 N1 hdp hun hn G1 K.L K.M K.S K.A K.T hf1 hza hzt nD fun h2 tk2 news2 m2  td F2 N2 nL2 nM2 nS2 nA2 nT2 nD2 kp2 G2 => ?_)
  have W2 := W1.keep G1.D kp2
  refine wpAny_execs_cons (A4 (u := { u with ow := o1 }) e3 XB TB CB B D T0 F2 N2 hdp hun hn G2 hkd d1 fun f h3 tk3 news3 ps F3 N3 kp3 G3 DD3 => ?_)
  have nx : ∀ y : Str, y ≠ "deed" → (if y = ("deed" : Str) then some (Value.ref f) else m2 y) = m2 y := fun y hy => if_neg hy
  refine wpAny_execs_cons (A5_wt0_no (u := { u with ow := o1, ps := ps }) e4 XB TB CB B D T0 F3 N3 hdp hun hn G3 (if_pos rfl) ((nx "due" (by decide)).trans nD2) DD3 (W2.mono' kp3) hf1 fun h₀4 h4 tk4 news4 F' T4 F4 N4 B4 D4 X4 P4 G4 => ?_)
  exact wpAny_execs_nil (ret _ _ ⟨h₀4, _, _, { v with F := F' }, { u with ow := o1, ps := ps }, true, false, st, n + 1, T4, F4, N4, B4, D4, ⟨(nx "loaded" (by decide)).trans nL2, (nx "marked" (by decide)).trans nM2, (nx "sticky" (by decide)).trans nS2, (nx "asked" (by decide)).trans nA2, (nx "told" (by decide)).trans nT2⟩, G4, ⟨Y.ma, Y.mt, Y.el, Y.ec⟩, ⟨rfl, rfl⟩, by omega⟩)

theorem bodyA_l0y {w : World} {loose : List Str} {mean : ExcName → Option Value} {mg mb : Str → Option Value} {dp un : Nat} {gd : Option (List Code)} {a : Addr} {outer : List Env} {A₀ : Around} {base h₀ g₀ : Heap} {L : Addr} {m : Str → Option Value}
    {news : List (Addr × Obj)} {s : Shared} {Q : Flow → Shared → Prop} {E : Value → Shared → Prop} {v : V} {u : U} {n : Nat} {st : Bool} {q : Int} {tq td0 tk0 : Tok} {TB0 : List Stmt}
    (eT : TB0 = (thenB (nthS 3 loopB))) (XB : (Mine.hd.heap_39 w.params).In base) (TB : Top topProg loose mean mg mb base) (CB : CodeHd base 352 348) (B : Below A₀ base outer h₀) (D : KtsDicts (frs outer) h₀) (T0 : KtsTurn (frs outer) g₀ h₀) (F : Fr h₀ L s.heap m) (N : News h₀ L s.heap news) (hdp : dp + 100 < recursionLimit) (hun : un + 500 < cLine) (hn : n ≤ 90) (G : St news v u true false st n) (K : Nm m u true false st) (Y : Same v u) (nQ : m "more" = some (.int q tq)) (nD : m "due" = some (.str "done" td0)) (hkd : u.ok.data = .cell (some (.int 0 tk0))) (hf1 : v.f1 = false)
    (ret : ∀ h' tk', End A₀ base outer g₀ L v u n h' → Q .next { s with heap := h', toks := tk' }) :
    wpAny (model PySem.Challenge.rw_am6027_01.row.prog w) (top none dp un gd "law" lawS L a (.ref 352) (lawCl v u) outer) (execs TB0 (envX "law" lawS L a (.ref 352) (lawCl v u))) Q E s := by
  obtain ⟨S0, S1, S2, S3, S4, e, e0, e1, e2, e3, e4⟩ := thenA_is
  rw [eT, e]
  clear e eT
  have hza : u.va.length ≤ 1000 := by have := G.bl; have := Y.el; omega
  have hzt : u.vt.length ≤ 1000 := by have := G.bc; have := Y.ec; omega
  refine wpAny_execs_cons (A1 e0 XB TB CB B D T0 F N hdp hun hn G K.L K.M K.S K.A K.T nQ fun h1 tk1 news1 z o1 F1 N1 G1 W1 d1 => ?_)
  refine execs_app _ (A2_c6 (u := { u with ow := o1 }) e1 e2 XB TB CB B D T0 F1 N1 hdp hun hn G1 K.L K.M K.S K.A K.T hf1 hza hzt nD fun h2 tk2 news2 m2 t0 td F2 N2 nL2 nM2 nS2 nA2 nT2 nD2 kp2 G2 => ?_)
  have W2 := W1.keep G1.D kp2
  refine wpAny_execs_cons (A4 (u := { u with ow := o1, vt := u.vt ++ [.bytes #[109] t0], nt := u.nt + 1 }) e3 XB TB CB B D T0 F2 N2 hdp hun hn G2 hkd d1 fun f h3 tk3 news3 ps F3 N3 kp3 G3 DD3 => ?_)
  have nx : ∀ y : Str, y ≠ "deed" → (if y = ("deed" : Str) then some (Value.ref f) else m2 y) = m2 y := fun y hy => if_neg hy
  refine wpAny_execs_cons (A5_wt0_mark (u := { u with ow := o1, ps := ps, vt := u.vt ++ [.bytes #[109] t0], nt := u.nt + 1 }) e4 XB TB CB B D T0 F3 N3 hdp hun hn G3 (if_pos rfl) ((nx "due" (by decide)).trans nD2) DD3 (W2.mono' kp3) hf1 fun h₀4 h4 tk4 news4 F' T4 F4 N4 B4 D4 X4 P4 G4 => ?_)
  exact wpAny_execs_nil (ret _ _ ⟨h₀4, _, _, { v with F := F', vc := v.vc ++ [.bytes #[109] v.t0], nc := v.nc + 1 }, { u with ow := o1, ps := ps, vt := u.vt ++ [.bytes #[109] t0], nt := u.nt + 1 }, true, true, st, n + 1, T4, F4, N4, B4, D4, ⟨(nx "loaded" (by decide)).trans nL2, (nx "marked" (by decide)).trans nM2, (nx "sticky" (by decide)).trans nS2, (nx "asked" (by decide)).trans nA2, (nx "told" (by decide)).trans nT2⟩, G4, ⟨Y.ma, Y.mt.push, Y.el, (by rw [List.length_append, List.length_append]; exact congrArg (· + 1) Y.ec)⟩, ⟨rfl, rfl⟩, by omega⟩)

theorem bodyA_l7m {w : World} {loose : List Str} {mean : ExcName → Option Value} {mg mb : Str → Option Value} {dp un : Nat} {gd : Option (List Code)} {a : Addr} {outer : List Env} {A₀ : Around} {base h₀ g₀ : Heap} {L : Addr} {m : Str → Option Value}
    {news : List (Addr × Obj)} {s : Shared} {Q : Flow → Shared → Prop} {E : Value → Shared → Prop} {v : V} {u : U} {n : Nat} {st : Bool} {q : Int} {tq td0 tk0 : Tok} {TB0 : List Stmt}
    (eT : TB0 = (thenB (nthS 3 loopB))) (XB : (Mine.hd.heap_39 w.params).In base) (TB : Top topProg loose mean mg mb base) (CB : CodeHd base 352 348) (B : Below A₀ base outer h₀) (D : KtsDicts (frs outer) h₀) (T0 : KtsTurn (frs outer) g₀ h₀) (F : Fr h₀ L s.heap m) (N : News h₀ L s.heap news) (hdp : dp + 100 < recursionLimit) (hun : un + 500 < cLine) (hn : n ≤ 90) (G : St news v u true true st n) (K : Nm m u true true st) (Y : Same v u) (nQ : m "more" = some (.int q tq)) (nD : m "due" = some (.str "done" td0)) (hkd : u.ok.data = .cell (some (.int 7 tk0))) 
    (ret : ∀ h' tk', End A₀ base outer g₀ L v u n h' → Q .next { s with heap := h', toks := tk' }) :
    wpAny (model PySem.Challenge.rw_am6027_01.row.prog w) (top none dp un gd "law" lawS L a (.ref 352) (lawCl v u) outer) (execs TB0 (envX "law" lawS L a (.ref 352) (lawCl v u))) Q E s := by
  obtain ⟨S0, S1, S2, S3, S4, e, e0, e1, e2, e3, e4⟩ := thenA_is
  rw [eT, e]
  clear e eT
  have hza : u.va.length ≤ 1000 := by have := G.bl; have := Y.el; omega
  have hzt : u.vt.length ≤ 1000 := by have := G.bc; have := Y.ec; omega
  refine wpAny_execs_cons (A1 e0 XB TB CB B D T0 F N hdp hun hn G K.L K.M K.S K.A K.T nQ fun h1 tk1 news1 z o1 F1 N1 G1 W1 d1 => ?_)
  refine execs_app _ (A2_c4 (u := { u with ow := o1 }) e1 e2 XB TB CB B D T0 F1 N1 hdp hun hn G1 K.L K.M K.S K.A K.T  hza hzt nD fun h2 tk2 news2 m2  td F2 N2 nL2 nM2 nS2 nA2 nT2 nD2 kp2 G2 => ?_)
  have W2 := W1.keep G1.D kp2
  refine wpAny_execs_cons (A4 (u := { u with ow := o1 }) e3 XB TB CB B D T0 F2 N2 hdp hun hn G2 hkd d1 fun f h3 tk3 news3 ps F3 N3 kp3 G3 DD3 => ?_)
  have nx : ∀ y : Str, y ≠ "deed" → (if y = ("deed" : Str) then some (Value.ref f) else m2 y) = m2 y := fun y hy => if_neg hy
  refine wpAny_execs_cons (A5_wt7_on (u := { u with ow := o1, ps := ps }) e4 XB TB CB B D T0 F3 N3 hdp hun hn G3 (if_pos rfl) ((nx "due" (by decide)).trans nD2) DD3 (W2.mono' kp3)  fun h₀4 h4 tk4 news4 F' T4 F4 N4 B4 D4 X4 P4 G4 => ?_)
  exact wpAny_execs_nil (ret _ _ ⟨h₀4, _, _, { v with F := F' }, { u with ow := o1, ps := ps }, true, true, st, n + 1, T4, F4, N4, B4, D4, ⟨(nx "loaded" (by decide)).trans nL2, (nx "marked" (by decide)).trans nM2, (nx "sticky" (by decide)).trans nS2, (nx "asked" (by decide)).trans nA2, (nx "told" (by decide)).trans nT2⟩, G4, ⟨Y.ma, Y.mt, Y.el, Y.ec⟩, ⟨rfl, rfl⟩, by omega⟩)

theorem bodyA_l7n {w : World} {loose : List Str} {mean : ExcName → Option Value} {mg mb : Str → Option Value} {dp un : Nat} {gd : Option (List Code)} {a : Addr} {outer : List Env} {A₀ : Around} {base h₀ g₀ : Heap} {L : Addr} {m : Str → Option Value}
    {news : List (Addr × Obj)} {s : Shared} {Q : Flow → Shared → Prop} {E : Value → Shared → Prop} {v : V} {u : U} {n : Nat} {st : Bool} {q : Int} {tq td0 tk0 : Tok} {TB0 : List Stmt}
    (eT : TB0 = (thenB (nthS 3 loopB))) (XB : (Mine.hd.heap_39 w.params).In base) (TB : Top topProg loose mean mg mb base) (CB : CodeHd base 352 348) (B : Below A₀ base outer h₀) (D : KtsDicts (frs outer) h₀) (T0 : KtsTurn (frs outer) g₀ h₀) (F : Fr h₀ L s.heap m) (N : News h₀ L s.heap news) (hdp : dp + 100 < recursionLimit) (hun : un + 500 < cLine) (hn : n ≤ 90) (G : St news v u true false st n) (K : Nm m u true false st) (Y : Same v u) (nQ : m "more" = some (.int q tq)) (nD : m "due" = some (.str "done" td0)) (hkd : u.ok.data = .cell (some (.int 7 tk0))) (hf1 : v.f1 = true)
    (ret : ∀ h' tk', End A₀ base outer g₀ L v u n h' → Q .next { s with heap := h', toks := tk' }) :
    wpAny (model PySem.Challenge.rw_am6027_01.row.prog w) (top none dp un gd "law" lawS L a (.ref 352) (lawCl v u) outer) (execs TB0 (envX "law" lawS L a (.ref 352) (lawCl v u))) Q E s := by
  obtain ⟨S0, S1, S2, S3, S4, e, e0, e1, e2, e3, e4⟩ := thenA_is
  rw [eT, e]
  clear e eT
  have hza : u.va.length ≤ 1000 := by have := G.bl; have := Y.el; omega
  have hzt : u.vt.length ≤ 1000 := by have := G.bc; have := Y.ec; omega
  refine wpAny_execs_cons (A1 e0 XB TB CB B D T0 F N hdp hun hn G K.L K.M K.S K.A K.T nQ fun h1 tk1 news1 z o1 F1 N1 G1 W1 d1 => ?_)
  refine execs_app _ (A2_c5 (u := { u with ow := o1 }) e1 e2 XB TB CB B D T0 F1 N1 hdp hun hn G1 K.L K.M K.S K.A K.T hf1 hza hzt nD fun h2 tk2 news2 m2  td F2 N2 nL2 nM2 nS2 nA2 nT2 nD2 kp2 G2 => ?_)
  have W2 := W1.keep G1.D kp2
  refine wpAny_execs_cons (A4 (u := { u with ow := o1 }) e3 XB TB CB B D T0 F2 N2 hdp hun hn G2 hkd d1 fun f h3 tk3 news3 ps F3 N3 kp3 G3 DD3 => ?_)
  have nx : ∀ y : Str, y ≠ "deed" → (if y = ("deed" : Str) then some (Value.ref f) else m2 y) = m2 y := fun y hy => if_neg hy
  refine wpAny_execs_cons (A5_wt7_no (u := { u with ow := o1, ps := ps }) e4 XB TB CB B D T0 F3 N3 hdp hun hn G3 (if_pos rfl) ((nx "due" (by decide)).trans nD2) DD3 (W2.mono' kp3) hf1 fun h₀4 h4 tk4 news4 F' T4 F4 N4 B4 D4 X4 P4 G4 => ?_)
  exact wpAny_execs_nil (ret _ _ ⟨h₀4, _, _, { v with F := F' }, { u with ow := o1, ps := ps }, true, false, st, n + 1, T4, F4, N4, B4, D4, ⟨(nx "loaded" (by decide)).trans nL2, (nx "marked" (by decide)).trans nM2, (nx "sticky" (by decide)).trans nS2, (nx "asked" (by decide)).trans nA2, (nx "told" (by decide)).trans nT2⟩, G4, ⟨Y.ma, Y.mt, Y.el, Y.ec⟩, ⟨rfl, rfl⟩, by omega⟩)

theorem bodyA_l7y {w : World} {loose : List Str} {mean : ExcName → Option Value} {mg mb : Str → Option Value} {dp un : Nat} {gd : Option (List Code)} {a : Addr} {outer : List Env} {A₀ : Around} {base h₀ g₀ : Heap} {L : Addr} {m : Str → Option Value}
    {news : List (Addr × Obj)} {s : Shared} {Q : Flow → Shared → Prop} {E : Value → Shared → Prop} {v : V} {u : U} {n : Nat} {st : Bool} {q : Int} {tq td0 tk0 : Tok} {TB0 : List Stmt}
    (eT : TB0 = (thenB (nthS 3 loopB))) (XB : (Mine.hd.heap_39 w.params).In base) (TB : Top topProg loose mean mg mb base) (CB : CodeHd base 352 348) (B : Below A₀ base outer h₀) (D : KtsDicts (frs outer) h₀) (T0 : KtsTurn (frs outer) g₀ h₀) (F : Fr h₀ L s.heap m) (N : News h₀ L s.heap news) (hdp : dp + 100 < recursionLimit) (hun : un + 500 < cLine) (hn : n ≤ 90) (G : St news v u true false st n) (K : Nm m u true false st) (Y : Same v u) (nQ : m "more" = some (.int q tq)) (nD : m "due" = some (.str "done" td0)) (hkd : u.ok.data = .cell (some (.int 7 tk0))) (hf1 : v.f1 = false)
    (ret : ∀ h' tk', End A₀ base outer g₀ L v u n h' → Q .next { s with heap := h', toks := tk' }) :
    wpAny (model PySem.Challenge.rw_am6027_01.row.prog w) (top none dp un gd "law" lawS L a (.ref 352) (lawCl v u) outer) (execs TB0 (envX "law" lawS L a (.ref 352) (lawCl v u))) Q E s := by
  obtain ⟨S0, S1, S2, S3, S4, e, e0, e1, e2, e3, e4⟩ := thenA_is
  rw [eT, e]
  clear e eT
  have hza : u.va.length ≤ 1000 := by have := G.bl; have := Y.el; omega
  have hzt : u.vt.length ≤ 1000 := by have := G.bc; have := Y.ec; omega
  refine wpAny_execs_cons (A1 e0 XB TB CB B D T0 F N hdp hun hn G K.L K.M K.S K.A K.T nQ fun h1 tk1 news1 z o1 F1 N1 G1 W1 d1 => ?_)
  refine execs_app _ (A2_c6 (u := { u with ow := o1 }) e1 e2 XB TB CB B D T0 F1 N1 hdp hun hn G1 K.L K.M K.S K.A K.T hf1 hza hzt nD fun h2 tk2 news2 m2 t0 td F2 N2 nL2 nM2 nS2 nA2 nT2 nD2 kp2 G2 => ?_)
  have W2 := W1.keep G1.D kp2
  refine wpAny_execs_cons (A4 (u := { u with ow := o1, vt := u.vt ++ [.bytes #[109] t0], nt := u.nt + 1 }) e3 XB TB CB B D T0 F2 N2 hdp hun hn G2 hkd d1 fun f h3 tk3 news3 ps F3 N3 kp3 G3 DD3 => ?_)
  have nx : ∀ y : Str, y ≠ "deed" → (if y = ("deed" : Str) then some (Value.ref f) else m2 y) = m2 y := fun y hy => if_neg hy
  refine wpAny_execs_cons (A5_wt7_mark (u := { u with ow := o1, ps := ps, vt := u.vt ++ [.bytes #[109] t0], nt := u.nt + 1 }) e4 XB TB CB B D T0 F3 N3 hdp hun hn G3 (if_pos rfl) ((nx "due" (by decide)).trans nD2) DD3 (W2.mono' kp3) hf1 fun h₀4 h4 tk4 news4 F' T4 F4 N4 B4 D4 X4 P4 G4 => ?_)
  exact wpAny_execs_nil (ret _ _ ⟨h₀4, _, _, { v with F := F', vc := v.vc ++ [.bytes #[109] v.t0], nc := v.nc + 1 }, { u with ow := o1, ps := ps, vt := u.vt ++ [.bytes #[109] t0], nt := u.nt + 1 }, true, true, st, n + 1, T4, F4, N4, B4, D4, ⟨(nx "loaded" (by decide)).trans nL2, (nx "marked" (by decide)).trans nM2, (nx "sticky" (by decide)).trans nS2, (nx "asked" (by decide)).trans nA2, (nx "told" (by decide)).trans nT2⟩, G4, ⟨Y.ma, Y.mt.push, Y.el, (by rw [List.length_append, List.length_append]; exact congrArg (· + 1) Y.ec)⟩, ⟨rfl, rfl⟩, by omega⟩)
end Mine
end
section
local macro_rules | `(tactic| walk_at "no such line") => `(tactic| fail)
open PySem PySem.W PyProof.Rows PySem.Calls
set_option Elab.async false
set_option maxRecDepth 100000
namespace Mine

theorem mod_res {prog : Program} {w : World} {A : Around} {E : Value → Shared → Prop} {s : Shared} {a b r : Int} {t t' : Tok} {Q : Value → Shared → Prop} (h : Int.fmod a b = r) (hb : b ≠ 0) (hQ : Q (.int r s.toks) { s with toks := s.toks + 1 }) :
    wpAny (model prog w) A (binaryOp .Mod (.int a t) (.int b t')) Q E s := by
  refine mod_int hb ?_
  rw [h]; exact hQ
section
variable {prog : Program} {w : World} {A : Around} {E : Value → Shared → Prop} {s : Shared} {h₀ : Heap} {L : Addr} {m : Str → Option Value} {news : List (Addr × Obj)} {v : V} {u : U} {b : Bool} {k : Int} {t : Tok} {Q : Unit → Shared → Prop}
theorem set_fl0 (F : Fr h₀ L s.heap m) (N : News h₀ L s.heap news) (D : Led news v u) (hk : k = 0) (h : ∀ h', Fr h₀ L h' m → News h₀ L h' (put v.fl (PySem.W.listOf #[.bool b, .bool v.f1] v.nf) news) → Q () { s with heap := h' }) :
    wpAny (model prog w) A (setItem (.ref v.fl) (.int k t) (.bool b)) Q E s := by
  subst hk
  exact kbo_set (vs := [.bool v.f0, .bool v.f1]) (bs := [v.f0, v.f1]) (n := v.nf) F N (D.uS _) (.cons _ (.cons _ .nil)) (by decide) (by show (0 : Int) < 2; decide) (by decide) fun h' F' N' _ _ => h h' F' N'
theorem set_fl1 (F : Fr h₀ L s.heap m) (N : News h₀ L s.heap news) (D : Led news v u) (hk : k = 1) (h : ∀ h', Fr h₀ L h' m → News h₀ L h' (put v.fl (PySem.W.listOf #[.bool v.f0, .bool b] v.nf) news) → Q () { s with heap := h' }) :
    wpAny (model prog w) A (setItem (.ref v.fl) (.int k t) (.bool b)) Q E s := by
  subst hk
  exact kbo_set (vs := [.bool v.f0, .bool v.f1]) (bs := [v.f0, v.f1]) (n := v.nf) F N (D.uS _) (.cons _ (.cons _ .nil)) (by decide) (by show (1 : Int) < 2; decide) (by decide) fun h' F' N' _ _ => h h' F' N'
end
section
variable {news : List (Addr × Obj)} {v : V} {u : U} {ld mk st : Bool} {n : Nat} {o : Obj} {ps : Array Value}
theorem St.pushTP (G : St news v { u with ps := ps } ld mk st n) (b : Value) : St (put u.lt (PySem.W.listOf (u.vt.toArray.push b) (u.nt + 1)) news) v { u with ps := ps, vt := u.vt ++ [b], nt := u.nt + 1 } ld mk st n := G.pushT b
theorem St.J (G : St news v u ld mk st n) : Jars news v := G.D.jars G.S
theorem St.mcoW (G : St news v { u with ow := o } ld mk st n) : (u.co, u.oo) ∈ news := G.D.mco
theorem St.mckW (G : St news v { u with ow := o } ld mk st n) : (u.ck, u.ok) ∈ news := G.D.mck
theorem St.mcwW (G : St news v { u with ow := o } ld mk st n) : (u.cw, o) ∈ news := G.D.mW
theorem St.mltP (G : St news v { u with ps := ps } ld mk st n) : (u.lt, PySem.W.listOf u.vt.toArray u.nt) ∈ news := G.D.mlt
theorem St.uTP {o' : Obj} (G : St news v { u with ps := ps } ld mk st n) : Upd u.lt (PySem.W.listOf u.vt.toArray u.nt) o' news (put u.lt o' news) := G.D.uT o'
end
theorem End.mk' {A₀ : Around} {base h₀' h' : Heap} {outer : List Env} {g₀ : Heap} {L : Addr} {v v' : V} {u u' : U} {n n' : Nat} {m' : Str → Option Value} {news' : List (Addr × Obj)} {ld mk st : Bool} (T : KtsTurn (frs outer) g₀ h₀') (F : Fr h₀' L h' m') (N : News h₀' L h' news')
    (B : Below A₀ base outer h₀') (D : KtsDicts (frs outer) h₀') (G : St news' v' u' ld mk st n') (nL : m' "loaded" = some (.bool ld)) (nM : m' "marked" = some (.bool mk)) (nS : m' "sticky" = some (.bool st)) (nA : m' "asked" = some (.ref u'.la)) (nT : m' "told" = some (.ref u'.lt))
    (Y : Same v' u') (hc : lawCl v' u' = lawCl v u ∧ u'.rest = u.rest) (hn : n' ≤ n + 2) : End A₀ base outer g₀ L v u n h' := ⟨h₀', m', news', v', u', ld, mk, st, n', T, F, N, B, D, ⟨nL, nM, nS, nA, nT⟩, G, Y, hc, hn⟩

local macro_rules | `(tactic| walk_at "ite") => `(tactic| first | with_reducible refine ite_pos (by decide) ?_ | with_reducible refine ite_neg (by decide) ?_)
local macro_rules | `(tactic| k_room) => `(tactic| ((try simp only [depth_mark, depth_under_make, depth_under_kw, depth_in1, depth_deeper, depth_caller]); (try dsimp only [top]); omega))
local macro_rules | `(tactic| k_units) => `(tactic| ((try simp only [units_in1, units_deeper, Around.mark_units, units_caller]); (try dsimp only [top]); (have hcL9 := cLine_is); omega))
local macro_rules | `(tactic| k_handed) => `(tactic| assumption)
local macro_rules | `(tactic| k_upd) => `(tactic| assumption)
local macro_rules | `(tactic| k_mem) => `(tactic| first | (refine' Jars.x' ?J ?h; (case J => first | assumption | apply_assumption); (case h => exact rfl)) | (refine' Jars.dx' ?J ?h; (case J => first | assumption | apply_assumption); (case h => exact rfl)) | (refine' Jars.y' ?J ?h; (case J => first | assumption | apply_assumption); (case h => exact rfl)) | (refine' Jars.dy' ?J ?h; (case J => first | assumption | apply_assumption); (case h => exact rfl)) | (refine' Jars.ll' ?J ?h; (case J => first | assumption | apply_assumption); (case h => exact rfl)) | (refine' Jars.lc' ?J ?h; (case J => first | assumption | apply_assumption); (case h => exact rfl)) | (refine' Jars.fs' ?J ?h; (case J => first | assumption | apply_assumption); (case h => exact rfl)) | (refine' Jars.fr' ?J ?h; (case J => first | assumption | apply_assumption); (case h => exact rfl)) | (refine' Jars.cf' ?J ?h; (case J => first | assumption | apply_assumption); (case h => exact rfl)) | (refine' Jars.cj' ?J ?h; (case J => first | assumption | apply_assumption); (case h => exact rfl)) | (refine' Jars.fl' ?J ?h; (case J => first | assumption | apply_assumption); (case h => exact rfl)) | (refine' Jars.cs' ?J ?h; (case J => first | assumption | apply_assumption); (case h => exact rfl)) | (refine' Jars.cr' ?J ?h; (case J => first | assumption | apply_assumption); (case h => exact rfl)))
local macro_rules | `(tactic| size_fits) => `(tactic| (simp only [List.size_toArray, PySem.sizeLine_eq]; omega))

local macro_rules | `(tactic| walk_at "eval Name") => `(tactic| (k_here; k_dflt (refine' nameX_F ?N ?c ?m ?d ?_ ?a ?b; (case a => rfl); (case b => rfl); (case N => k_asm); (case c => rfl); (case m => k_mem); (case d => k_asm); k_whole)))
local macro_rules | `(tactic| ktr_room) => `(tactic| ((try simp only [depth_mark, depth_under_make, depth_under_kw, depth_in1, depth_deeper, depth_caller, units_in1, units_deeper, Around.mark_units, units_caller]); (try dsimp only [top]); first | omega | (have hcL9 := cLine_is; omega) | decide))
local macro_rules | `(tactic| ktr_enter) => `(tactic| (refine' enterT ?B ?D ?T0 ?F ?N ?XB ?TB ?kA ?kF ?kK ?ho ?hcd ?hroom ?hbind ?hloc ?_ ?c1 ?c2 ?c3 ?c4; (case kA => exact rfl); (case kF => exact rfl); (case kK => first | assumption | exact rfl); (case B => k_asm); (case D => k_asm); (case T0 => first | assumption | exact KtsTurn.refl); (case F => k_asm); (case N => k_asm); (case XB => k_asm); (case TB => k_asm); (case ho => k_is); (case hcd => k_is); (case hroom => k_room); (case hbind => first | exact BindsTo.of_eq rfl | exact binds_K (by k_in) rfl (by k_is) rfl rfl rfl); (case hloc => exact locs rfl); (case c1 => exact rfl); (case c2 => exact rfl); (case c3 => exact rfl); (case c4 => decide); k_whole; intro g' L' h' FG' F' N' B' D' X' T'; (try dsimp only); (try k_fold)))
local macro_rules | `(tactic| kla_enter) => `(tactic| (refine' enterTL ?B ?D ?T0 ?F ?N ?XB ?TB ?kA ?kF ?kK ?ho ?hcd ?hroom ?hbind ?hloc ?_ ?c1 ?c2 ?c3 ?c4; (case kA => exact rfl); (case kF => exact rfl); (case kK => first | assumption | exact rfl); (case B => k_asm); (case D => k_asm); (case T0 => first | assumption | exact KtsTurn.refl); (case F => k_asm); (case N => k_asm); (case XB => k_asm); (case TB => k_asm); (case ho => k_mem); (case hcd => first | exact jars_codeS (by k_asm) (by k_asm) | exact jars_codeR (by k_asm) (by k_asm)); (case hroom => k_room); (case hbind => exact rfl); (case hloc => exact locs rfl); (case c1 => exact rfl); (case c2 => exact rfl); (case c3 => exact rfl); (case c4 => decide); k_whole; intro g' L' h' FG' F' N' B' D' X' T'; (try dsimp only); (try k_fold)))
local macro_rules | `(tactic| walk_at "LeaveT") => `(tactic| (k_dflt (refine' leaveT_ ?F ?N ?T ?_; (case F => k_asm); (case N => k_asm); (case T => first | assumption | exact KtsTurn.refl); k_whole); intro h₀' T' F' N' B' D'; (try dsimp only)))
local macro_rules | `(tactic| walk_at "subscriptTail Name Constant ref int") => `(tactic| ((with_reducible show wpAny _ _ (subscriptTail _ _ (Value.ref _) (Value.int _ _)) _ _ _); k_dflt (refine' item_fl ?N ?m ?a ?b ?x ?_; (case N => k_asm); (case m => k_mem); (case a => decide); (case b => decide); (case x => rfl); k_whole)))
local macro_rules | `(tactic| walk_at "callWith ref") => `(tactic| (k_here; (show wpAny _ _ (callWith _ (Value.ref (V.fr _)) _ _ _) _ _ _); k_dflt (first
  | (refine' callWith_F ?k1 ?_; (case k1 => exact FnAt.of (by k_asm) (by k_mem)); k_whole)
  | (refine' callWith_F0 ?k1 ?_; (case k1 => exact FnAt.of (by k_asm) (by k_mem)); k_whole; try dsimp only [List.nil_append, List.cons_append]))))
local macro_rules | `(tactic| walk_at "callWith ref") => `(tactic| (k_here; (show wpAny _ _ (callWith _ (Value.ref (V.fs _)) _ _ _) _ _ _); k_dflt (first
  | (refine' callWith_F ?k1 ?_; (case k1 => exact FnAt.of (by k_asm) (by k_mem)); k_whole)
  | (refine' callWith_F0 ?k1 ?_; (case k1 => exact FnAt.of (by k_asm) (by k_mem)); k_whole; try dsimp only [List.nil_append, List.cons_append]))))
local macro_rules | `(tactic| walk_at "getMethod ref") => `(tactic| (k_here; k_dflt (refine' method_shadow ?k1 ?k2 ?k3 ?k4 ?k5 ?k6 ?k7 ?k8 ?k9 ?k10 ?k11 ?_; (case k1 => k_asm); (case k2 => k_asm); (case k3 => k_inst); (case k4 => k_is); (case k5 => k_is); (case k6 => k_is); (case k7 => k_is); (case k8 => k_is); (case k9 => k_is); (case k10 => k_get); (case k11 => first | rfl | k_handed); k_whole)))
local macro_rules | `(tactic| walk_at "leaving ref") => `(tactic| (k_here; first
  | (with_reducible rename RaisedSN _ _ _ _ _ _ _ => rsX; k_dflt (refine' passX ?f ?K ?F ?R ?U ?_; (case R => exact rsX); (case f => exact rfl); (case K => k_asm); (case F => k_asm); (case U => k_asm); k_whole); clear rsX; intro h' R' U'; (try dsimp only at R' U' ⊢); (try k_unfold); (try dsimp only); (try (with_reducible rename RaisedSN _ _ _ _ _ _ _ => rsX; with_reducible rename Heap.UpToSlots _ _ => rsU; (show wpAny _ _ _ _ _ _); k_dflt (refine' exc_of rfl ?FG ?B ?D ?T0 ?T rsX rsU ?_; (case T => assumption); (case FG => k_asm); (case B => k_asm); (case D => k_asm); (case T0 => first | assumption | exact KtsTurn.refl); k_whole); clear rsX rsU; intro h₀' g' T' FG' B' D' R' U'; (try dsimp only))))
  | (k_dflt (refine' leave_raiseS ?k1 ?k0 ?k2 ?k3 ?_; (case k0 => first | assumption | exact Heap.MadeExc.of (by assumption)); (case k2 => assumption); (case k1 => assumption); (case k3 => k_asm); k_whole); intro h' t' S' R' U'; (try dsimp only at S' R' U' ⊢); (replace S' := toSN S'); clear R')))

local macro_rules | `(tactic| k_mem) => `(tactic| assumption)
local macro_rules | `(tactic| walk_at "eval Name") => `(tactic| (k_here; k_dflt (refine' nameX_C ?N ?c ?m ?d ?_ ?a ?b; (case a => rfl); (case b => rfl); (case N => k_asm); (case c => rfl); (case m => k_mem); (case d => k_asm); k_whole)))
local macro_rules | `(tactic| walk_at "eval Name") => `(tactic| (k_here; k_dflt (refine' nameX_L ?F ?hv ?_ ?a ?b; (case a => rfl); (case b => rfl); (case F => k_asm); (case hv => ((repeat refine (if_neg (by decide)).trans ?_); first | exact if_pos rfl | assumption)); k_whole)))
local macro_rules | `(tactic| walk_at "compareOp NotEq ref ref") => `(tactic| (k_here; k_dflt (refine' ne_marks ?l1 ?l2 ?m1 ?m2 ?e ?u ?_; (case l1 => exact isList_of (by k_asm) (by assumption)); (case l2 => exact isList_of (by k_asm) (by assumption)); (case m1 => assumption); (case m2 => assumption); (case e => assumption); (case u => ktr_room); k_whole)))

local macro_rules | `(tactic| walk_at "callWith ref") => `(tactic| (k_here; k_dflt (first | (refine' callWith_K ?k1 ?k2 ?_; (case k1 => k_asm); (case k2 => k_is); k_whole) | (refine' callWith_K0 ?k1 ?k2 ?_; (case k1 => k_in); (case k2 => k_is); k_whole))))

local macro_rules | `(tactic| walk_at "setItem ref int") => `(tactic| (k_here; k_dflt (first | (refine' set_fl0 ?F ?N ?D ?k ?_; (case D => assumption); (case k => decide); (case F => k_asm); (case N => k_asm); k_whole) | (refine' set_fl1 ?F ?N ?D ?k ?_; (case D => assumption); (case k => decide); (case F => k_asm); (case N => k_asm); k_whole)); intro h' F' N'))
local macro_rules | `(tactic| walk_at "subscriptTail") => `(tactic| (k_here; k_dflt (show wpAny _ _ (subscriptTail _ _ (Value.ref (V.fl _)) (Value.int _ _)) _ _ _); k_dflt (refine' item_fl ?N ?m ?a ?b ?x ?_; (case N => k_asm); (case m => k_mem); (case a => decide); (case b => decide); (case x => exact rfl); k_whole)))
local macro_rules | `(tactic| walk_at "binaryOp Mod int int") => `(tactic| (k_here; k_dflt (refine' mod_res ?h ?b ?_; (case h => assumption); (case b => decide); k_whole)))
local macro_rules | `(tactic| k_mem) => `(tactic| first | assumption | (refine' Led.mfl ?J; (case J => first | assumption | exact St.D (by assumption))) | (refine' Led.mcf ?J; (case J => first | assumption | exact St.D (by assumption))))
section
local macro_rules | `(tactic| walk_at "execs cons") => `(tactic| (k_here; k_dflt (first
  | (refine' bodyA_g0 ?eT ?XB ?TB ?CB ?B ?D ?T0 ?F ?N ?hdp ?hun ?hn ?G ?K ?Y ?nQ ?nD ?hkd ?h0 ?_; (case G => assumption); (case h0 => assumption); (case hkd => assumption); (case eT => rfl); (case B => k_asm); (case D => k_asm); (case T0 => first | assumption | exact KtsTurn.refl); (case F => k_asm); (case N => k_asm); (case XB => k_asm); (case TB => k_asm); (case CB => assumption); (case hdp => assumption); (case hun => assumption); (case hn => assumption); (case K => exact ⟨by assumption, by assumption, by assumption, by assumption, by assumption⟩); (case Y => assumption); (case nQ => assumption); (case nD => assumption); k_whole)
  | (refine' bodyA_g1 ?eT ?XB ?TB ?CB ?B ?D ?T0 ?F ?N ?hdp ?hun ?hn ?G ?K ?Y ?nQ ?nD ?hkd ?h0 ?h1 ?_; (case G => assumption); (case h0 => assumption); (case h1 => assumption); (case hkd => assumption); (case eT => rfl); (case B => k_asm); (case D => k_asm); (case T0 => first | assumption | exact KtsTurn.refl); (case F => k_asm); (case N => k_asm); (case XB => k_asm); (case TB => k_asm); (case CB => assumption); (case hdp => assumption); (case hun => assumption); (case hn => assumption); (case K => exact ⟨by assumption, by assumption, by assumption, by assumption, by assumption⟩); (case Y => assumption); (case nQ => assumption); (case nD => assumption); k_whole)
  | (refine' bodyA_g2 ?eT ?XB ?TB ?CB ?B ?D ?T0 ?F ?N ?hdp ?hun ?hn ?G ?K ?Y ?nQ ?nD ?hkd ?h0 ?h1 ?_; (case G => assumption); (case h0 => assumption); (case h1 => assumption); (case hkd => assumption); (case eT => rfl); (case B => k_asm); (case D => k_asm); (case T0 => first | assumption | exact KtsTurn.refl); (case F => k_asm); (case N => k_asm); (case XB => k_asm); (case TB => k_asm); (case CB => assumption); (case hdp => assumption); (case hun => assumption); (case hn => assumption); (case K => exact ⟨by assumption, by assumption, by assumption, by assumption, by assumption⟩); (case Y => assumption); (case nQ => assumption); (case nD => assumption); k_whole)
  | (refine' bodyA_l0m ?eT ?XB ?TB ?CB ?B ?D ?T0 ?F ?N ?hdp ?hun ?hn ?G ?K ?Y ?nQ ?nD ?hkd  ?_; (case G => assumption);  (case hkd => assumption); (case eT => rfl); (case B => k_asm); (case D => k_asm); (case T0 => first | assumption | exact KtsTurn.refl); (case F => k_asm); (case N => k_asm); (case XB => k_asm); (case TB => k_asm); (case CB => assumption); (case hdp => assumption); (case hun => assumption); (case hn => assumption); (case K => exact ⟨by assumption, by assumption, by assumption, by assumption, by assumption⟩); (case Y => assumption); (case nQ => assumption); (case nD => assumption); k_whole)
  | (refine' bodyA_l0n ?eT ?XB ?TB ?CB ?B ?D ?T0 ?F ?N ?hdp ?hun ?hn ?G ?K ?Y ?nQ ?nD ?hkd ?h0 ?_; (case G => assumption); (case h0 => assumption); (case hkd => assumption); (case eT => rfl); (case B => k_asm); (case D => k_asm); (case T0 => first | assumption | exact KtsTurn.refl); (case F => k_asm); (case N => k_asm); (case XB => k_asm); (case TB => k_asm); (case CB => assumption); (case hdp => assumption); (case hun => assumption); (case hn => assumption); (case K => exact ⟨by assumption, by assumption, by assumption, by assumption, by assumption⟩); (case Y => assumption); (case nQ => assumption); (case nD => assumption); k_whole)
  | (refine' bodyA_l0y ?eT ?XB ?TB ?CB ?B ?D ?T0 ?F ?N ?hdp ?hun ?hn ?G ?K ?Y ?nQ ?nD ?hkd ?h0 ?_; (case G => assumption); (case h0 => assumption); (case hkd => assumption); (case eT => rfl); (case B => k_asm); (case D => k_asm); (case T0 => first | assumption | exact KtsTurn.refl); (case F => k_asm); (case N => k_asm); (case XB => k_asm); (case TB => k_asm); (case CB => assumption); (case hdp => assumption); (case hun => assumption); (case hn => assumption); (case K => exact ⟨by assumption, by assumption, by assumption, by assumption, by assumption⟩); (case Y => assumption); (case nQ => assumption); (case nD => assumption); k_whole)
  | (refine' bodyA_l7m ?eT ?XB ?TB ?CB ?B ?D ?T0 ?F ?N ?hdp ?hun ?hn ?G ?K ?Y ?nQ ?nD ?hkd  ?_; (case G => assumption);  (case hkd => assumption); (case eT => rfl); (case B => k_asm); (case D => k_asm); (case T0 => first | assumption | exact KtsTurn.refl); (case F => k_asm); (case N => k_asm); (case XB => k_asm); (case TB => k_asm); (case CB => assumption); (case hdp => assumption); (case hun => assumption); (case hn => assumption); (case K => exact ⟨by assumption, by assumption, by assumption, by assumption, by assumption⟩); (case Y => assumption); (case nQ => assumption); (case nD => assumption); k_whole)
  | (refine' bodyA_l7n ?eT ?XB ?TB ?CB ?B ?D ?T0 ?F ?N ?hdp ?hun ?hn ?G ?K ?Y ?nQ ?nD ?hkd ?h0 ?_; (case G => assumption); (case h0 => assumption); (case hkd => assumption); (case eT => rfl); (case B => k_asm); (case D => k_asm); (case T0 => first | assumption | exact KtsTurn.refl); (case F => k_asm); (case N => k_asm); (case XB => k_asm); (case TB => k_asm); (case CB => assumption); (case hdp => assumption); (case hun => assumption); (case hn => assumption); (case K => exact ⟨by assumption, by assumption, by assumption, by assumption, by assumption⟩); (case Y => assumption); (case nQ => assumption); (case nD => assumption); k_whole)
  | (refine' bodyA_l7y ?eT ?XB ?TB ?CB ?B ?D ?T0 ?F ?N ?hdp ?hun ?hn ?G ?K ?Y ?nQ ?nD ?hkd ?h0 ?_; (case G => assumption); (case h0 => assumption); (case hkd => assumption); (case eT => rfl); (case B => k_asm); (case D => k_asm); (case T0 => first | assumption | exact KtsTurn.refl); (case F => k_asm); (case N => k_asm); (case XB => k_asm); (case TB => k_asm); (case CB => assumption); (case hdp => assumption); (case hun => assumption); (case hn => assumption); (case K => exact ⟨by assumption, by assumption, by assumption, by assumption, by assumption⟩); (case Y => assumption); (case nQ => assumption); (case nD => assumption); k_whole)); intro h' tk' hE'; (try dsimp only)))

set_option maxHeartbeats 8000000 in
theorem if0_g0 {w : World} {loose : List Str} {mean : ExcName → Option Value} {mg mb : Str → Option Value} {dp un : Nat} {gd : Option (List Code)} {a : Addr} {outer : List Env} {A₀ : Around} {base h₀ g₀ : Heap} {L : Addr} {m : Str → Option Value}
    {news : List (Addr × Obj)} {s : Shared} {Q : Flow → Shared → Prop} {E : Value → Shared → Prop} {v : V} {u : U} {n : Nat} {S0 : Stmt} {td0 : Tok} {tk0 : Tok} {q : Int} {tq : Tok}
    (eS0 : S0 = nthS 3 loopB) (XB : (Mine.hd.heap_39 w.params).In base) (TB : Top topProg loose mean mg mb base) (CB : CodeHd base 352 348) (B : Below A₀ base outer h₀) (D : KtsDicts (frs outer) h₀) (T0 : KtsTurn (frs outer) g₀ h₀) (F : Fr h₀ L s.heap m) (N : News h₀ L s.heap news) (hdp : dp + 100 < recursionLimit) (hun : un + 500 < cLine) (hn : n ≤ 90) (G : St news v u false false false n) (nL : m "loaded" = some (.bool false)) (nM : m "marked" = some (.bool false)) (nS : m "sticky" = some (.bool false)) (nA : m "asked" = some (.ref u.la)) (nT : m "told" = some (.ref u.lt)) (Y : Same v u) (hkd : u.ok.data = .cell (some (.int 0 tk0))) (nQ : m "more" = some (.int q tq)) (nD : m "due" = some (.str "done" td0)) (hf0 : v.f0 = true)
    (ret : ∀ h' tk', End A₀ base outer g₀ L v u n h' → Q .next { s with heap := h', toks := tk' }) :
    wpAny (model PySem.Challenge.rw_am6027_01.row.prog w) (top none dp un gd "law" lawS L a (.ref 352) (lawCl v u) outer) (exec S0 (envX "law" lawS L a (.ref 352) (lawCl v u))) Q E s := by
  w_top off
  w_strict (
    revert XB
    k_fill
    intro XB
    have X := XB.keeps B.stays
    have T := TB.keeps B.stays
    have J := G.D.jars G.S
    have dcf := G.S.ocf
    have dcj := G.S.ocj
    have hoo := G.S.oo
    have mco : (u.co, u.oo) ∈ news := G.has (by simp [rows])
    have mck : (u.ck, u.ok) ∈ news := G.has (by simp [rows])
    have mcw : (u.cw, u.ow) ∈ news := G.has (by simp [rows])
    have mla : (u.la, PySem.W.listOf u.va.toArray u.na) ∈ news := G.has (by simp [rows])
    have mlt : (u.lt, PySem.W.listOf u.vt.toArray u.nt) ∈ news := G.has (by simp [rows])
    have mll : (v.ll, PySem.W.listOf v.vl.toArray v.nl) ∈ news := G.has (by simp [rows])
    have mlc : (v.lc, PySem.W.listOf v.vc.toArray v.nc) ∈ news := G.has (by simp [rows])
    subst eS0
    have DD := G.D
    have eS := Eq.refl lawS
    conv at eS => rhs; whnf
    have e0 := Eq.refl (nthS 3 loopB)
    conv at e0 => rhs; whnf
    rw [eS, e0]
    clear eS e0
    k_steps
    exact ret _ _ (by assumption))

set_option maxHeartbeats 8000000 in
theorem if0_g1 {w : World} {loose : List Str} {mean : ExcName → Option Value} {mg mb : Str → Option Value} {dp un : Nat} {gd : Option (List Code)} {a : Addr} {outer : List Env} {A₀ : Around} {base h₀ g₀ : Heap} {L : Addr} {m : Str → Option Value}
    {news : List (Addr × Obj)} {s : Shared} {Q : Flow → Shared → Prop} {E : Value → Shared → Prop} {v : V} {u : U} {n : Nat} {S0 : Stmt} {td0 : Tok} {tk0 : Tok} {q : Int} {tq : Tok}
    (eS0 : S0 = nthS 3 loopB) (XB : (Mine.hd.heap_39 w.params).In base) (TB : Top topProg loose mean mg mb base) (CB : CodeHd base 352 348) (B : Below A₀ base outer h₀) (D : KtsDicts (frs outer) h₀) (T0 : KtsTurn (frs outer) g₀ h₀) (F : Fr h₀ L s.heap m) (N : News h₀ L s.heap news) (hdp : dp + 100 < recursionLimit) (hun : un + 500 < cLine) (hn : n ≤ 90) (G : St news v u false false false n) (nL : m "loaded" = some (.bool false)) (nM : m "marked" = some (.bool false)) (nS : m "sticky" = some (.bool false)) (nA : m "asked" = some (.ref u.la)) (nT : m "told" = some (.ref u.lt)) (Y : Same v u) (hkd : u.ok.data = .cell (some (.int 0 tk0))) (nQ : m "more" = some (.int q tq)) (nD : m "due" = some (.str "done" td0)) (hf0 : v.f0 = false) (hf1 : v.f1 = true)
    (ret : ∀ h' tk', End A₀ base outer g₀ L v u n h' → Q .next { s with heap := h', toks := tk' }) :
    wpAny (model PySem.Challenge.rw_am6027_01.row.prog w) (top none dp un gd "law" lawS L a (.ref 352) (lawCl v u) outer) (exec S0 (envX "law" lawS L a (.ref 352) (lawCl v u))) Q E s := by
  w_top off
  w_strict (
    revert XB
    k_fill
    intro XB
    have X := XB.keeps B.stays
    have T := TB.keeps B.stays
    have J := G.D.jars G.S
    have dcf := G.S.ocf
    have dcj := G.S.ocj
    have hoo := G.S.oo
    have mco : (u.co, u.oo) ∈ news := G.has (by simp [rows])
    have mck : (u.ck, u.ok) ∈ news := G.has (by simp [rows])
    have mcw : (u.cw, u.ow) ∈ news := G.has (by simp [rows])
    have mla : (u.la, PySem.W.listOf u.va.toArray u.na) ∈ news := G.has (by simp [rows])
    have mlt : (u.lt, PySem.W.listOf u.vt.toArray u.nt) ∈ news := G.has (by simp [rows])
    have mll : (v.ll, PySem.W.listOf v.vl.toArray v.nl) ∈ news := G.has (by simp [rows])
    have mlc : (v.lc, PySem.W.listOf v.vc.toArray v.nc) ∈ news := G.has (by simp [rows])
    subst eS0
    have DD := G.D
    have eS := Eq.refl lawS
    conv at eS => rhs; whnf
    have e0 := Eq.refl (nthS 3 loopB)
    conv at e0 => rhs; whnf
    rw [eS, e0]
    clear eS e0
    k_steps
    exact ret _ _ (by assumption))

set_option maxHeartbeats 8000000 in
theorem if0_g2 {w : World} {loose : List Str} {mean : ExcName → Option Value} {mg mb : Str → Option Value} {dp un : Nat} {gd : Option (List Code)} {a : Addr} {outer : List Env} {A₀ : Around} {base h₀ g₀ : Heap} {L : Addr} {m : Str → Option Value}
    {news : List (Addr × Obj)} {s : Shared} {Q : Flow → Shared → Prop} {E : Value → Shared → Prop} {v : V} {u : U} {n : Nat} {S0 : Stmt} {td0 : Tok} {tk0 : Tok} {q : Int} {tq : Tok}
    (eS0 : S0 = nthS 3 loopB) (XB : (Mine.hd.heap_39 w.params).In base) (TB : Top topProg loose mean mg mb base) (CB : CodeHd base 352 348) (B : Below A₀ base outer h₀) (D : KtsDicts (frs outer) h₀) (T0 : KtsTurn (frs outer) g₀ h₀) (F : Fr h₀ L s.heap m) (N : News h₀ L s.heap news) (hdp : dp + 100 < recursionLimit) (hun : un + 500 < cLine) (hn : n ≤ 90) (G : St news v u false false false n) (nL : m "loaded" = some (.bool false)) (nM : m "marked" = some (.bool false)) (nS : m "sticky" = some (.bool false)) (nA : m "asked" = some (.ref u.la)) (nT : m "told" = some (.ref u.lt)) (Y : Same v u) (hkd : u.ok.data = .cell (some (.int 0 tk0))) (nQ : m "more" = some (.int q tq)) (nD : m "due" = some (.str "done" td0)) (hf0 : v.f0 = false) (hf1 : v.f1 = false)
    (ret : ∀ h' tk', End A₀ base outer g₀ L v u n h' → Q .next { s with heap := h', toks := tk' }) :
    wpAny (model PySem.Challenge.rw_am6027_01.row.prog w) (top none dp un gd "law" lawS L a (.ref 352) (lawCl v u) outer) (exec S0 (envX "law" lawS L a (.ref 352) (lawCl v u))) Q E s := by
  w_top off
  w_strict (
    revert XB
    k_fill
    intro XB
    have X := XB.keeps B.stays
    have T := TB.keeps B.stays
    have J := G.D.jars G.S
    have dcf := G.S.ocf
    have dcj := G.S.ocj
    have hoo := G.S.oo
    have mco : (u.co, u.oo) ∈ news := G.has (by simp [rows])
    have mck : (u.ck, u.ok) ∈ news := G.has (by simp [rows])
    have mcw : (u.cw, u.ow) ∈ news := G.has (by simp [rows])
    have mla : (u.la, PySem.W.listOf u.va.toArray u.na) ∈ news := G.has (by simp [rows])
    have mlt : (u.lt, PySem.W.listOf u.vt.toArray u.nt) ∈ news := G.has (by simp [rows])
    have mll : (v.ll, PySem.W.listOf v.vl.toArray v.nl) ∈ news := G.has (by simp [rows])
    have mlc : (v.lc, PySem.W.listOf v.vc.toArray v.nc) ∈ news := G.has (by simp [rows])
    subst eS0
    have DD := G.D
    have eS := Eq.refl lawS
    conv at eS => rhs; whnf
    have e0 := Eq.refl (nthS 3 loopB)
    conv at e0 => rhs; whnf
    rw [eS, e0]
    clear eS e0
    k_steps
    exact ret _ _ (by assumption))

set_option maxHeartbeats 8000000 in
theorem if0_l0m {w : World} {loose : List Str} {mean : ExcName → Option Value} {mg mb : Str → Option Value} {dp un : Nat} {gd : Option (List Code)} {a : Addr} {outer : List Env} {A₀ : Around} {base h₀ g₀ : Heap} {L : Addr} {m : Str → Option Value}
    {news : List (Addr × Obj)} {s : Shared} {Q : Flow → Shared → Prop} {E : Value → Shared → Prop} {v : V} {u : U} {n : Nat} {S0 : Stmt} {td0 : Tok} {st : Bool} {tk0 : Tok} {q : Int} {tq : Tok}
    (eS0 : S0 = nthS 3 loopB) (XB : (Mine.hd.heap_39 w.params).In base) (TB : Top topProg loose mean mg mb base) (CB : CodeHd base 352 348) (B : Below A₀ base outer h₀) (D : KtsDicts (frs outer) h₀) (T0 : KtsTurn (frs outer) g₀ h₀) (F : Fr h₀ L s.heap m) (N : News h₀ L s.heap news) (hdp : dp + 100 < recursionLimit) (hun : un + 500 < cLine) (hn : n ≤ 90) (G : St news v u true true st n) (nL : m "loaded" = some (.bool true)) (nM : m "marked" = some (.bool true)) (nS : m "sticky" = some (.bool st)) (nA : m "asked" = some (.ref u.la)) (nT : m "told" = some (.ref u.lt)) (Y : Same v u) (hkd : u.ok.data = .cell (some (.int 0 tk0))) (nQ : m "more" = some (.int q tq)) (nD : m "due" = some (.str "done" td0)) 
    (ret : ∀ h' tk', End A₀ base outer g₀ L v u n h' → Q .next { s with heap := h', toks := tk' }) :
    wpAny (model PySem.Challenge.rw_am6027_01.row.prog w) (top none dp un gd "law" lawS L a (.ref 352) (lawCl v u) outer) (exec S0 (envX "law" lawS L a (.ref 352) (lawCl v u))) Q E s := by
  w_top off
  w_strict (
    revert XB
    k_fill
    intro XB
    have X := XB.keeps B.stays
    have T := TB.keeps B.stays
    have J := G.D.jars G.S
    have dcf := G.S.ocf
    have dcj := G.S.ocj
    have hoo := G.S.oo
    have mco : (u.co, u.oo) ∈ news := G.has (by simp [rows])
    have mck : (u.ck, u.ok) ∈ news := G.has (by simp [rows])
    have mcw : (u.cw, u.ow) ∈ news := G.has (by simp [rows])
    have mla : (u.la, PySem.W.listOf u.va.toArray u.na) ∈ news := G.has (by simp [rows])
    have mlt : (u.lt, PySem.W.listOf u.vt.toArray u.nt) ∈ news := G.has (by simp [rows])
    have mll : (v.ll, PySem.W.listOf v.vl.toArray v.nl) ∈ news := G.has (by simp [rows])
    have mlc : (v.lc, PySem.W.listOf v.vc.toArray v.nc) ∈ news := G.has (by simp [rows])
    subst eS0
    have DD := G.D
    have eS := Eq.refl lawS
    conv at eS => rhs; whnf
    have e0 := Eq.refl (nthS 3 loopB)
    conv at e0 => rhs; whnf
    rw [eS, e0]
    clear eS e0
    k_steps
    exact ret _ _ (by assumption))

set_option maxHeartbeats 8000000 in
theorem if0_l0n {w : World} {loose : List Str} {mean : ExcName → Option Value} {mg mb : Str → Option Value} {dp un : Nat} {gd : Option (List Code)} {a : Addr} {outer : List Env} {A₀ : Around} {base h₀ g₀ : Heap} {L : Addr} {m : Str → Option Value}
    {news : List (Addr × Obj)} {s : Shared} {Q : Flow → Shared → Prop} {E : Value → Shared → Prop} {v : V} {u : U} {n : Nat} {S0 : Stmt} {td0 : Tok} {st : Bool} {tk0 : Tok} {q : Int} {tq : Tok}
    (eS0 : S0 = nthS 3 loopB) (XB : (Mine.hd.heap_39 w.params).In base) (TB : Top topProg loose mean mg mb base) (CB : CodeHd base 352 348) (B : Below A₀ base outer h₀) (D : KtsDicts (frs outer) h₀) (T0 : KtsTurn (frs outer) g₀ h₀) (F : Fr h₀ L s.heap m) (N : News h₀ L s.heap news) (hdp : dp + 100 < recursionLimit) (hun : un + 500 < cLine) (hn : n ≤ 90) (G : St news v u true false st n) (nL : m "loaded" = some (.bool true)) (nM : m "marked" = some (.bool false)) (nS : m "sticky" = some (.bool st)) (nA : m "asked" = some (.ref u.la)) (nT : m "told" = some (.ref u.lt)) (Y : Same v u) (hkd : u.ok.data = .cell (some (.int 0 tk0))) (nQ : m "more" = some (.int q tq)) (nD : m "due" = some (.str "done" td0)) (hf1 : v.f1 = true)
    (ret : ∀ h' tk', End A₀ base outer g₀ L v u n h' → Q .next { s with heap := h', toks := tk' }) :
    wpAny (model PySem.Challenge.rw_am6027_01.row.prog w) (top none dp un gd "law" lawS L a (.ref 352) (lawCl v u) outer) (exec S0 (envX "law" lawS L a (.ref 352) (lawCl v u))) Q E s := by
  w_top off
  w_strict (
    revert XB
    k_fill
    intro XB
    have X := XB.keeps B.stays
    have T := TB.keeps B.stays
    have J := G.D.jars G.S
    have dcf := G.S.ocf
    have dcj := G.S.ocj
    have hoo := G.S.oo
    have mco : (u.co, u.oo) ∈ news := G.has (by simp [rows])
    have mck : (u.ck, u.ok) ∈ news := G.has (by simp [rows])
    have mcw : (u.cw, u.ow) ∈ news := G.has (by simp [rows])
    have mla : (u.la, PySem.W.listOf u.va.toArray u.na) ∈ news := G.has (by simp [rows])
    have mlt : (u.lt, PySem.W.listOf u.vt.toArray u.nt) ∈ news := G.has (by simp [rows])
    have mll : (v.ll, PySem.W.listOf v.vl.toArray v.nl) ∈ news := G.has (by simp [rows])
    have mlc : (v.lc, PySem.W.listOf v.vc.toArray v.nc) ∈ news := G.has (by simp [rows])
    subst eS0
    have DD := G.D
    have eS := Eq.refl lawS
    conv at eS => rhs; whnf
    have e0 := Eq.refl (nthS 3 loopB)
    conv at e0 => rhs; whnf
    rw [eS, e0]
    clear eS e0
    k_steps
    exact ret _ _ (by assumption))

set_option maxHeartbeats 8000000 in
theorem if0_l0y {w : World} {loose : List Str} {mean : ExcName → Option Value} {mg mb : Str → Option Value} {dp un : Nat} {gd : Option (List Code)} {a : Addr} {outer : List Env} {A₀ : Around} {base h₀ g₀ : Heap} {L : Addr} {m : Str → Option Value}
    {news : List (Addr × Obj)} {s : Shared} {Q : Flow → Shared → Prop} {E : Value → Shared → Prop} {v : V} {u : U} {n : Nat} {S0 : Stmt} {td0 : Tok} {st : Bool} {tk0 : Tok} {q : Int} {tq : Tok}
    (eS0 : S0 = nthS 3 loopB) (XB : (Mine.hd.heap_39 w.params).In base) (TB : Top topProg loose mean mg mb base) (CB : CodeHd base 352 348) (B : Below A₀ base outer h₀) (D : KtsDicts (frs outer) h₀) (T0 : KtsTurn (frs outer) g₀ h₀) (F : Fr h₀ L s.heap m) (N : News h₀ L s.heap news) (hdp : dp + 100 < recursionLimit) (hun : un + 500 < cLine) (hn : n ≤ 90) (G : St news v u true false st n) (nL : m "loaded" = some (.bool true)) (nM : m "marked" = some (.bool false)) (nS : m "sticky" = some (.bool st)) (nA : m "asked" = some (.ref u.la)) (nT : m "told" = some (.ref u.lt)) (Y : Same v u) (hkd : u.ok.data = .cell (some (.int 0 tk0))) (nQ : m "more" = some (.int q tq)) (nD : m "due" = some (.str "done" td0)) (hf1 : v.f1 = false)
    (ret : ∀ h' tk', End A₀ base outer g₀ L v u n h' → Q .next { s with heap := h', toks := tk' }) :
    wpAny (model PySem.Challenge.rw_am6027_01.row.prog w) (top none dp un gd "law" lawS L a (.ref 352) (lawCl v u) outer) (exec S0 (envX "law" lawS L a (.ref 352) (lawCl v u))) Q E s := by
  w_top off
  w_strict (
    revert XB
    k_fill
    intro XB
    have X := XB.keeps B.stays
    have T := TB.keeps B.stays
    have J := G.D.jars G.S
    have dcf := G.S.ocf
    have dcj := G.S.ocj
    have hoo := G.S.oo
    have mco : (u.co, u.oo) ∈ news := G.has (by simp [rows])
    have mck : (u.ck, u.ok) ∈ news := G.has (by simp [rows])
    have mcw : (u.cw, u.ow) ∈ news := G.has (by simp [rows])
    have mla : (u.la, PySem.W.listOf u.va.toArray u.na) ∈ news := G.has (by simp [rows])
    have mlt : (u.lt, PySem.W.listOf u.vt.toArray u.nt) ∈ news := G.has (by simp [rows])
    have mll : (v.ll, PySem.W.listOf v.vl.toArray v.nl) ∈ news := G.has (by simp [rows])
    have mlc : (v.lc, PySem.W.listOf v.vc.toArray v.nc) ∈ news := G.has (by simp [rows])
    subst eS0
    have DD := G.D
    have eS := Eq.refl lawS
    conv at eS => rhs; whnf
    have e0 := Eq.refl (nthS 3 loopB)
    conv at e0 => rhs; whnf
    rw [eS, e0]
    clear eS e0
    k_steps
    exact ret _ _ (by assumption))

set_option maxHeartbeats 8000000 in
theorem if7_l7m {w : World} {loose : List Str} {mean : ExcName → Option Value} {mg mb : Str → Option Value} {dp un : Nat} {gd : Option (List Code)} {a : Addr} {outer : List Env} {A₀ : Around} {base h₀ g₀ : Heap} {L : Addr} {m : Str → Option Value}
    {news : List (Addr × Obj)} {s : Shared} {Q : Flow → Shared → Prop} {E : Value → Shared → Prop} {v : V} {u : U} {n : Nat} {S0 : Stmt} {td0 : Tok} {st : Bool} {tk0 : Tok} {q : Int} {tq : Tok}
    (eS0 : S0 = nthS 3 loopB) (XB : (Mine.hd.heap_39 w.params).In base) (TB : Top topProg loose mean mg mb base) (CB : CodeHd base 352 348) (B : Below A₀ base outer h₀) (D : KtsDicts (frs outer) h₀) (T0 : KtsTurn (frs outer) g₀ h₀) (F : Fr h₀ L s.heap m) (N : News h₀ L s.heap news) (hdp : dp + 100 < recursionLimit) (hun : un + 500 < cLine) (hn : n ≤ 90) (G : St news v u true true st n) (nL : m "loaded" = some (.bool true)) (nM : m "marked" = some (.bool true)) (nS : m "sticky" = some (.bool st)) (nA : m "asked" = some (.ref u.la)) (nT : m "told" = some (.ref u.lt)) (Y : Same v u) (hkd : u.ok.data = .cell (some (.int 7 tk0))) (nQ : m "more" = some (.int q tq)) (nD : m "due" = some (.str "done" td0)) (h3 : Int.fmod q 3 = 0) 
    (ret : ∀ h' tk', End A₀ base outer g₀ L v u n h' → Q .next { s with heap := h', toks := tk' }) :
    wpAny (model PySem.Challenge.rw_am6027_01.row.prog w) (top none dp un gd "law" lawS L a (.ref 352) (lawCl v u) outer) (exec S0 (envX "law" lawS L a (.ref 352) (lawCl v u))) Q E s := by
  w_top off
  w_strict (
    revert XB
    k_fill
    intro XB
    have X := XB.keeps B.stays
    have T := TB.keeps B.stays
    have J := G.D.jars G.S
    have dcf := G.S.ocf
    have dcj := G.S.ocj
    have hoo := G.S.oo
    have mco : (u.co, u.oo) ∈ news := G.has (by simp [rows])
    have mck : (u.ck, u.ok) ∈ news := G.has (by simp [rows])
    have mcw : (u.cw, u.ow) ∈ news := G.has (by simp [rows])
    have mla : (u.la, PySem.W.listOf u.va.toArray u.na) ∈ news := G.has (by simp [rows])
    have mlt : (u.lt, PySem.W.listOf u.vt.toArray u.nt) ∈ news := G.has (by simp [rows])
    have mll : (v.ll, PySem.W.listOf v.vl.toArray v.nl) ∈ news := G.has (by simp [rows])
    have mlc : (v.lc, PySem.W.listOf v.vc.toArray v.nc) ∈ news := G.has (by simp [rows])
    subst eS0
    have DD := G.D
    have eS := Eq.refl lawS
    conv at eS => rhs; whnf
    have e0 := Eq.refl (nthS 3 loopB)
    conv at e0 => rhs; whnf
    rw [eS, e0]
    clear eS e0
    k_steps
    exact ret _ _ (by assumption))

set_option maxHeartbeats 8000000 in
theorem if7_l7n {w : World} {loose : List Str} {mean : ExcName → Option Value} {mg mb : Str → Option Value} {dp un : Nat} {gd : Option (List Code)} {a : Addr} {outer : List Env} {A₀ : Around} {base h₀ g₀ : Heap} {L : Addr} {m : Str → Option Value}
    {news : List (Addr × Obj)} {s : Shared} {Q : Flow → Shared → Prop} {E : Value → Shared → Prop} {v : V} {u : U} {n : Nat} {S0 : Stmt} {td0 : Tok} {st : Bool} {tk0 : Tok} {q : Int} {tq : Tok}
    (eS0 : S0 = nthS 3 loopB) (XB : (Mine.hd.heap_39 w.params).In base) (TB : Top topProg loose mean mg mb base) (CB : CodeHd base 352 348) (B : Below A₀ base outer h₀) (D : KtsDicts (frs outer) h₀) (T0 : KtsTurn (frs outer) g₀ h₀) (F : Fr h₀ L s.heap m) (N : News h₀ L s.heap news) (hdp : dp + 100 < recursionLimit) (hun : un + 500 < cLine) (hn : n ≤ 90) (G : St news v u true false st n) (nL : m "loaded" = some (.bool true)) (nM : m "marked" = some (.bool false)) (nS : m "sticky" = some (.bool st)) (nA : m "asked" = some (.ref u.la)) (nT : m "told" = some (.ref u.lt)) (Y : Same v u) (hkd : u.ok.data = .cell (some (.int 7 tk0))) (nQ : m "more" = some (.int q tq)) (nD : m "due" = some (.str "done" td0)) (h3 : Int.fmod q 3 = 0) (hf1 : v.f1 = true)
    (ret : ∀ h' tk', End A₀ base outer g₀ L v u n h' → Q .next { s with heap := h', toks := tk' }) :
    wpAny (model PySem.Challenge.rw_am6027_01.row.prog w) (top none dp un gd "law" lawS L a (.ref 352) (lawCl v u) outer) (exec S0 (envX "law" lawS L a (.ref 352) (lawCl v u))) Q E s := by
  w_top off
  w_strict (
    revert XB
    k_fill
    intro XB
    have X := XB.keeps B.stays
    have T := TB.keeps B.stays
    have J := G.D.jars G.S
    have dcf := G.S.ocf
    have dcj := G.S.ocj
    have hoo := G.S.oo
    have mco : (u.co, u.oo) ∈ news := G.has (by simp [rows])
    have mck : (u.ck, u.ok) ∈ news := G.has (by simp [rows])
    have mcw : (u.cw, u.ow) ∈ news := G.has (by simp [rows])
    have mla : (u.la, PySem.W.listOf u.va.toArray u.na) ∈ news := G.has (by simp [rows])
    have mlt : (u.lt, PySem.W.listOf u.vt.toArray u.nt) ∈ news := G.has (by simp [rows])
    have mll : (v.ll, PySem.W.listOf v.vl.toArray v.nl) ∈ news := G.has (by simp [rows])
    have mlc : (v.lc, PySem.W.listOf v.vc.toArray v.nc) ∈ news := G.has (by simp [rows])
    subst eS0
    have DD := G.D
    have eS := Eq.refl lawS
    conv at eS => rhs; whnf
    have e0 := Eq.refl (nthS 3 loopB)
    conv at e0 => rhs; whnf
    rw [eS, e0]
    clear eS e0
    k_steps
    exact ret _ _ (by assumption))

set_option maxHeartbeats 8000000 in
theorem if7_l7y {w : World} {loose : List Str} {mean : ExcName → Option Value} {mg mb : Str → Option Value} {dp un : Nat} {gd : Option (List Code)} {a : Addr} {outer : List Env} {A₀ : Around} {base h₀ g₀ : Heap} {L : Addr} {m : Str → Option Value}
    {news : List (Addr × Obj)} {s : Shared} {Q : Flow → Shared → Prop} {E : Value → Shared → Prop} {v : V} {u : U} {n : Nat} {S0 : Stmt} {td0 : Tok} {st : Bool} {tk0 : Tok} {q : Int} {tq : Tok}
    (eS0 : S0 = nthS 3 loopB) (XB : (Mine.hd.heap_39 w.params).In base) (TB : Top topProg loose mean mg mb base) (CB : CodeHd base 352 348) (B : Below A₀ base outer h₀) (D : KtsDicts (frs outer) h₀) (T0 : KtsTurn (frs outer) g₀ h₀) (F : Fr h₀ L s.heap m) (N : News h₀ L s.heap news) (hdp : dp + 100 < recursionLimit) (hun : un + 500 < cLine) (hn : n ≤ 90) (G : St news v u true false st n) (nL : m "loaded" = some (.bool true)) (nM : m "marked" = some (.bool false)) (nS : m "sticky" = some (.bool st)) (nA : m "asked" = some (.ref u.la)) (nT : m "told" = some (.ref u.lt)) (Y : Same v u) (hkd : u.ok.data = .cell (some (.int 7 tk0))) (nQ : m "more" = some (.int q tq)) (nD : m "due" = some (.str "done" td0)) (h3 : Int.fmod q 3 = 0) (hf1 : v.f1 = false)
    (ret : ∀ h' tk', End A₀ base outer g₀ L v u n h' → Q .next { s with heap := h', toks := tk' }) :
    wpAny (model PySem.Challenge.rw_am6027_01.row.prog w) (top none dp un gd "law" lawS L a (.ref 352) (lawCl v u) outer) (exec S0 (envX "law" lawS L a (.ref 352) (lawCl v u))) Q E s := by
  w_top off
  w_strict (
    revert XB
    k_fill
    intro XB
    have X := XB.keeps B.stays
    have T := TB.keeps B.stays
    have J := G.D.jars G.S
    have dcf := G.S.ocf
    have dcj := G.S.ocj
    have hoo := G.S.oo
    have mco : (u.co, u.oo) ∈ news := G.has (by simp [rows])
    have mck : (u.ck, u.ok) ∈ news := G.has (by simp [rows])
    have mcw : (u.cw, u.ow) ∈ news := G.has (by simp [rows])
    have mla : (u.la, PySem.W.listOf u.va.toArray u.na) ∈ news := G.has (by simp [rows])
    have mlt : (u.lt, PySem.W.listOf u.vt.toArray u.nt) ∈ news := G.has (by simp [rows])
    have mll : (v.ll, PySem.W.listOf v.vl.toArray v.nl) ∈ news := G.has (by simp [rows])
    have mlc : (v.lc, PySem.W.listOf v.vc.toArray v.nc) ∈ news := G.has (by simp [rows])
    subst eS0
    have DD := G.D
    have eS := Eq.refl lawS
    conv at eS => rhs; whnf
    have e0 := Eq.refl (nthS 3 loopB)
    conv at e0 => rhs; whnf
    rw [eS, e0]
    clear eS e0
    k_steps
    exact ret _ _ (by assumption))
end
section
local macro_rules | `(tactic| walk_at "no such line") => `(tactic| fail)
local macro_rules | `(tactic| walk_at "call ref") => `(tactic| (k_here; k_dflt (show wpAny _ _ (PySem.call (Value.ref 332) [_]) _ _ _); k_dflt (refine' wdrop ?XB ?TB ?B ?D ?T0 ?F ?N ?hk ?hdp ?hun ?hn ?G  ?_; (case B => k_asm); (case D => k_asm); (case T0 => first | assumption | exact KtsTurn.refl); (case F => k_asm); (case N => k_asm); (case XB => k_asm); (case TB => k_asm); (case hk => exact rfl); (case G => assumption); (case hdp => ktr_room); (case hun => ktr_room); (case hn => omega);  k_whole); intro h₀' h' tk' news' Fp' T' F' N' B' D' X' P' G'; (try dsimp only)))

set_option maxHeartbeats 8000000 in
theorem if3 {w : World} {loose : List Str} {mean : ExcName → Option Value} {mg mb : Str → Option Value} {dp un : Nat} {gd : Option (List Code)} {a : Addr} {outer : List Env} {A₀ : Around} {base h₀ g₀ : Heap} {L : Addr} {m : Str → Option Value}
    {news : List (Addr × Obj)} {s : Shared} {Q : Flow → Shared → Prop} {E : Value → Shared → Prop} {v : V} {u : U} {n : Nat} {S0 : Stmt} {ld mk st : Bool} {tk0 : Tok}
    (eS0 : S0 = nthS 3 loopB) (XB : (Mine.hd.heap_39 w.params).In base) (TB : Top topProg loose mean mg mb base) (CB : CodeHd base 352 348) (B : Below A₀ base outer h₀) (D : KtsDicts (frs outer) h₀) (T0 : KtsTurn (frs outer) g₀ h₀) (F : Fr h₀ L s.heap m) (N : News h₀ L s.heap news) (hdp : dp + 100 < recursionLimit) (hun : un + 500 < cLine) (hn : n ≤ 90) (G : St news v u ld mk st n) (nL : m "loaded" = some (.bool ld)) (nM : m "marked" = some (.bool mk)) (nS : m "sticky" = some (.bool st)) (nA : m "asked" = some (.ref u.la)) (nT : m "told" = some (.ref u.lt)) (Y : Same v u) (hkd : u.ok.data = .cell (some (.int 3 tk0))) 
    (ret : ∀ h' tk', End A₀ base outer g₀ L v u n h' → Q .next { s with heap := h', toks := tk' }) :
    wpAny (model PySem.Challenge.rw_am6027_01.row.prog w) (top none dp un gd "law" lawS L a (.ref 352) (lawCl v u) outer) (exec S0 (envX "law" lawS L a (.ref 352) (lawCl v u))) Q E s := by
  w_top off
  w_strict (
    revert XB
    k_fill
    intro XB
    have X := XB.keeps B.stays
    have T := TB.keeps B.stays
    have J := G.D.jars G.S
    have dcf := G.S.ocf
    have dcj := G.S.ocj
    have hoo := G.S.oo
    have mco : (u.co, u.oo) ∈ news := G.has (by simp [rows])
    have mck : (u.ck, u.ok) ∈ news := G.has (by simp [rows])
    have mcw : (u.cw, u.ow) ∈ news := G.has (by simp [rows])
    have mla : (u.la, PySem.W.listOf u.va.toArray u.na) ∈ news := G.has (by simp [rows])
    have mlt : (u.lt, PySem.W.listOf u.vt.toArray u.nt) ∈ news := G.has (by simp [rows])
    have mll : (v.ll, PySem.W.listOf v.vl.toArray v.nl) ∈ news := G.has (by simp [rows])
    have mlc : (v.lc, PySem.W.listOf v.vc.toArray v.nc) ∈ news := G.has (by simp [rows])
    subst eS0
    have DD := G.D
    have eS := Eq.refl lawS
    conv at eS => rhs; whnf
    have e0 := Eq.refl (nthS 3 loopB)
    conv at e0 => rhs; whnf
    rw [eS, e0]
    clear eS e0
    k_steps
    refine ret _ _ ?fin9
    refine' End.mk' ?T ?F ?N ?B ?D ?G ?a ?b ?c ?d ?e ?Y ?hc ?n
    case F => k_asm
    case N => k_asm
    case B => k_asm
    case D => k_asm
    case T => k_asm
    case G => exact by assumption
    case a => exact (by (repeat refine (if_neg (by decide)).trans ?_); first | exact if_pos rfl | assumption)
    case b => exact (by (repeat refine (if_neg (by decide)).trans ?_); first | exact if_pos rfl | assumption)
    case c => exact (by (repeat refine (if_neg (by decide)).trans ?_); first | exact if_pos rfl | assumption)
    case d => exact (by (repeat refine (if_neg (by decide)).trans ?_); first | exact if_pos rfl | assumption)
    case e => exact (by (repeat refine (if_neg (by decide)).trans ?_); first | exact if_pos rfl | assumption)
    case Y => exact ⟨Y.ma, Y.mt, Y.el, Y.ec⟩
    case hc => exact ⟨rfl, rfl⟩
    case n => omega)
end
section

set_option maxHeartbeats 8000000 in
theorem if4 {w : World} {loose : List Str} {mean : ExcName → Option Value} {mg mb : Str → Option Value} {dp un : Nat} {gd : Option (List Code)} {a : Addr} {outer : List Env} {A₀ : Around} {base h₀ g₀ : Heap} {L : Addr} {m : Str → Option Value}
    {news : List (Addr × Obj)} {s : Shared} {Q : Flow → Shared → Prop} {E : Value → Shared → Prop} {v : V} {u : U} {n : Nat} {S0 : Stmt} {ld mk st : Bool} {tk0 : Tok}
    (eS0 : S0 = nthS 3 loopB) (XB : (Mine.hd.heap_39 w.params).In base) (TB : Top topProg loose mean mg mb base) (CB : CodeHd base 352 348) (B : Below A₀ base outer h₀) (D : KtsDicts (frs outer) h₀) (T0 : KtsTurn (frs outer) g₀ h₀) (F : Fr h₀ L s.heap m) (N : News h₀ L s.heap news) (hdp : dp + 100 < recursionLimit) (hun : un + 500 < cLine) (hn : n ≤ 90) (G : St news v u ld mk st n) (nL : m "loaded" = some (.bool ld)) (nM : m "marked" = some (.bool mk)) (nS : m "sticky" = some (.bool st)) (nA : m "asked" = some (.ref u.la)) (nT : m "told" = some (.ref u.lt)) (Y : Same v u) (hkd : u.ok.data = .cell (some (.int 4 tk0))) 
    (ret : ∀ h' tk', End A₀ base outer g₀ L v u n h' → Q .next { s with heap := h', toks := tk' }) :
    wpAny (model PySem.Challenge.rw_am6027_01.row.prog w) (top none dp un gd "law" lawS L a (.ref 352) (lawCl v u) outer) (exec S0 (envX "law" lawS L a (.ref 352) (lawCl v u))) Q E s := by
  w_top off
  w_strict (
    revert XB
    k_fill
    intro XB
    have X := XB.keeps B.stays
    have T := TB.keeps B.stays
    have J := G.D.jars G.S
    have dcf := G.S.ocf
    have dcj := G.S.ocj
    have hoo := G.S.oo
    have mco : (u.co, u.oo) ∈ news := G.has (by simp [rows])
    have mck : (u.ck, u.ok) ∈ news := G.has (by simp [rows])
    have mcw : (u.cw, u.ow) ∈ news := G.has (by simp [rows])
    have mla : (u.la, PySem.W.listOf u.va.toArray u.na) ∈ news := G.has (by simp [rows])
    have mlt : (u.lt, PySem.W.listOf u.vt.toArray u.nt) ∈ news := G.has (by simp [rows])
    have mll : (v.ll, PySem.W.listOf v.vl.toArray v.nl) ∈ news := G.has (by simp [rows])
    have mlc : (v.lc, PySem.W.listOf v.vc.toArray v.nc) ∈ news := G.has (by simp [rows])
    subst eS0
    have DD := G.D
    have eS := Eq.refl lawS
    conv at eS => rhs; whnf
    have e0 := Eq.refl (nthS 3 loopB)
    conv at e0 => rhs; whnf
    rw [eS, e0]
    clear eS e0
    k_steps
    refine ret _ _ ?fin9
    refine' End.mk' ?T ?F ?N ?B ?D ?G ?a ?b ?c ?d ?e ?Y ?hc ?n
    case F => k_asm
    case N => k_asm
    case B => k_asm
    case D => k_asm
    case T => k_asm
    case G => exact G.setS _ _ _
    case a => exact (by (repeat refine (if_neg (by decide)).trans ?_); first | exact if_pos rfl | assumption)
    case b => exact (by (repeat refine (if_neg (by decide)).trans ?_); first | exact if_pos rfl | assumption)
    case c => exact (by (repeat refine (if_neg (by decide)).trans ?_); first | exact if_pos rfl | assumption)
    case d => exact (by (repeat refine (if_neg (by decide)).trans ?_); first | exact if_pos rfl | assumption)
    case e => exact (by (repeat refine (if_neg (by decide)).trans ?_); first | exact if_pos rfl | assumption)
    case Y => exact ⟨Y.ma, Y.mt, Y.el, Y.ec⟩
    case hc => exact ⟨rfl, rfl⟩
    case n => omega)
end
section
local macro_rules | `(tactic| walk_at "no such line") => `(tactic| fail)

set_option maxHeartbeats 8000000 in
theorem if5 {w : World} {loose : List Str} {mean : ExcName → Option Value} {mg mb : Str → Option Value} {dp un : Nat} {gd : Option (List Code)} {a : Addr} {outer : List Env} {A₀ : Around} {base h₀ g₀ : Heap} {L : Addr} {m : Str → Option Value}
    {news : List (Addr × Obj)} {s : Shared} {Q : Flow → Shared → Prop} {E : Value → Shared → Prop} {v : V} {u : U} {n : Nat} {S0 : Stmt} {ld mk st : Bool} {tk0 : Tok}
    (eS0 : S0 = nthS 3 loopB) (XB : (Mine.hd.heap_39 w.params).In base) (TB : Top topProg loose mean mg mb base) (CB : CodeHd base 352 348) (B : Below A₀ base outer h₀) (D : KtsDicts (frs outer) h₀) (T0 : KtsTurn (frs outer) g₀ h₀) (F : Fr h₀ L s.heap m) (N : News h₀ L s.heap news) (hdp : dp + 100 < recursionLimit) (hun : un + 500 < cLine) (hn : n ≤ 90) (G : St news v u ld mk st n) (nL : m "loaded" = some (.bool ld)) (nM : m "marked" = some (.bool mk)) (nS : m "sticky" = some (.bool st)) (nA : m "asked" = some (.ref u.la)) (nT : m "told" = some (.ref u.lt)) (Y : Same v u) (hkd : u.ok.data = .cell (some (.int 5 tk0))) 
    (ret : ∀ h' tk', End A₀ base outer g₀ L v u n h' → Q .next { s with heap := h', toks := tk' }) :
    wpAny (model PySem.Challenge.rw_am6027_01.row.prog w) (top none dp un gd "law" lawS L a (.ref 352) (lawCl v u) outer) (exec S0 (envX "law" lawS L a (.ref 352) (lawCl v u))) Q E s := by
  w_top off
  w_strict (
    revert XB
    k_fill
    intro XB
    have X := XB.keeps B.stays
    have T := TB.keeps B.stays
    have J := G.D.jars G.S
    have dcf := G.S.ocf
    have dcj := G.S.ocj
    have hoo := G.S.oo
    have mco : (u.co, u.oo) ∈ news := G.has (by simp [rows])
    have mck : (u.ck, u.ok) ∈ news := G.has (by simp [rows])
    have mcw : (u.cw, u.ow) ∈ news := G.has (by simp [rows])
    have mla : (u.la, PySem.W.listOf u.va.toArray u.na) ∈ news := G.has (by simp [rows])
    have mlt : (u.lt, PySem.W.listOf u.vt.toArray u.nt) ∈ news := G.has (by simp [rows])
    have mll : (v.ll, PySem.W.listOf v.vl.toArray v.nl) ∈ news := G.has (by simp [rows])
    have mlc : (v.lc, PySem.W.listOf v.vc.toArray v.nc) ∈ news := G.has (by simp [rows])
    subst eS0
    have DD := G.D
    have eS := Eq.refl lawS
    conv at eS => rhs; whnf
    have e0 := Eq.refl (nthS 3 loopB)
    conv at e0 => rhs; whnf
    rw [eS, e0]
    clear eS e0
    k_steps
    refine ret _ _ ?fin9
    refine' End.mk' ?T ?F ?N ?B ?D ?G ?a ?b ?c ?d ?e ?Y ?hc ?n
    case F => k_asm
    case N => k_asm
    case B => k_asm
    case D => k_asm
    case T => k_asm
    case G => exact G.setS _ _ _
    case a => exact (by (repeat refine (if_neg (by decide)).trans ?_); first | exact if_pos rfl | assumption)
    case b => exact (by (repeat refine (if_neg (by decide)).trans ?_); first | exact if_pos rfl | assumption)
    case c => exact (by (repeat refine (if_neg (by decide)).trans ?_); first | exact if_pos rfl | assumption)
    case d => exact (by (repeat refine (if_neg (by decide)).trans ?_); first | exact if_pos rfl | assumption)
    case e => exact (by (repeat refine (if_neg (by decide)).trans ?_); first | exact if_pos rfl | assumption)
    case Y => exact ⟨Y.ma, Y.mt, Y.el, Y.ec⟩
    case hc => exact ⟨rfl, rfl⟩
    case n => omega)
end
section
local macro_rules | `(tactic| k_mem) => `(tactic| first | assumption | exact St.mcoW (by assumption) | exact St.mckW (by assumption) | exact St.mcwW (by assumption) | exact St.mltP (by assumption) | (refine' Jars.x' ?J ?h; (case J => first | assumption | exact St.J (by assumption)); (case h => exact rfl)) | (refine' Jars.dx' ?J ?h; (case J => first | assumption | exact St.J (by assumption)); (case h => exact rfl)) | (refine' Led.mfl ?J; (case J => first | assumption | exact St.D (by assumption))) | (refine' Led.mcf ?J; (case J => first | assumption | exact St.D (by assumption))))
local macro_rules | `(tactic| k_upd) => `(tactic| first | assumption | exact St.uTP (by assumption))
local macro_rules | `(tactic| walk_at "exec Assign") => `(tactic| (k_here; k_dflt (refine' B1 ?eS ?XB ?TB ?CB ?B ?D ?T0 ?F ?N ?hdp ?hun ?hn ?G ?nL ?nM ?nS ?nA ?nT ?nQ ?_; (case eS => rfl); (case B => k_asm); (case D => k_asm); (case T0 => first | assumption | exact KtsTurn.refl); (case F => k_asm); (case N => k_asm); (case XB => k_asm); (case TB => k_asm); (case CB => assumption); (case G => assumption); (case hdp => assumption); (case hun => assumption); (case hn => assumption); (case nL => assumption); (case nM => assumption); (case nS => assumption); (case nA => assumption); (case nT => assumption); (case nQ => assumption); k_whole); intro h' tk' news' z' o' F' N' G' W' d'; (try dsimp only)))
local macro_rules | `(tactic| walk_at "call ref") => `(tactic| (k_here; k_dflt (show wpAny _ _ (PySem.call (Value.ref 325) [_, _]) _ _ _); k_dflt (refine' wset_offN ?XB ?TB ?B ?D ?T0 ?F ?N ?hk ?hdp ?hun ?hn ?G ?W ?_; (case B => k_asm); (case D => k_asm); (case T0 => first | assumption | exact KtsTurn.refl); (case F => k_asm); (case N => k_asm); (case XB => k_asm); (case TB => k_asm); (case hk => exact rfl); (case G => assumption); (case hdp => ktr_room); (case hun => ktr_room); (case hn => omega); (case W => assumption); k_whole); intro h₀' h' tk' news' Fp' T' F' N' B' D' X' P' G'; (try dsimp only)))

set_option maxHeartbeats 8000000 in
theorem if1_N {w : World} {loose : List Str} {mean : ExcName → Option Value} {mg mb : Str → Option Value} {dp un : Nat} {gd : Option (List Code)} {a : Addr} {outer : List Env} {A₀ : Around} {base h₀ g₀ : Heap} {L : Addr} {m : Str → Option Value}
    {news : List (Addr × Obj)} {s : Shared} {Q : Flow → Shared → Prop} {E : Value → Shared → Prop} {v : V} {u : U} {n : Nat} {S0 : Stmt} {tk0 : Tok} {q : Int} {tq : Tok}
    (eS0 : S0 = nthS 3 loopB) (XB : (Mine.hd.heap_39 w.params).In base) (TB : Top topProg loose mean mg mb base) (CB : CodeHd base 352 348) (B : Below A₀ base outer h₀) (D : KtsDicts (frs outer) h₀) (T0 : KtsTurn (frs outer) g₀ h₀) (F : Fr h₀ L s.heap m) (N : News h₀ L s.heap news) (hdp : dp + 100 < recursionLimit) (hun : un + 500 < cLine) (hn : n ≤ 90) (G : St news v u false false false n) (nL : m "loaded" = some (.bool false)) (nM : m "marked" = some (.bool false)) (nS : m "sticky" = some (.bool false)) (nA : m "asked" = some (.ref u.la)) (nT : m "told" = some (.ref u.lt)) (Y : Same v u) (hkd : u.ok.data = .cell (some (.int 1 tk0))) (nQ : m "more" = some (.int q tq)) 
    (ret : ∀ h' tk', End A₀ base outer g₀ L v u n h' → Q .next { s with heap := h', toks := tk' }) :
    wpAny (model PySem.Challenge.rw_am6027_01.row.prog w) (top none dp un gd "law" lawS L a (.ref 352) (lawCl v u) outer) (exec S0 (envX "law" lawS L a (.ref 352) (lawCl v u))) Q E s := by
  w_top off
  w_strict (
    revert XB
    k_fill
    intro XB
    have X := XB.keeps B.stays
    have T := TB.keeps B.stays
    have J := G.D.jars G.S
    have dcf := G.S.ocf
    have dcj := G.S.ocj
    have hoo := G.S.oo
    have mco : (u.co, u.oo) ∈ news := G.has (by simp [rows])
    have mck : (u.ck, u.ok) ∈ news := G.has (by simp [rows])
    have mcw : (u.cw, u.ow) ∈ news := G.has (by simp [rows])
    have mla : (u.la, PySem.W.listOf u.va.toArray u.na) ∈ news := G.has (by simp [rows])
    have mlt : (u.lt, PySem.W.listOf u.vt.toArray u.nt) ∈ news := G.has (by simp [rows])
    have mll : (v.ll, PySem.W.listOf v.vl.toArray v.nl) ∈ news := G.has (by simp [rows])
    have mlc : (v.lc, PySem.W.listOf v.vc.toArray v.nc) ∈ news := G.has (by simp [rows])
    subst eS0
    have DD := G.D
    have eS := Eq.refl lawS
    conv at eS => rhs; whnf
    have e0 := Eq.refl (nthS 3 loopB)
    conv at e0 => rhs; whnf
    rw [eS, e0]
    clear eS e0
    k_steps
    refine ret _ _ ?fin9
    refine' End.mk' ?T ?F ?N ?B ?D ?G ?a ?b ?c ?d ?e ?Y ?hc ?n
    case F => k_asm
    case N => k_asm
    case B => k_asm
    case D => k_asm
    case T => k_asm
    case G => exact by assumption
    case a => exact (by (repeat refine (if_neg (by decide)).trans ?_); first | exact if_pos rfl | assumption)
    case b => exact (by (repeat refine (if_neg (by decide)).trans ?_); first | exact if_pos rfl | assumption)
    case c => exact (by (repeat refine (if_neg (by decide)).trans ?_); first | exact if_pos rfl | assumption)
    case d => exact (by (repeat refine (if_neg (by decide)).trans ?_); first | exact if_pos rfl | assumption)
    case e => exact (by (repeat refine (if_neg (by decide)).trans ?_); first | exact if_pos rfl | assumption)
    case Y => exact ⟨Y.ma, Y.mt, Y.el, Y.ec⟩
    case hc => exact ⟨rfl, rfl⟩
    case n => omega)
end
section
local macro_rules | `(tactic| walk_at "no such line") => `(tactic| fail)
local macro_rules | `(tactic| k_mem) => `(tactic| first | assumption | exact St.mcoW (by assumption) | exact St.mckW (by assumption) | exact St.mcwW (by assumption) | exact St.mltP (by assumption) | (refine' Jars.x' ?J ?h; (case J => first | assumption | exact St.J (by assumption)); (case h => exact rfl)) | (refine' Jars.dx' ?J ?h; (case J => first | assumption | exact St.J (by assumption)); (case h => exact rfl)) | (refine' Led.mfl ?J; (case J => first | assumption | exact St.D (by assumption))) | (refine' Led.mcf ?J; (case J => first | assumption | exact St.D (by assumption))))
local macro_rules | `(tactic| k_upd) => `(tactic| first | assumption | exact St.uTP (by assumption))
local macro_rules | `(tactic| walk_at "exec Assign") => `(tactic| (k_here; k_dflt (refine' B1 ?eS ?XB ?TB ?CB ?B ?D ?T0 ?F ?N ?hdp ?hun ?hn ?G ?nL ?nM ?nS ?nA ?nT ?nQ ?_; (case eS => rfl); (case B => k_asm); (case D => k_asm); (case T0 => first | assumption | exact KtsTurn.refl); (case F => k_asm); (case N => k_asm); (case XB => k_asm); (case TB => k_asm); (case CB => assumption); (case G => assumption); (case hdp => assumption); (case hun => assumption); (case hn => assumption); (case nL => assumption); (case nM => assumption); (case nS => assumption); (case nA => assumption); (case nT => assumption); (case nQ => assumption); k_whole); intro h' tk' news' z' o' F' N' G' W' d'; (try dsimp only)))
local macro_rules | `(tactic| walk_at "call ref") => `(tactic| (k_here; k_dflt (show wpAny _ _ (PySem.call (Value.ref 325) [_, _]) _ _ _); k_dflt (refine' wset_off ?XB ?TB ?B ?D ?T0 ?F ?N ?hk ?hdp ?hun ?hn ?G ?W ?_; (case B => k_asm); (case D => k_asm); (case T0 => first | assumption | exact KtsTurn.refl); (case F => k_asm); (case N => k_asm); (case XB => k_asm); (case TB => k_asm); (case hk => exact rfl); (case G => assumption); (case hdp => ktr_room); (case hun => ktr_room); (case hn => omega); (case W => assumption); k_whole); intro h₀' h' tk' news' Fp' T' F' N' B' D' X' P' G'; (try dsimp only)))

set_option maxHeartbeats 8000000 in
theorem if1_false {w : World} {loose : List Str} {mean : ExcName → Option Value} {mg mb : Str → Option Value} {dp un : Nat} {gd : Option (List Code)} {a : Addr} {outer : List Env} {A₀ : Around} {base h₀ g₀ : Heap} {L : Addr} {m : Str → Option Value}
    {news : List (Addr × Obj)} {s : Shared} {Q : Flow → Shared → Prop} {E : Value → Shared → Prop} {v : V} {u : U} {n : Nat} {S0 : Stmt} {st : Bool} {tk0 : Tok} {q : Int} {tq : Tok}
    (eS0 : S0 = nthS 3 loopB) (XB : (Mine.hd.heap_39 w.params).In base) (TB : Top topProg loose mean mg mb base) (CB : CodeHd base 352 348) (B : Below A₀ base outer h₀) (D : KtsDicts (frs outer) h₀) (T0 : KtsTurn (frs outer) g₀ h₀) (F : Fr h₀ L s.heap m) (N : News h₀ L s.heap news) (hdp : dp + 100 < recursionLimit) (hun : un + 500 < cLine) (hn : n ≤ 90) (G : St news v u true false st n) (nL : m "loaded" = some (.bool true)) (nM : m "marked" = some (.bool false)) (nS : m "sticky" = some (.bool st)) (nA : m "asked" = some (.ref u.la)) (nT : m "told" = some (.ref u.lt)) (Y : Same v u) (hkd : u.ok.data = .cell (some (.int 1 tk0))) (nQ : m "more" = some (.int q tq)) 
    (ret : ∀ h' tk', End A₀ base outer g₀ L v u n h' → Q .next { s with heap := h', toks := tk' }) :
    wpAny (model PySem.Challenge.rw_am6027_01.row.prog w) (top none dp un gd "law" lawS L a (.ref 352) (lawCl v u) outer) (exec S0 (envX "law" lawS L a (.ref 352) (lawCl v u))) Q E s := by
  w_top off
  w_strict (
    revert XB
    k_fill
    intro XB
    have X := XB.keeps B.stays
    have T := TB.keeps B.stays
    have J := G.D.jars G.S
    have dcf := G.S.ocf
    have dcj := G.S.ocj
    have hoo := G.S.oo
    have mco : (u.co, u.oo) ∈ news := G.has (by simp [rows])
    have mck : (u.ck, u.ok) ∈ news := G.has (by simp [rows])
    have mcw : (u.cw, u.ow) ∈ news := G.has (by simp [rows])
    have mla : (u.la, PySem.W.listOf u.va.toArray u.na) ∈ news := G.has (by simp [rows])
    have mlt : (u.lt, PySem.W.listOf u.vt.toArray u.nt) ∈ news := G.has (by simp [rows])
    have mll : (v.ll, PySem.W.listOf v.vl.toArray v.nl) ∈ news := G.has (by simp [rows])
    have mlc : (v.lc, PySem.W.listOf v.vc.toArray v.nc) ∈ news := G.has (by simp [rows])
    subst eS0
    have DD := G.D
    have eS := Eq.refl lawS
    conv at eS => rhs; whnf
    have e0 := Eq.refl (nthS 3 loopB)
    conv at e0 => rhs; whnf
    rw [eS, e0]
    clear eS e0
    k_steps
    refine ret _ _ ?fin9
    refine' End.mk' ?T ?F ?N ?B ?D ?G ?a ?b ?c ?d ?e ?Y ?hc ?n
    case F => k_asm
    case N => k_asm
    case B => k_asm
    case D => k_asm
    case T => k_asm
    case G => exact by assumption
    case a => exact (by (repeat refine (if_neg (by decide)).trans ?_); first | exact if_pos rfl | assumption)
    case b => exact (by (repeat refine (if_neg (by decide)).trans ?_); first | exact if_pos rfl | assumption)
    case c => exact (by (repeat refine (if_neg (by decide)).trans ?_); first | exact if_pos rfl | assumption)
    case d => exact (by (repeat refine (if_neg (by decide)).trans ?_); first | exact if_pos rfl | assumption)
    case e => exact (by (repeat refine (if_neg (by decide)).trans ?_); first | exact if_pos rfl | assumption)
    case Y => exact ⟨Y.ma, Y.mt, Y.el, Y.ec⟩
    case hc => exact ⟨rfl, rfl⟩
    case n => omega)
end
section
local macro_rules | `(tactic| k_mem) => `(tactic| first | assumption | exact St.mcoW (by assumption) | exact St.mckW (by assumption) | exact St.mcwW (by assumption) | exact St.mltP (by assumption) | (refine' Jars.x' ?J ?h; (case J => first | assumption | exact St.J (by assumption)); (case h => exact rfl)) | (refine' Jars.dx' ?J ?h; (case J => first | assumption | exact St.J (by assumption)); (case h => exact rfl)) | (refine' Led.mfl ?J; (case J => first | assumption | exact St.D (by assumption))) | (refine' Led.mcf ?J; (case J => first | assumption | exact St.D (by assumption))))
local macro_rules | `(tactic| k_upd) => `(tactic| first | assumption | exact St.uTP (by assumption))
local macro_rules | `(tactic| walk_at "exec Assign") => `(tactic| (k_here; k_dflt (refine' B1 ?eS ?XB ?TB ?CB ?B ?D ?T0 ?F ?N ?hdp ?hun ?hn ?G ?nL ?nM ?nS ?nA ?nT ?nQ ?_; (case eS => rfl); (case B => k_asm); (case D => k_asm); (case T0 => first | assumption | exact KtsTurn.refl); (case F => k_asm); (case N => k_asm); (case XB => k_asm); (case TB => k_asm); (case CB => assumption); (case G => assumption); (case hdp => assumption); (case hun => assumption); (case hn => assumption); (case nL => assumption); (case nM => assumption); (case nS => assumption); (case nA => assumption); (case nT => assumption); (case nQ => assumption); k_whole); intro h' tk' news' z' o' F' N' G' W' d'; (try dsimp only)))
local macro_rules | `(tactic| walk_at "call ref") => `(tactic| (k_here; k_dflt (show wpAny _ _ (PySem.call (Value.ref 275) [_, _]) _ _ _); k_dflt (refine' wflag_off ?XB ?TB ?B ?D ?T0 ?F ?N ?hk ?hdp ?hun ?hn ?G ?W ?_; (case B => k_asm); (case D => k_asm); (case T0 => first | assumption | exact KtsTurn.refl); (case F => k_asm); (case N => k_asm); (case XB => k_asm); (case TB => k_asm); (case hk => exact rfl); (case G => assumption); (case hdp => ktr_room); (case hun => ktr_room); (case hn => omega); (case W => assumption); k_whole); intro h₀' h' tk' news' Fp' T' F' N' B' D' X' P' G'; (try dsimp only)))

set_option maxHeartbeats 8000000 in
theorem if7o_false {w : World} {loose : List Str} {mean : ExcName → Option Value} {mg mb : Str → Option Value} {dp un : Nat} {gd : Option (List Code)} {a : Addr} {outer : List Env} {A₀ : Around} {base h₀ g₀ : Heap} {L : Addr} {m : Str → Option Value}
    {news : List (Addr × Obj)} {s : Shared} {Q : Flow → Shared → Prop} {E : Value → Shared → Prop} {v : V} {u : U} {n : Nat} {S0 : Stmt} {st : Bool} {tk0 : Tok} {q : Int} {tq : Tok}
    (eS0 : S0 = nthS 3 loopB) (XB : (Mine.hd.heap_39 w.params).In base) (TB : Top topProg loose mean mg mb base) (CB : CodeHd base 352 348) (B : Below A₀ base outer h₀) (D : KtsDicts (frs outer) h₀) (T0 : KtsTurn (frs outer) g₀ h₀) (F : Fr h₀ L s.heap m) (N : News h₀ L s.heap news) (hdp : dp + 100 < recursionLimit) (hun : un + 500 < cLine) (hn : n ≤ 90) (G : St news v u true false st n) (nL : m "loaded" = some (.bool true)) (nM : m "marked" = some (.bool false)) (nS : m "sticky" = some (.bool st)) (nA : m "asked" = some (.ref u.la)) (nT : m "told" = some (.ref u.lt)) (Y : Same v u) (hkd : u.ok.data = .cell (some (.int 7 tk0))) (nQ : m "more" = some (.int q tq)) (h3 : Int.fmod q 3 = 1)
    (ret : ∀ h' tk', End A₀ base outer g₀ L v u n h' → Q .next { s with heap := h', toks := tk' }) :
    wpAny (model PySem.Challenge.rw_am6027_01.row.prog w) (top none dp un gd "law" lawS L a (.ref 352) (lawCl v u) outer) (exec S0 (envX "law" lawS L a (.ref 352) (lawCl v u))) Q E s := by
  w_top off
  w_strict (
    revert XB
    k_fill
    intro XB
    have X := XB.keeps B.stays
    have T := TB.keeps B.stays
    have J := G.D.jars G.S
    have dcf := G.S.ocf
    have dcj := G.S.ocj
    have hoo := G.S.oo
    have mco : (u.co, u.oo) ∈ news := G.has (by simp [rows])
    have mck : (u.ck, u.ok) ∈ news := G.has (by simp [rows])
    have mcw : (u.cw, u.ow) ∈ news := G.has (by simp [rows])
    have mla : (u.la, PySem.W.listOf u.va.toArray u.na) ∈ news := G.has (by simp [rows])
    have mlt : (u.lt, PySem.W.listOf u.vt.toArray u.nt) ∈ news := G.has (by simp [rows])
    have mll : (v.ll, PySem.W.listOf v.vl.toArray v.nl) ∈ news := G.has (by simp [rows])
    have mlc : (v.lc, PySem.W.listOf v.vc.toArray v.nc) ∈ news := G.has (by simp [rows])
    subst eS0
    have DD := G.D
    have eS := Eq.refl lawS
    conv at eS => rhs; whnf
    have e0 := Eq.refl (nthS 3 loopB)
    conv at e0 => rhs; whnf
    rw [eS, e0]
    clear eS e0
    k_steps
    refine ret _ _ ?fin9
    refine' End.mk' ?T ?F ?N ?B ?D ?G ?a ?b ?c ?d ?e ?Y ?hc ?n
    case F => k_asm
    case N => k_asm
    case B => k_asm
    case D => k_asm
    case T => k_asm
    case G => exact by assumption
    case a => exact (by (repeat refine (if_neg (by decide)).trans ?_); first | exact if_pos rfl | assumption)
    case b => exact (by (repeat refine (if_neg (by decide)).trans ?_); first | exact if_pos rfl | assumption)
    case c => exact (by (repeat refine (if_neg (by decide)).trans ?_); first | exact if_pos rfl | assumption)
    case d => exact (by (repeat refine (if_neg (by decide)).trans ?_); first | exact if_pos rfl | assumption)
    case e => exact (by (repeat refine (if_neg (by decide)).trans ?_); first | exact if_pos rfl | assumption)
    case Y => exact ⟨Y.ma, Y.mt, Y.el, Y.ec⟩
    case hc => exact ⟨rfl, rfl⟩
    case n => omega)
end
section
local macro_rules | `(tactic| walk_at "no such line") => `(tactic| fail)
local macro_rules | `(tactic| k_mem) => `(tactic| first | assumption | exact St.mcoW (by assumption) | exact St.mckW (by assumption) | exact St.mcwW (by assumption) | exact St.mltP (by assumption) | (refine' Jars.x' ?J ?h; (case J => first | assumption | exact St.J (by assumption)); (case h => exact rfl)) | (refine' Jars.dx' ?J ?h; (case J => first | assumption | exact St.J (by assumption)); (case h => exact rfl)) | (refine' Led.mfl ?J; (case J => first | assumption | exact St.D (by assumption))) | (refine' Led.mcf ?J; (case J => first | assumption | exact St.D (by assumption))))
local macro_rules | `(tactic| k_upd) => `(tactic| first | assumption | exact St.uTP (by assumption))
local macro_rules | `(tactic| walk_at "exec Assign") => `(tactic| (k_here; k_dflt (refine' B1 ?eS ?XB ?TB ?CB ?B ?D ?T0 ?F ?N ?hdp ?hun ?hn ?G ?nL ?nM ?nS ?nA ?nT ?nQ ?_; (case eS => rfl); (case B => k_asm); (case D => k_asm); (case T0 => first | assumption | exact KtsTurn.refl); (case F => k_asm); (case N => k_asm); (case XB => k_asm); (case TB => k_asm); (case CB => assumption); (case G => assumption); (case hdp => assumption); (case hun => assumption); (case hn => assumption); (case nL => assumption); (case nM => assumption); (case nS => assumption); (case nA => assumption); (case nT => assumption); (case nQ => assumption); k_whole); intro h' tk' news' z' o' F' N' G' W' d'; (try dsimp only)))
local macro_rules | `(tactic| walk_at "call ref") => `(tactic| (k_here; k_dflt (show wpAny _ _ (PySem.call (Value.ref 325) [_, _]) _ _ _); k_dflt (refine' wset_off ?XB ?TB ?B ?D ?T0 ?F ?N ?hk ?hdp ?hun ?hn ?G ?W ?_; (case B => k_asm); (case D => k_asm); (case T0 => first | assumption | exact KtsTurn.refl); (case F => k_asm); (case N => k_asm); (case XB => k_asm); (case TB => k_asm); (case hk => exact rfl); (case G => assumption); (case hdp => ktr_room); (case hun => ktr_room); (case hn => omega); (case W => assumption); k_whole); intro h₀' h' tk' news' Fp' T' F' N' B' D' X' P' G'; (try dsimp only)))

set_option maxHeartbeats 8000000 in
theorem if1_true {w : World} {loose : List Str} {mean : ExcName → Option Value} {mg mb : Str → Option Value} {dp un : Nat} {gd : Option (List Code)} {a : Addr} {outer : List Env} {A₀ : Around} {base h₀ g₀ : Heap} {L : Addr} {m : Str → Option Value}
    {news : List (Addr × Obj)} {s : Shared} {Q : Flow → Shared → Prop} {E : Value → Shared → Prop} {v : V} {u : U} {n : Nat} {S0 : Stmt} {st : Bool} {tk0 : Tok} {q : Int} {tq : Tok}
    (eS0 : S0 = nthS 3 loopB) (XB : (Mine.hd.heap_39 w.params).In base) (TB : Top topProg loose mean mg mb base) (CB : CodeHd base 352 348) (B : Below A₀ base outer h₀) (D : KtsDicts (frs outer) h₀) (T0 : KtsTurn (frs outer) g₀ h₀) (F : Fr h₀ L s.heap m) (N : News h₀ L s.heap news) (hdp : dp + 100 < recursionLimit) (hun : un + 500 < cLine) (hn : n ≤ 90) (G : St news v u true true st n) (nL : m "loaded" = some (.bool true)) (nM : m "marked" = some (.bool true)) (nS : m "sticky" = some (.bool st)) (nA : m "asked" = some (.ref u.la)) (nT : m "told" = some (.ref u.lt)) (Y : Same v u) (hkd : u.ok.data = .cell (some (.int 1 tk0))) (nQ : m "more" = some (.int q tq)) 
    (ret : ∀ h' tk', End A₀ base outer g₀ L v u n h' → Q .next { s with heap := h', toks := tk' }) :
    wpAny (model PySem.Challenge.rw_am6027_01.row.prog w) (top none dp un gd "law" lawS L a (.ref 352) (lawCl v u) outer) (exec S0 (envX "law" lawS L a (.ref 352) (lawCl v u))) Q E s := by
  w_top off
  w_strict (
    revert XB
    k_fill
    intro XB
    have X := XB.keeps B.stays
    have T := TB.keeps B.stays
    have J := G.D.jars G.S
    have dcf := G.S.ocf
    have dcj := G.S.ocj
    have hoo := G.S.oo
    have mco : (u.co, u.oo) ∈ news := G.has (by simp [rows])
    have mck : (u.ck, u.ok) ∈ news := G.has (by simp [rows])
    have mcw : (u.cw, u.ow) ∈ news := G.has (by simp [rows])
    have mla : (u.la, PySem.W.listOf u.va.toArray u.na) ∈ news := G.has (by simp [rows])
    have mlt : (u.lt, PySem.W.listOf u.vt.toArray u.nt) ∈ news := G.has (by simp [rows])
    have mll : (v.ll, PySem.W.listOf v.vl.toArray v.nl) ∈ news := G.has (by simp [rows])
    have mlc : (v.lc, PySem.W.listOf v.vc.toArray v.nc) ∈ news := G.has (by simp [rows])
    subst eS0
    have DD := G.D
    have eS := Eq.refl lawS
    conv at eS => rhs; whnf
    have e0 := Eq.refl (nthS 3 loopB)
    conv at e0 => rhs; whnf
    rw [eS, e0]
    clear eS e0
    k_steps
    refine ret _ _ ?fin9
    refine' End.mk' ?T ?F ?N ?B ?D ?G ?a ?b ?c ?d ?e ?Y ?hc ?n
    case F => k_asm
    case N => k_asm
    case B => k_asm
    case D => k_asm
    case T => k_asm
    case G => exact by assumption
    case a => exact (by (repeat refine (if_neg (by decide)).trans ?_); first | exact if_pos rfl | assumption)
    case b => exact (by (repeat refine (if_neg (by decide)).trans ?_); first | exact if_pos rfl | assumption)
    case c => exact (by (repeat refine (if_neg (by decide)).trans ?_); first | exact if_pos rfl | assumption)
    case d => exact (by (repeat refine (if_neg (by decide)).trans ?_); first | exact if_pos rfl | assumption)
    case e => exact (by (repeat refine (if_neg (by decide)).trans ?_); first | exact if_pos rfl | assumption)
    case Y => exact ⟨Y.ma, Y.mt, Y.el, Y.ec⟩
    case hc => exact ⟨rfl, rfl⟩
    case n => omega)
end
section
local macro_rules | `(tactic| k_mem) => `(tactic| first | assumption | exact St.mcoW (by assumption) | exact St.mckW (by assumption) | exact St.mcwW (by assumption) | exact St.mltP (by assumption) | (refine' Jars.x' ?J ?h; (case J => first | assumption | exact St.J (by assumption)); (case h => exact rfl)) | (refine' Jars.dx' ?J ?h; (case J => first | assumption | exact St.J (by assumption)); (case h => exact rfl)) | (refine' Led.mfl ?J; (case J => first | assumption | exact St.D (by assumption))) | (refine' Led.mcf ?J; (case J => first | assumption | exact St.D (by assumption))))
local macro_rules | `(tactic| k_upd) => `(tactic| first | assumption | exact St.uTP (by assumption))
local macro_rules | `(tactic| walk_at "exec Assign") => `(tactic| (k_here; k_dflt (refine' B1 ?eS ?XB ?TB ?CB ?B ?D ?T0 ?F ?N ?hdp ?hun ?hn ?G ?nL ?nM ?nS ?nA ?nT ?nQ ?_; (case eS => rfl); (case B => k_asm); (case D => k_asm); (case T0 => first | assumption | exact KtsTurn.refl); (case F => k_asm); (case N => k_asm); (case XB => k_asm); (case TB => k_asm); (case CB => assumption); (case G => assumption); (case hdp => assumption); (case hun => assumption); (case hn => assumption); (case nL => assumption); (case nM => assumption); (case nS => assumption); (case nA => assumption); (case nT => assumption); (case nQ => assumption); k_whole); intro h' tk' news' z' o' F' N' G' W' d'; (try dsimp only)))
local macro_rules | `(tactic| walk_at "call ref") => `(tactic| (k_here; k_dflt (show wpAny _ _ (PySem.call (Value.ref 275) [_, _]) _ _ _); k_dflt (refine' wflag_off ?XB ?TB ?B ?D ?T0 ?F ?N ?hk ?hdp ?hun ?hn ?G ?W ?_; (case B => k_asm); (case D => k_asm); (case T0 => first | assumption | exact KtsTurn.refl); (case F => k_asm); (case N => k_asm); (case XB => k_asm); (case TB => k_asm); (case hk => exact rfl); (case G => assumption); (case hdp => ktr_room); (case hun => ktr_room); (case hn => omega); (case W => assumption); k_whole); intro h₀' h' tk' news' Fp' T' F' N' B' D' X' P' G'; (try dsimp only)))

set_option maxHeartbeats 8000000 in
theorem if7o_true {w : World} {loose : List Str} {mean : ExcName → Option Value} {mg mb : Str → Option Value} {dp un : Nat} {gd : Option (List Code)} {a : Addr} {outer : List Env} {A₀ : Around} {base h₀ g₀ : Heap} {L : Addr} {m : Str → Option Value}
    {news : List (Addr × Obj)} {s : Shared} {Q : Flow → Shared → Prop} {E : Value → Shared → Prop} {v : V} {u : U} {n : Nat} {S0 : Stmt} {st : Bool} {tk0 : Tok} {q : Int} {tq : Tok}
    (eS0 : S0 = nthS 3 loopB) (XB : (Mine.hd.heap_39 w.params).In base) (TB : Top topProg loose mean mg mb base) (CB : CodeHd base 352 348) (B : Below A₀ base outer h₀) (D : KtsDicts (frs outer) h₀) (T0 : KtsTurn (frs outer) g₀ h₀) (F : Fr h₀ L s.heap m) (N : News h₀ L s.heap news) (hdp : dp + 100 < recursionLimit) (hun : un + 500 < cLine) (hn : n ≤ 90) (G : St news v u true true st n) (nL : m "loaded" = some (.bool true)) (nM : m "marked" = some (.bool true)) (nS : m "sticky" = some (.bool st)) (nA : m "asked" = some (.ref u.la)) (nT : m "told" = some (.ref u.lt)) (Y : Same v u) (hkd : u.ok.data = .cell (some (.int 7 tk0))) (nQ : m "more" = some (.int q tq)) (h3 : Int.fmod q 3 = 1)
    (ret : ∀ h' tk', End A₀ base outer g₀ L v u n h' → Q .next { s with heap := h', toks := tk' }) :
    wpAny (model PySem.Challenge.rw_am6027_01.row.prog w) (top none dp un gd "law" lawS L a (.ref 352) (lawCl v u) outer) (exec S0 (envX "law" lawS L a (.ref 352) (lawCl v u))) Q E s := by
  w_top off
  w_strict (
    revert XB
    k_fill
    intro XB
    have X := XB.keeps B.stays
    have T := TB.keeps B.stays
    have J := G.D.jars G.S
    have dcf := G.S.ocf
    have dcj := G.S.ocj
    have hoo := G.S.oo
    have mco : (u.co, u.oo) ∈ news := G.has (by simp [rows])
    have mck : (u.ck, u.ok) ∈ news := G.has (by simp [rows])
    have mcw : (u.cw, u.ow) ∈ news := G.has (by simp [rows])
    have mla : (u.la, PySem.W.listOf u.va.toArray u.na) ∈ news := G.has (by simp [rows])
    have mlt : (u.lt, PySem.W.listOf u.vt.toArray u.nt) ∈ news := G.has (by simp [rows])
    have mll : (v.ll, PySem.W.listOf v.vl.toArray v.nl) ∈ news := G.has (by simp [rows])
    have mlc : (v.lc, PySem.W.listOf v.vc.toArray v.nc) ∈ news := G.has (by simp [rows])
    subst eS0
    have DD := G.D
    have eS := Eq.refl lawS
    conv at eS => rhs; whnf
    have e0 := Eq.refl (nthS 3 loopB)
    conv at e0 => rhs; whnf
    rw [eS, e0]
    clear eS e0
    k_steps
    refine ret _ _ ?fin9
    refine' End.mk' ?T ?F ?N ?B ?D ?G ?a ?b ?c ?d ?e ?Y ?hc ?n
    case F => k_asm
    case N => k_asm
    case B => k_asm
    case D => k_asm
    case T => k_asm
    case G => exact by assumption
    case a => exact (by (repeat refine (if_neg (by decide)).trans ?_); first | exact if_pos rfl | assumption)
    case b => exact (by (repeat refine (if_neg (by decide)).trans ?_); first | exact if_pos rfl | assumption)
    case c => exact (by (repeat refine (if_neg (by decide)).trans ?_); first | exact if_pos rfl | assumption)
    case d => exact (by (repeat refine (if_neg (by decide)).trans ?_); first | exact if_pos rfl | assumption)
    case e => exact (by (repeat refine (if_neg (by decide)).trans ?_); first | exact if_pos rfl | assumption)
    case Y => exact ⟨Y.ma, Y.mt, Y.el, Y.ec⟩
    case hc => exact ⟨rfl, rfl⟩
    case n => omega)
end
section
local macro_rules | `(tactic| walk_at "call ref") => `(tactic| (k_here; k_dflt (show wpAny _ _ (PySem.call (Value.ref 325) [_, Value.none]) _ _ _); k_dflt (refine' wset_noneN ?XB ?TB ?B ?D ?T0 ?F ?N ?hk ?hdp ?hun ?hn ?G  ?_; (case B => k_asm); (case D => k_asm); (case T0 => first | assumption | exact KtsTurn.refl); (case F => k_asm); (case N => k_asm); (case XB => k_asm); (case TB => k_asm); (case hk => exact rfl); (case G => assumption); (case hdp => ktr_room); (case hun => ktr_room); (case hn => omega);  k_whole); intro h₀' h' tk' news' Fp' T' F' N' B' D' X' P' G'; (try dsimp only)))

set_option maxHeartbeats 8000000 in
theorem if2_N {w : World} {loose : List Str} {mean : ExcName → Option Value} {mg mb : Str → Option Value} {dp un : Nat} {gd : Option (List Code)} {a : Addr} {outer : List Env} {A₀ : Around} {base h₀ g₀ : Heap} {L : Addr} {m : Str → Option Value}
    {news : List (Addr × Obj)} {s : Shared} {Q : Flow → Shared → Prop} {E : Value → Shared → Prop} {v : V} {u : U} {n : Nat} {S0 : Stmt} {tk0 : Tok}
    (eS0 : S0 = nthS 3 loopB) (XB : (Mine.hd.heap_39 w.params).In base) (TB : Top topProg loose mean mg mb base) (CB : CodeHd base 352 348) (B : Below A₀ base outer h₀) (D : KtsDicts (frs outer) h₀) (T0 : KtsTurn (frs outer) g₀ h₀) (F : Fr h₀ L s.heap m) (N : News h₀ L s.heap news) (hdp : dp + 100 < recursionLimit) (hun : un + 500 < cLine) (hn : n ≤ 90) (G : St news v u false false false n) (nL : m "loaded" = some (.bool false)) (nM : m "marked" = some (.bool false)) (nS : m "sticky" = some (.bool false)) (nA : m "asked" = some (.ref u.la)) (nT : m "told" = some (.ref u.lt)) (Y : Same v u) (hkd : u.ok.data = .cell (some (.int 2 tk0))) 
    (ret : ∀ h' tk', End A₀ base outer g₀ L v u n h' → Q .next { s with heap := h', toks := tk' }) :
    wpAny (model PySem.Challenge.rw_am6027_01.row.prog w) (top none dp un gd "law" lawS L a (.ref 352) (lawCl v u) outer) (exec S0 (envX "law" lawS L a (.ref 352) (lawCl v u))) Q E s := by
  w_top off
  w_strict (
    revert XB
    k_fill
    intro XB
    have X := XB.keeps B.stays
    have T := TB.keeps B.stays
    have J := G.D.jars G.S
    have dcf := G.S.ocf
    have dcj := G.S.ocj
    have hoo := G.S.oo
    have mco : (u.co, u.oo) ∈ news := G.has (by simp [rows])
    have mck : (u.ck, u.ok) ∈ news := G.has (by simp [rows])
    have mcw : (u.cw, u.ow) ∈ news := G.has (by simp [rows])
    have mla : (u.la, PySem.W.listOf u.va.toArray u.na) ∈ news := G.has (by simp [rows])
    have mlt : (u.lt, PySem.W.listOf u.vt.toArray u.nt) ∈ news := G.has (by simp [rows])
    have mll : (v.ll, PySem.W.listOf v.vl.toArray v.nl) ∈ news := G.has (by simp [rows])
    have mlc : (v.lc, PySem.W.listOf v.vc.toArray v.nc) ∈ news := G.has (by simp [rows])
    subst eS0
    have DD := G.D
    have eS := Eq.refl lawS
    conv at eS => rhs; whnf
    have e0 := Eq.refl (nthS 3 loopB)
    conv at e0 => rhs; whnf
    rw [eS, e0]
    clear eS e0
    k_steps
    refine ret _ _ ?fin9
    refine' End.mk' ?T ?F ?N ?B ?D ?G ?a ?b ?c ?d ?e ?Y ?hc ?n
    case F => k_asm
    case N => k_asm
    case B => k_asm
    case D => k_asm
    case T => k_asm
    case G => exact by assumption
    case a => exact (by (repeat refine (if_neg (by decide)).trans ?_); first | exact if_pos rfl | assumption)
    case b => exact (by (repeat refine (if_neg (by decide)).trans ?_); first | exact if_pos rfl | assumption)
    case c => exact (by (repeat refine (if_neg (by decide)).trans ?_); first | exact if_pos rfl | assumption)
    case d => exact (by (repeat refine (if_neg (by decide)).trans ?_); first | exact if_pos rfl | assumption)
    case e => exact (by (repeat refine (if_neg (by decide)).trans ?_); first | exact if_pos rfl | assumption)
    case Y => exact ⟨Y.ma, Y.mt, Y.el, Y.ec⟩
    case hc => exact ⟨rfl, rfl⟩
    case n => omega)
end
section
local macro_rules | `(tactic| walk_at "no such line") => `(tactic| fail)
local macro_rules | `(tactic| walk_at "call ref") => `(tactic| (k_here; k_dflt (show wpAny _ _ (PySem.call (Value.ref 325) [_, Value.none]) _ _ _); k_dflt (refine' wset_none0 ?XB ?TB ?B ?D ?T0 ?F ?N ?hk ?hdp ?hun ?hn ?G  ?_; (case B => k_asm); (case D => k_asm); (case T0 => first | assumption | exact KtsTurn.refl); (case F => k_asm); (case N => k_asm); (case XB => k_asm); (case TB => k_asm); (case hk => exact rfl); (case G => assumption); (case hdp => ktr_room); (case hun => ktr_room); (case hn => omega);  k_whole); intro h₀' h' tk' news' Fp' T' F' N' B' D' X' P' G'; (try dsimp only)))

set_option maxHeartbeats 8000000 in
theorem if2_0 {w : World} {loose : List Str} {mean : ExcName → Option Value} {mg mb : Str → Option Value} {dp un : Nat} {gd : Option (List Code)} {a : Addr} {outer : List Env} {A₀ : Around} {base h₀ g₀ : Heap} {L : Addr} {m : Str → Option Value}
    {news : List (Addr × Obj)} {s : Shared} {Q : Flow → Shared → Prop} {E : Value → Shared → Prop} {v : V} {u : U} {n : Nat} {S0 : Stmt} {tk0 : Tok}
    (eS0 : S0 = nthS 3 loopB) (XB : (Mine.hd.heap_39 w.params).In base) (TB : Top topProg loose mean mg mb base) (CB : CodeHd base 352 348) (B : Below A₀ base outer h₀) (D : KtsDicts (frs outer) h₀) (T0 : KtsTurn (frs outer) g₀ h₀) (F : Fr h₀ L s.heap m) (N : News h₀ L s.heap news) (hdp : dp + 100 < recursionLimit) (hun : un + 500 < cLine) (hn : n ≤ 90) (G : St news v u true false false n) (nL : m "loaded" = some (.bool true)) (nM : m "marked" = some (.bool false)) (nS : m "sticky" = some (.bool false)) (nA : m "asked" = some (.ref u.la)) (nT : m "told" = some (.ref u.lt)) (Y : Same v u) (hkd : u.ok.data = .cell (some (.int 2 tk0))) 
    (ret : ∀ h' tk', End A₀ base outer g₀ L v u n h' → Q .next { s with heap := h', toks := tk' }) :
    wpAny (model PySem.Challenge.rw_am6027_01.row.prog w) (top none dp un gd "law" lawS L a (.ref 352) (lawCl v u) outer) (exec S0 (envX "law" lawS L a (.ref 352) (lawCl v u))) Q E s := by
  w_top off
  w_strict (
    revert XB
    k_fill
    intro XB
    have X := XB.keeps B.stays
    have T := TB.keeps B.stays
    have J := G.D.jars G.S
    have dcf := G.S.ocf
    have dcj := G.S.ocj
    have hoo := G.S.oo
    have mco : (u.co, u.oo) ∈ news := G.has (by simp [rows])
    have mck : (u.ck, u.ok) ∈ news := G.has (by simp [rows])
    have mcw : (u.cw, u.ow) ∈ news := G.has (by simp [rows])
    have mla : (u.la, PySem.W.listOf u.va.toArray u.na) ∈ news := G.has (by simp [rows])
    have mlt : (u.lt, PySem.W.listOf u.vt.toArray u.nt) ∈ news := G.has (by simp [rows])
    have mll : (v.ll, PySem.W.listOf v.vl.toArray v.nl) ∈ news := G.has (by simp [rows])
    have mlc : (v.lc, PySem.W.listOf v.vc.toArray v.nc) ∈ news := G.has (by simp [rows])
    subst eS0
    have DD := G.D
    have eS := Eq.refl lawS
    conv at eS => rhs; whnf
    have e0 := Eq.refl (nthS 3 loopB)
    conv at e0 => rhs; whnf
    rw [eS, e0]
    clear eS e0
    k_steps
    refine ret _ _ ?fin9
    refine' End.mk' ?T ?F ?N ?B ?D ?G ?a ?b ?c ?d ?e ?Y ?hc ?n
    case F => k_asm
    case N => k_asm
    case B => k_asm
    case D => k_asm
    case T => k_asm
    case G => exact by assumption
    case a => exact (by (repeat refine (if_neg (by decide)).trans ?_); first | exact if_pos rfl | assumption)
    case b => exact (by (repeat refine (if_neg (by decide)).trans ?_); first | exact if_pos rfl | assumption)
    case c => exact (by (repeat refine (if_neg (by decide)).trans ?_); first | exact if_pos rfl | assumption)
    case d => exact (by (repeat refine (if_neg (by decide)).trans ?_); first | exact if_pos rfl | assumption)
    case e => exact (by (repeat refine (if_neg (by decide)).trans ?_); first | exact if_pos rfl | assumption)
    case Y => exact ⟨Y.ma, Y.mt, Y.el, Y.ec⟩
    case hc => exact ⟨rfl, rfl⟩
    case n => omega)
end
section
local macro_rules | `(tactic| walk_at "call ref") => `(tactic| (k_here; k_dflt (show wpAny _ _ (PySem.call (Value.ref 325) [_, Value.none]) _ _ _); k_dflt (refine' wset_none2 ?XB ?TB ?B ?D ?T0 ?F ?N ?hk ?hdp ?hun ?hn ?G  ?_; (case B => k_asm); (case D => k_asm); (case T0 => first | assumption | exact KtsTurn.refl); (case F => k_asm); (case N => k_asm); (case XB => k_asm); (case TB => k_asm); (case hk => exact rfl); (case G => assumption); (case hdp => ktr_room); (case hun => ktr_room); (case hn => omega);  k_whole); intro h₀' h' tk' news' Fp' T' F' N' B' D' X' P' G'; (try dsimp only)))

set_option maxHeartbeats 8000000 in
theorem if2_2 {w : World} {loose : List Str} {mean : ExcName → Option Value} {mg mb : Str → Option Value} {dp un : Nat} {gd : Option (List Code)} {a : Addr} {outer : List Env} {A₀ : Around} {base h₀ g₀ : Heap} {L : Addr} {m : Str → Option Value}
    {news : List (Addr × Obj)} {s : Shared} {Q : Flow → Shared → Prop} {E : Value → Shared → Prop} {v : V} {u : U} {n : Nat} {S0 : Stmt} {tk0 : Tok}
    (eS0 : S0 = nthS 3 loopB) (XB : (Mine.hd.heap_39 w.params).In base) (TB : Top topProg loose mean mg mb base) (CB : CodeHd base 352 348) (B : Below A₀ base outer h₀) (D : KtsDicts (frs outer) h₀) (T0 : KtsTurn (frs outer) g₀ h₀) (F : Fr h₀ L s.heap m) (N : News h₀ L s.heap news) (hdp : dp + 100 < recursionLimit) (hun : un + 500 < cLine) (hn : n ≤ 90) (G : St news v u true false true n) (nL : m "loaded" = some (.bool true)) (nM : m "marked" = some (.bool false)) (nS : m "sticky" = some (.bool true)) (nA : m "asked" = some (.ref u.la)) (nT : m "told" = some (.ref u.lt)) (Y : Same v u) (hkd : u.ok.data = .cell (some (.int 2 tk0))) 
    (ret : ∀ h' tk', End A₀ base outer g₀ L v u n h' → Q .next { s with heap := h', toks := tk' }) :
    wpAny (model PySem.Challenge.rw_am6027_01.row.prog w) (top none dp un gd "law" lawS L a (.ref 352) (lawCl v u) outer) (exec S0 (envX "law" lawS L a (.ref 352) (lawCl v u))) Q E s := by
  w_top off
  w_strict (
    revert XB
    k_fill
    intro XB
    have X := XB.keeps B.stays
    have T := TB.keeps B.stays
    have J := G.D.jars G.S
    have dcf := G.S.ocf
    have dcj := G.S.ocj
    have hoo := G.S.oo
    have mco : (u.co, u.oo) ∈ news := G.has (by simp [rows])
    have mck : (u.ck, u.ok) ∈ news := G.has (by simp [rows])
    have mcw : (u.cw, u.ow) ∈ news := G.has (by simp [rows])
    have mla : (u.la, PySem.W.listOf u.va.toArray u.na) ∈ news := G.has (by simp [rows])
    have mlt : (u.lt, PySem.W.listOf u.vt.toArray u.nt) ∈ news := G.has (by simp [rows])
    have mll : (v.ll, PySem.W.listOf v.vl.toArray v.nl) ∈ news := G.has (by simp [rows])
    have mlc : (v.lc, PySem.W.listOf v.vc.toArray v.nc) ∈ news := G.has (by simp [rows])
    subst eS0
    have DD := G.D
    have eS := Eq.refl lawS
    conv at eS => rhs; whnf
    have e0 := Eq.refl (nthS 3 loopB)
    conv at e0 => rhs; whnf
    rw [eS, e0]
    clear eS e0
    k_steps
    refine ret _ _ ?fin9
    refine' End.mk' ?T ?F ?N ?B ?D ?G ?a ?b ?c ?d ?e ?Y ?hc ?n
    case F => k_asm
    case N => k_asm
    case B => k_asm
    case D => k_asm
    case T => k_asm
    case G => exact by assumption
    case a => exact (by (repeat refine (if_neg (by decide)).trans ?_); first | exact if_pos rfl | assumption)
    case b => exact (by (repeat refine (if_neg (by decide)).trans ?_); first | exact if_pos rfl | assumption)
    case c => exact (by (repeat refine (if_neg (by decide)).trans ?_); first | exact if_pos rfl | assumption)
    case d => exact (by (repeat refine (if_neg (by decide)).trans ?_); first | exact if_pos rfl | assumption)
    case e => exact (by (repeat refine (if_neg (by decide)).trans ?_); first | exact if_pos rfl | assumption)
    case Y => exact ⟨Y.ma, Y.mt, Y.el, Y.ec⟩
    case hc => exact ⟨rfl, rfl⟩
    case n => omega)
end
section
local macro_rules | `(tactic| walk_at "no such line") => `(tactic| fail)
local macro_rules | `(tactic| walk_at "call ref") => `(tactic| (k_here; k_dflt (show wpAny _ _ (PySem.call (Value.ref 325) [_, Value.none]) _ _ _); k_dflt (refine' wset_none1 ?XB ?TB ?B ?D ?T0 ?F ?N ?hk ?hdp ?hun ?hn ?G  ?_; (case B => k_asm); (case D => k_asm); (case T0 => first | assumption | exact KtsTurn.refl); (case F => k_asm); (case N => k_asm); (case XB => k_asm); (case TB => k_asm); (case hk => exact rfl); (case G => assumption); (case hdp => ktr_room); (case hun => ktr_room); (case hn => omega);  k_whole); intro h₀' h' tk' news' Fp' T' F' N' B' D' X' P' G'; (try dsimp only)))

set_option maxHeartbeats 8000000 in
theorem if2_1 {w : World} {loose : List Str} {mean : ExcName → Option Value} {mg mb : Str → Option Value} {dp un : Nat} {gd : Option (List Code)} {a : Addr} {outer : List Env} {A₀ : Around} {base h₀ g₀ : Heap} {L : Addr} {m : Str → Option Value}
    {news : List (Addr × Obj)} {s : Shared} {Q : Flow → Shared → Prop} {E : Value → Shared → Prop} {v : V} {u : U} {n : Nat} {S0 : Stmt} {st : Bool} {tk0 : Tok}
    (eS0 : S0 = nthS 3 loopB) (XB : (Mine.hd.heap_39 w.params).In base) (TB : Top topProg loose mean mg mb base) (CB : CodeHd base 352 348) (B : Below A₀ base outer h₀) (D : KtsDicts (frs outer) h₀) (T0 : KtsTurn (frs outer) g₀ h₀) (F : Fr h₀ L s.heap m) (N : News h₀ L s.heap news) (hdp : dp + 100 < recursionLimit) (hun : un + 500 < cLine) (hn : n ≤ 90) (G : St news v u true true st n) (nL : m "loaded" = some (.bool true)) (nM : m "marked" = some (.bool true)) (nS : m "sticky" = some (.bool st)) (nA : m "asked" = some (.ref u.la)) (nT : m "told" = some (.ref u.lt)) (Y : Same v u) (hkd : u.ok.data = .cell (some (.int 2 tk0))) 
    (ret : ∀ h' tk', End A₀ base outer g₀ L v u n h' → Q .next { s with heap := h', toks := tk' }) :
    wpAny (model PySem.Challenge.rw_am6027_01.row.prog w) (top none dp un gd "law" lawS L a (.ref 352) (lawCl v u) outer) (exec S0 (envX "law" lawS L a (.ref 352) (lawCl v u))) Q E s := by
  w_top off
  w_strict (
    revert XB
    k_fill
    intro XB
    have X := XB.keeps B.stays
    have T := TB.keeps B.stays
    have J := G.D.jars G.S
    have dcf := G.S.ocf
    have dcj := G.S.ocj
    have hoo := G.S.oo
    have mco : (u.co, u.oo) ∈ news := G.has (by simp [rows])
    have mck : (u.ck, u.ok) ∈ news := G.has (by simp [rows])
    have mcw : (u.cw, u.ow) ∈ news := G.has (by simp [rows])
    have mla : (u.la, PySem.W.listOf u.va.toArray u.na) ∈ news := G.has (by simp [rows])
    have mlt : (u.lt, PySem.W.listOf u.vt.toArray u.nt) ∈ news := G.has (by simp [rows])
    have mll : (v.ll, PySem.W.listOf v.vl.toArray v.nl) ∈ news := G.has (by simp [rows])
    have mlc : (v.lc, PySem.W.listOf v.vc.toArray v.nc) ∈ news := G.has (by simp [rows])
    subst eS0
    have DD := G.D
    have eS := Eq.refl lawS
    conv at eS => rhs; whnf
    have e0 := Eq.refl (nthS 3 loopB)
    conv at e0 => rhs; whnf
    rw [eS, e0]
    clear eS e0
    k_steps
    refine ret _ _ ?fin9
    refine' End.mk' ?T ?F ?N ?B ?D ?G ?a ?b ?c ?d ?e ?Y ?hc ?n
    case F => k_asm
    case N => k_asm
    case B => k_asm
    case D => k_asm
    case T => k_asm
    case G => exact by assumption
    case a => exact (by (repeat refine (if_neg (by decide)).trans ?_); first | exact if_pos rfl | assumption)
    case b => exact (by (repeat refine (if_neg (by decide)).trans ?_); first | exact if_pos rfl | assumption)
    case c => exact (by (repeat refine (if_neg (by decide)).trans ?_); first | exact if_pos rfl | assumption)
    case d => exact (by (repeat refine (if_neg (by decide)).trans ?_); first | exact if_pos rfl | assumption)
    case e => exact (by (repeat refine (if_neg (by decide)).trans ?_); first | exact if_pos rfl | assumption)
    case Y => exact ⟨Y.ma, Y.mt, Y.el, Y.ec⟩
    case hc => exact ⟨rfl, rfl⟩
    case n => omega)
end
section
local macro_rules | `(tactic| walk_at "call ref") => `(tactic| (k_here; k_dflt (show wpAny _ _ (PySem.call (Value.ref 223) [_, Value.bool true]) _ _ _); k_dflt (refine' wstick_true ?XB ?TB ?B ?D ?T0 ?F ?N ?hk ?hdp ?hun ?hn ?G  ?_; (case B => k_asm); (case D => k_asm); (case T0 => first | assumption | exact KtsTurn.refl); (case F => k_asm); (case N => k_asm); (case XB => k_asm); (case TB => k_asm); (case hk => exact rfl); (case G => assumption); (case hdp => ktr_room); (case hun => ktr_room); (case hn => omega);  k_whole); intro h₀' h' tk' news' Fp' T' F' N' B' D' X' P' G'; (try dsimp only)))

set_option maxHeartbeats 8000000 in
theorem if6_0 {w : World} {loose : List Str} {mean : ExcName → Option Value} {mg mb : Str → Option Value} {dp un : Nat} {gd : Option (List Code)} {a : Addr} {outer : List Env} {A₀ : Around} {base h₀ g₀ : Heap} {L : Addr} {m : Str → Option Value}
    {news : List (Addr × Obj)} {s : Shared} {Q : Flow → Shared → Prop} {E : Value → Shared → Prop} {v : V} {u : U} {n : Nat} {S0 : Stmt} {mk st : Bool} {tk0 : Tok} {q : Int} {tq : Tok}
    (eS0 : S0 = nthS 3 loopB) (XB : (Mine.hd.heap_39 w.params).In base) (TB : Top topProg loose mean mg mb base) (CB : CodeHd base 352 348) (B : Below A₀ base outer h₀) (D : KtsDicts (frs outer) h₀) (T0 : KtsTurn (frs outer) g₀ h₀) (F : Fr h₀ L s.heap m) (N : News h₀ L s.heap news) (hdp : dp + 100 < recursionLimit) (hun : un + 500 < cLine) (hn : n ≤ 90) (G : St news v u true mk st n) (nL : m "loaded" = some (.bool true)) (nM : m "marked" = some (.bool mk)) (nS : m "sticky" = some (.bool st)) (nA : m "asked" = some (.ref u.la)) (nT : m "told" = some (.ref u.lt)) (Y : Same v u) (hkd : u.ok.data = .cell (some (.int 6 tk0))) (nQ : m "more" = some (.int q tq)) (h2 : Int.fmod q 2 = 0)
    (ret : ∀ h' tk', End A₀ base outer g₀ L v u n h' → Q .next { s with heap := h', toks := tk' }) :
    wpAny (model PySem.Challenge.rw_am6027_01.row.prog w) (top none dp un gd "law" lawS L a (.ref 352) (lawCl v u) outer) (exec S0 (envX "law" lawS L a (.ref 352) (lawCl v u))) Q E s := by
  w_top off
  w_strict (
    revert XB
    k_fill
    intro XB
    have X := XB.keeps B.stays
    have T := TB.keeps B.stays
    have J := G.D.jars G.S
    have dcf := G.S.ocf
    have dcj := G.S.ocj
    have hoo := G.S.oo
    have mco : (u.co, u.oo) ∈ news := G.has (by simp [rows])
    have mck : (u.ck, u.ok) ∈ news := G.has (by simp [rows])
    have mcw : (u.cw, u.ow) ∈ news := G.has (by simp [rows])
    have mla : (u.la, PySem.W.listOf u.va.toArray u.na) ∈ news := G.has (by simp [rows])
    have mlt : (u.lt, PySem.W.listOf u.vt.toArray u.nt) ∈ news := G.has (by simp [rows])
    have mll : (v.ll, PySem.W.listOf v.vl.toArray v.nl) ∈ news := G.has (by simp [rows])
    have mlc : (v.lc, PySem.W.listOf v.vc.toArray v.nc) ∈ news := G.has (by simp [rows])
    subst eS0
    have DD := G.D
    have eS := Eq.refl lawS
    conv at eS => rhs; whnf
    have e0 := Eq.refl (nthS 3 loopB)
    conv at e0 => rhs; whnf
    rw [eS, e0]
    clear eS e0
    k_steps
    refine ret _ _ ?fin9
    refine' End.mk' ?T ?F ?N ?B ?D ?G ?a ?b ?c ?d ?e ?Y ?hc ?n
    case F => k_asm
    case N => k_asm
    case B => k_asm
    case D => k_asm
    case T => k_asm
    case G => exact by assumption
    case a => exact (by (repeat refine (if_neg (by decide)).trans ?_); first | exact if_pos rfl | assumption)
    case b => exact (by (repeat refine (if_neg (by decide)).trans ?_); first | exact if_pos rfl | assumption)
    case c => exact (by (repeat refine (if_neg (by decide)).trans ?_); first | exact if_pos rfl | assumption)
    case d => exact (by (repeat refine (if_neg (by decide)).trans ?_); first | exact if_pos rfl | assumption)
    case e => exact (by (repeat refine (if_neg (by decide)).trans ?_); first | exact if_pos rfl | assumption)
    case Y => exact ⟨Y.ma, Y.mt, Y.el, Y.ec⟩
    case hc => exact ⟨rfl, rfl⟩
    case n => omega)
end
section
local macro_rules | `(tactic| walk_at "no such line") => `(tactic| fail)
local macro_rules | `(tactic| walk_at "call ref") => `(tactic| (k_here; k_dflt (show wpAny _ _ (PySem.call (Value.ref 223) [_, Value.bool false]) _ _ _); k_dflt (refine' wstick_false ?XB ?TB ?B ?D ?T0 ?F ?N ?hk ?hdp ?hun ?hn ?G  ?_; (case B => k_asm); (case D => k_asm); (case T0 => first | assumption | exact KtsTurn.refl); (case F => k_asm); (case N => k_asm); (case XB => k_asm); (case TB => k_asm); (case hk => exact rfl); (case G => assumption); (case hdp => ktr_room); (case hun => ktr_room); (case hn => omega);  k_whole); intro h₀' h' tk' news' Fp' T' F' N' B' D' X' P' G'; (try dsimp only)))

set_option maxHeartbeats 8000000 in
theorem if6_1 {w : World} {loose : List Str} {mean : ExcName → Option Value} {mg mb : Str → Option Value} {dp un : Nat} {gd : Option (List Code)} {a : Addr} {outer : List Env} {A₀ : Around} {base h₀ g₀ : Heap} {L : Addr} {m : Str → Option Value}
    {news : List (Addr × Obj)} {s : Shared} {Q : Flow → Shared → Prop} {E : Value → Shared → Prop} {v : V} {u : U} {n : Nat} {S0 : Stmt} {mk st : Bool} {tk0 : Tok} {q : Int} {tq : Tok}
    (eS0 : S0 = nthS 3 loopB) (XB : (Mine.hd.heap_39 w.params).In base) (TB : Top topProg loose mean mg mb base) (CB : CodeHd base 352 348) (B : Below A₀ base outer h₀) (D : KtsDicts (frs outer) h₀) (T0 : KtsTurn (frs outer) g₀ h₀) (F : Fr h₀ L s.heap m) (N : News h₀ L s.heap news) (hdp : dp + 100 < recursionLimit) (hun : un + 500 < cLine) (hn : n ≤ 90) (G : St news v u true mk st n) (nL : m "loaded" = some (.bool true)) (nM : m "marked" = some (.bool mk)) (nS : m "sticky" = some (.bool st)) (nA : m "asked" = some (.ref u.la)) (nT : m "told" = some (.ref u.lt)) (Y : Same v u) (hkd : u.ok.data = .cell (some (.int 6 tk0))) (nQ : m "more" = some (.int q tq)) (h2 : Int.fmod q 2 = 1)
    (ret : ∀ h' tk', End A₀ base outer g₀ L v u n h' → Q .next { s with heap := h', toks := tk' }) :
    wpAny (model PySem.Challenge.rw_am6027_01.row.prog w) (top none dp un gd "law" lawS L a (.ref 352) (lawCl v u) outer) (exec S0 (envX "law" lawS L a (.ref 352) (lawCl v u))) Q E s := by
  w_top off
  w_strict (
    revert XB
    k_fill
    intro XB
    have X := XB.keeps B.stays
    have T := TB.keeps B.stays
    have J := G.D.jars G.S
    have dcf := G.S.ocf
    have dcj := G.S.ocj
    have hoo := G.S.oo
    have mco : (u.co, u.oo) ∈ news := G.has (by simp [rows])
    have mck : (u.ck, u.ok) ∈ news := G.has (by simp [rows])
    have mcw : (u.cw, u.ow) ∈ news := G.has (by simp [rows])
    have mla : (u.la, PySem.W.listOf u.va.toArray u.na) ∈ news := G.has (by simp [rows])
    have mlt : (u.lt, PySem.W.listOf u.vt.toArray u.nt) ∈ news := G.has (by simp [rows])
    have mll : (v.ll, PySem.W.listOf v.vl.toArray v.nl) ∈ news := G.has (by simp [rows])
    have mlc : (v.lc, PySem.W.listOf v.vc.toArray v.nc) ∈ news := G.has (by simp [rows])
    subst eS0
    have DD := G.D
    have eS := Eq.refl lawS
    conv at eS => rhs; whnf
    have e0 := Eq.refl (nthS 3 loopB)
    conv at e0 => rhs; whnf
    rw [eS, e0]
    clear eS e0
    k_steps
    refine ret _ _ ?fin9
    refine' End.mk' ?T ?F ?N ?B ?D ?G ?a ?b ?c ?d ?e ?Y ?hc ?n
    case F => k_asm
    case N => k_asm
    case B => k_asm
    case D => k_asm
    case T => k_asm
    case G => exact by assumption
    case a => exact (by (repeat refine (if_neg (by decide)).trans ?_); first | exact if_pos rfl | assumption)
    case b => exact (by (repeat refine (if_neg (by decide)).trans ?_); first | exact if_pos rfl | assumption)
    case c => exact (by (repeat refine (if_neg (by decide)).trans ?_); first | exact if_pos rfl | assumption)
    case d => exact (by (repeat refine (if_neg (by decide)).trans ?_); first | exact if_pos rfl | assumption)
    case e => exact (by (repeat refine (if_neg (by decide)).trans ?_); first | exact if_pos rfl | assumption)
    case Y => exact ⟨Y.ma, Y.mt, Y.el, Y.ec⟩
    case hc => exact ⟨rfl, rfl⟩
    case n => omega)
end
section

set_option maxHeartbeats 8000000 in
theorem if6_N {w : World} {loose : List Str} {mean : ExcName → Option Value} {mg mb : Str → Option Value} {dp un : Nat} {gd : Option (List Code)} {a : Addr} {outer : List Env} {A₀ : Around} {base h₀ g₀ : Heap} {L : Addr} {m : Str → Option Value}
    {news : List (Addr × Obj)} {s : Shared} {Q : Flow → Shared → Prop} {E : Value → Shared → Prop} {v : V} {u : U} {n : Nat} {S0 : Stmt} {tk0 : Tok}
    (eS0 : S0 = nthS 3 loopB) (XB : (Mine.hd.heap_39 w.params).In base) (TB : Top topProg loose mean mg mb base) (CB : CodeHd base 352 348) (B : Below A₀ base outer h₀) (D : KtsDicts (frs outer) h₀) (T0 : KtsTurn (frs outer) g₀ h₀) (F : Fr h₀ L s.heap m) (N : News h₀ L s.heap news) (hdp : dp + 100 < recursionLimit) (hun : un + 500 < cLine) (hn : n ≤ 90) (G : St news v u false false false n) (nL : m "loaded" = some (.bool false)) (nM : m "marked" = some (.bool false)) (nS : m "sticky" = some (.bool false)) (nA : m "asked" = some (.ref u.la)) (nT : m "told" = some (.ref u.lt)) (Y : Same v u) (hkd : u.ok.data = .cell (some (.int 6 tk0))) 
    (ret : ∀ h' tk', End A₀ base outer g₀ L v u n h' → Q .next { s with heap := h', toks := tk' }) :
    wpAny (model PySem.Challenge.rw_am6027_01.row.prog w) (top none dp un gd "law" lawS L a (.ref 352) (lawCl v u) outer) (exec S0 (envX "law" lawS L a (.ref 352) (lawCl v u))) Q E s := by
  w_top off
  w_strict (
    revert XB
    k_fill
    intro XB
    have X := XB.keeps B.stays
    have T := TB.keeps B.stays
    have J := G.D.jars G.S
    have dcf := G.S.ocf
    have dcj := G.S.ocj
    have hoo := G.S.oo
    have mco : (u.co, u.oo) ∈ news := G.has (by simp [rows])
    have mck : (u.ck, u.ok) ∈ news := G.has (by simp [rows])
    have mcw : (u.cw, u.ow) ∈ news := G.has (by simp [rows])
    have mla : (u.la, PySem.W.listOf u.va.toArray u.na) ∈ news := G.has (by simp [rows])
    have mlt : (u.lt, PySem.W.listOf u.vt.toArray u.nt) ∈ news := G.has (by simp [rows])
    have mll : (v.ll, PySem.W.listOf v.vl.toArray v.nl) ∈ news := G.has (by simp [rows])
    have mlc : (v.lc, PySem.W.listOf v.vc.toArray v.nc) ∈ news := G.has (by simp [rows])
    subst eS0
    have DD := G.D
    have eS := Eq.refl lawS
    conv at eS => rhs; whnf
    have e0 := Eq.refl (nthS 3 loopB)
    conv at e0 => rhs; whnf
    rw [eS, e0]
    clear eS e0
    k_steps
    refine ret _ _ ?fin9
    refine' End.mk' ?T ?F ?N ?B ?D ?G ?a ?b ?c ?d ?e ?Y ?hc ?n
    case F => k_asm
    case N => k_asm
    case B => k_asm
    case D => k_asm
    case T => k_asm
    case G => exact G
    case a => exact (by (repeat refine (if_neg (by decide)).trans ?_); first | exact if_pos rfl | assumption)
    case b => exact (by (repeat refine (if_neg (by decide)).trans ?_); first | exact if_pos rfl | assumption)
    case c => exact (by (repeat refine (if_neg (by decide)).trans ?_); first | exact if_pos rfl | assumption)
    case d => exact (by (repeat refine (if_neg (by decide)).trans ?_); first | exact if_pos rfl | assumption)
    case e => exact (by (repeat refine (if_neg (by decide)).trans ?_); first | exact if_pos rfl | assumption)
    case Y => exact ⟨Y.ma, Y.mt, Y.el, Y.ec⟩
    case hc => exact ⟨rfl, rfl⟩
    case n => omega)
end
section
local macro_rules | `(tactic| walk_at "no such line") => `(tactic| fail)

set_option maxHeartbeats 8000000 in
theorem if7_N {w : World} {loose : List Str} {mean : ExcName → Option Value} {mg mb : Str → Option Value} {dp un : Nat} {gd : Option (List Code)} {a : Addr} {outer : List Env} {A₀ : Around} {base h₀ g₀ : Heap} {L : Addr} {m : Str → Option Value}
    {news : List (Addr × Obj)} {s : Shared} {Q : Flow → Shared → Prop} {E : Value → Shared → Prop} {v : V} {u : U} {n : Nat} {S0 : Stmt} {tk0 : Tok}
    (eS0 : S0 = nthS 3 loopB) (XB : (Mine.hd.heap_39 w.params).In base) (TB : Top topProg loose mean mg mb base) (CB : CodeHd base 352 348) (B : Below A₀ base outer h₀) (D : KtsDicts (frs outer) h₀) (T0 : KtsTurn (frs outer) g₀ h₀) (F : Fr h₀ L s.heap m) (N : News h₀ L s.heap news) (hdp : dp + 100 < recursionLimit) (hun : un + 500 < cLine) (hn : n ≤ 90) (G : St news v u false false false n) (nL : m "loaded" = some (.bool false)) (nM : m "marked" = some (.bool false)) (nS : m "sticky" = some (.bool false)) (nA : m "asked" = some (.ref u.la)) (nT : m "told" = some (.ref u.lt)) (Y : Same v u) (hkd : u.ok.data = .cell (some (.int 7 tk0))) 
    (ret : ∀ h' tk', End A₀ base outer g₀ L v u n h' → Q .next { s with heap := h', toks := tk' }) :
    wpAny (model PySem.Challenge.rw_am6027_01.row.prog w) (top none dp un gd "law" lawS L a (.ref 352) (lawCl v u) outer) (exec S0 (envX "law" lawS L a (.ref 352) (lawCl v u))) Q E s := by
  w_top off
  w_strict (
    revert XB
    k_fill
    intro XB
    have X := XB.keeps B.stays
    have T := TB.keeps B.stays
    have J := G.D.jars G.S
    have dcf := G.S.ocf
    have dcj := G.S.ocj
    have hoo := G.S.oo
    have mco : (u.co, u.oo) ∈ news := G.has (by simp [rows])
    have mck : (u.ck, u.ok) ∈ news := G.has (by simp [rows])
    have mcw : (u.cw, u.ow) ∈ news := G.has (by simp [rows])
    have mla : (u.la, PySem.W.listOf u.va.toArray u.na) ∈ news := G.has (by simp [rows])
    have mlt : (u.lt, PySem.W.listOf u.vt.toArray u.nt) ∈ news := G.has (by simp [rows])
    have mll : (v.ll, PySem.W.listOf v.vl.toArray v.nl) ∈ news := G.has (by simp [rows])
    have mlc : (v.lc, PySem.W.listOf v.vc.toArray v.nc) ∈ news := G.has (by simp [rows])
    subst eS0
    have DD := G.D
    have eS := Eq.refl lawS
    conv at eS => rhs; whnf
    have e0 := Eq.refl (nthS 3 loopB)
    conv at e0 => rhs; whnf
    rw [eS, e0]
    clear eS e0
    k_steps
    refine ret _ _ ?fin9
    refine' End.mk' ?T ?F ?N ?B ?D ?G ?a ?b ?c ?d ?e ?Y ?hc ?n
    case F => k_asm
    case N => k_asm
    case B => k_asm
    case D => k_asm
    case T => k_asm
    case G => exact G
    case a => exact (by (repeat refine (if_neg (by decide)).trans ?_); first | exact if_pos rfl | assumption)
    case b => exact (by (repeat refine (if_neg (by decide)).trans ?_); first | exact if_pos rfl | assumption)
    case c => exact (by (repeat refine (if_neg (by decide)).trans ?_); first | exact if_pos rfl | assumption)
    case d => exact (by (repeat refine (if_neg (by decide)).trans ?_); first | exact if_pos rfl | assumption)
    case e => exact (by (repeat refine (if_neg (by decide)).trans ?_); first | exact if_pos rfl | assumption)
    case Y => exact ⟨Y.ma, Y.mt, Y.el, Y.ec⟩
    case hc => exact ⟨rfl, rfl⟩
    case n => omega)
end
section
local macro_rules | `(tactic| k_mem) => `(tactic| first | assumption | exact St.mcoW (by assumption) | exact St.mckW (by assumption) | exact St.mcwW (by assumption) | exact St.mltP (by assumption) | (refine' Jars.x' ?J ?h; (case J => first | assumption | exact St.J (by assumption)); (case h => exact rfl)) | (refine' Jars.dx' ?J ?h; (case J => first | assumption | exact St.J (by assumption)); (case h => exact rfl)) | (refine' Led.mfl ?J; (case J => first | assumption | exact St.D (by assumption))) | (refine' Led.mcf ?J; (case J => first | assumption | exact St.D (by assumption))))
local macro_rules | `(tactic| k_upd) => `(tactic| first | assumption | exact St.uTP (by assumption))
local macro_rules | `(tactic| walk_at "exec Assign") => `(tactic| (k_here; k_dflt (refine' B1 ?eS ?XB ?TB ?CB ?B ?D ?T0 ?F ?N ?hdp ?hun ?hn ?G ?nL ?nM ?nS ?nA ?nT ?nQ ?_; (case eS => rfl); (case B => k_asm); (case D => k_asm); (case T0 => first | assumption | exact KtsTurn.refl); (case F => k_asm); (case N => k_asm); (case XB => k_asm); (case TB => k_asm); (case CB => assumption); (case G => assumption); (case hdp => assumption); (case hun => assumption); (case hn => assumption); (case nL => assumption); (case nM => assumption); (case nS => assumption); (case nA => assumption); (case nT => assumption); (case nQ => assumption); k_whole); intro h' tk' news' z' o' F' N' G' W' d'; (try dsimp only)))

local macro_rules | `(tactic| walk_at "eval Lambda IfExp") => `(tactic| (k_here; k_dflt (refine' mk_deed ?F ?N ?T ?C ?G ?hk ?hw ?e1 ?e2 ?_; (case F => k_asm); (case N => k_asm); (case T => k_asm); (case C => kn_code); (case G => assumption); (case hk => assumption); (case hw => assumption); (case e1 => rfl); (case e2 => rfl); k_whole); intro f' h' tk' news' ps' F' N' kp' G' DD'))
local macro_rules | `(tactic| walk_at "eval Lambda Call") => `(tactic| (k_here; k_dflt (refine' mk_reg ?F ?N ?T ?C ?G ?e2 ?_; (case F => k_asm); (case N => k_asm); (case T => k_asm); (case C => kn_code); (case G => assumption); (case e2 => rfl); k_whole); intro f' h' tk' news' ps' F' N' G' DD'))
local macro_rules | `(tactic| walk_at "call ref") => `(tactic| (k_here; k_dflt (show wpAny _ _ (PySem.call (Value.ref 339) [_]) _ _ _); k_dflt (refine' wtr_ok ?XB ?TB ?B ?D ?T0 ?F ?N ?hk ?hdp ?hun ?hn ?G ?DD ?hf ?_; (case B => k_asm); (case D => k_asm); (case T0 => first | assumption | exact KtsTurn.refl); (case F => k_asm); (case N => k_asm); (case XB => k_asm); (case TB => k_asm); (case hk => exact rfl); (case G => assumption); (case hdp => ktr_room); (case hun => ktr_room); (case hn => omega); (case DD => assumption); (case hf => assumption); k_whole); intro h₀' h' tk' ts' news' T' F' N' B' D' X' P' G'; (try dsimp only)))

set_option maxHeartbeats 8000000 in
theorem if7r_ok {w : World} {loose : List Str} {mean : ExcName → Option Value} {mg mb : Str → Option Value} {dp un : Nat} {gd : Option (List Code)} {a : Addr} {outer : List Env} {A₀ : Around} {base h₀ g₀ : Heap} {L : Addr} {m : Str → Option Value}
    {news : List (Addr × Obj)} {s : Shared} {Q : Flow → Shared → Prop} {E : Value → Shared → Prop} {v : V} {u : U} {n : Nat} {S0 : Stmt} {mk st : Bool} {tk0 : Tok} {q : Int} {tq : Tok}
    (eS0 : S0 = nthS 3 loopB) (XB : (Mine.hd.heap_39 w.params).In base) (TB : Top topProg loose mean mg mb base) (CB : CodeHd base 352 348) (B : Below A₀ base outer h₀) (D : KtsDicts (frs outer) h₀) (T0 : KtsTurn (frs outer) g₀ h₀) (F : Fr h₀ L s.heap m) (N : News h₀ L s.heap news) (hdp : dp + 100 < recursionLimit) (hun : un + 500 < cLine) (hn : n ≤ 90) (G : St news v u true mk st n) (nL : m "loaded" = some (.bool true)) (nM : m "marked" = some (.bool mk)) (nS : m "sticky" = some (.bool st)) (nA : m "asked" = some (.ref u.la)) (nT : m "told" = some (.ref u.lt)) (Y : Same v u) (hkd : u.ok.data = .cell (some (.int 7 tk0))) (nQ : m "more" = some (.int q tq)) (h3 : Int.fmod q 3 = 2) (hf : v.f1 = false)
    (ret : ∀ h' tk', End A₀ base outer g₀ L v u n h' → Q .next { s with heap := h', toks := tk' }) :
    wpAny (model PySem.Challenge.rw_am6027_01.row.prog w) (top none dp un gd "law" lawS L a (.ref 352) (lawCl v u) outer) (exec S0 (envX "law" lawS L a (.ref 352) (lawCl v u))) Q E s := by
  w_top off
  w_strict (
    revert XB
    k_fill
    intro XB
    have X := XB.keeps B.stays
    have T := TB.keeps B.stays
    have J := G.D.jars G.S
    have dcf := G.S.ocf
    have dcj := G.S.ocj
    have hoo := G.S.oo
    have mco : (u.co, u.oo) ∈ news := G.has (by simp [rows])
    have mck : (u.ck, u.ok) ∈ news := G.has (by simp [rows])
    have mcw : (u.cw, u.ow) ∈ news := G.has (by simp [rows])
    have mla : (u.la, PySem.W.listOf u.va.toArray u.na) ∈ news := G.has (by simp [rows])
    have mlt : (u.lt, PySem.W.listOf u.vt.toArray u.nt) ∈ news := G.has (by simp [rows])
    have mll : (v.ll, PySem.W.listOf v.vl.toArray v.nl) ∈ news := G.has (by simp [rows])
    have mlc : (v.lc, PySem.W.listOf v.vc.toArray v.nc) ∈ news := G.has (by simp [rows])
    subst eS0
    have DD := G.D
    have hzt : u.vt.length ≤ 1000 := by have := G.bc; have := Y.ec; omega
    have eS := Eq.refl lawS
    conv at eS => rhs; whnf
    have e0 := Eq.refl (nthS 3 loopB)
    conv at e0 => rhs; whnf
    rw [eS, e0]
    clear eS e0
    k_steps
    refine ret _ _ ?fin9
    refine' End.mk' ?T ?F ?N ?B ?D ?G ?a ?b ?c ?d ?e ?Y ?hc ?n
    case F => k_asm
    case N => k_asm
    case B => k_asm
    case D => k_asm
    case T => k_asm
    case G => exact St.pushTP (by assumption) _
    case a => exact (by (repeat refine (if_neg (by decide)).trans ?_); first | exact if_pos rfl | assumption)
    case b => exact (by (repeat refine (if_neg (by decide)).trans ?_); first | exact if_pos rfl | assumption)
    case c => exact (by (repeat refine (if_neg (by decide)).trans ?_); first | exact if_pos rfl | assumption)
    case d => exact (by (repeat refine (if_neg (by decide)).trans ?_); first | exact if_pos rfl | assumption)
    case e => exact (by (repeat refine (if_neg (by decide)).trans ?_); first | exact if_pos rfl | assumption)
    case Y => exact ⟨Y.ma, Y.mt.push, Y.el, by rw [List.length_append, List.length_append]; exact congrArg (· + 1) Y.ec⟩
    case hc => exact ⟨rfl, rfl⟩
    case n => omega)
end
section
local macro_rules | `(tactic| walk_at "no such line") => `(tactic| fail)
local macro_rules | `(tactic| k_mem) => `(tactic| first | assumption | exact St.mcoW (by assumption) | exact St.mckW (by assumption) | exact St.mcwW (by assumption) | exact St.mltP (by assumption) | (refine' Jars.x' ?J ?h; (case J => first | assumption | exact St.J (by assumption)); (case h => exact rfl)) | (refine' Jars.dx' ?J ?h; (case J => first | assumption | exact St.J (by assumption)); (case h => exact rfl)) | (refine' Led.mfl ?J; (case J => first | assumption | exact St.D (by assumption))) | (refine' Led.mcf ?J; (case J => first | assumption | exact St.D (by assumption))))
local macro_rules | `(tactic| k_upd) => `(tactic| first | assumption | exact St.uTP (by assumption))
local macro_rules | `(tactic| walk_at "exec Assign") => `(tactic| (k_here; k_dflt (refine' B1 ?eS ?XB ?TB ?CB ?B ?D ?T0 ?F ?N ?hdp ?hun ?hn ?G ?nL ?nM ?nS ?nA ?nT ?nQ ?_; (case eS => rfl); (case B => k_asm); (case D => k_asm); (case T0 => first | assumption | exact KtsTurn.refl); (case F => k_asm); (case N => k_asm); (case XB => k_asm); (case TB => k_asm); (case CB => assumption); (case G => assumption); (case hdp => assumption); (case hun => assumption); (case hn => assumption); (case nL => assumption); (case nM => assumption); (case nS => assumption); (case nA => assumption); (case nT => assumption); (case nQ => assumption); k_whole); intro h' tk' news' z' o' F' N' G' W' d'; (try dsimp only)))

local macro_rules | `(tactic| walk_at "eval Lambda IfExp") => `(tactic| (k_here; k_dflt (refine' mk_deed ?F ?N ?T ?C ?G ?hk ?hw ?e1 ?e2 ?_; (case F => k_asm); (case N => k_asm); (case T => k_asm); (case C => kn_code); (case G => assumption); (case hk => assumption); (case hw => assumption); (case e1 => rfl); (case e2 => rfl); k_whole); intro f' h' tk' news' ps' F' N' kp' G' DD'))
local macro_rules | `(tactic| walk_at "eval Lambda Call") => `(tactic| (k_here; k_dflt (refine' mk_reg ?F ?N ?T ?C ?G ?e2 ?_; (case F => k_asm); (case N => k_asm); (case T => k_asm); (case C => kn_code); (case G => assumption); (case e2 => rfl); k_whole); intro f' h' tk' news' ps' F' N' G' DD'))
local macro_rules | `(tactic| walk_at "call ref") => `(tactic| (k_here; k_dflt (show wpAny _ _ (PySem.call (Value.ref 339) [_]) _ _ _); k_dflt (refine' wtr_no ?XB ?TB ?B ?D ?T0 ?F ?N ?hk ?hdp ?hun ?hn ?G ?DD ?hf ?_; (case B => k_asm); (case D => k_asm); (case T0 => first | assumption | exact KtsTurn.refl); (case F => k_asm); (case N => k_asm); (case XB => k_asm); (case TB => k_asm); (case hk => exact rfl); (case G => assumption); (case hdp => ktr_room); (case hun => ktr_room); (case hn => omega); (case DD => assumption); (case hf => assumption); k_whole); intro h₀' h' tk' ts' news' T' F' N' B' D' X' P' G'; (try dsimp only)))

set_option maxHeartbeats 8000000 in
theorem if7r_no {w : World} {loose : List Str} {mean : ExcName → Option Value} {mg mb : Str → Option Value} {dp un : Nat} {gd : Option (List Code)} {a : Addr} {outer : List Env} {A₀ : Around} {base h₀ g₀ : Heap} {L : Addr} {m : Str → Option Value}
    {news : List (Addr × Obj)} {s : Shared} {Q : Flow → Shared → Prop} {E : Value → Shared → Prop} {v : V} {u : U} {n : Nat} {S0 : Stmt} {mk st : Bool} {tk0 : Tok} {q : Int} {tq : Tok}
    (eS0 : S0 = nthS 3 loopB) (XB : (Mine.hd.heap_39 w.params).In base) (TB : Top topProg loose mean mg mb base) (CB : CodeHd base 352 348) (B : Below A₀ base outer h₀) (D : KtsDicts (frs outer) h₀) (T0 : KtsTurn (frs outer) g₀ h₀) (F : Fr h₀ L s.heap m) (N : News h₀ L s.heap news) (hdp : dp + 100 < recursionLimit) (hun : un + 500 < cLine) (hn : n ≤ 90) (G : St news v u true mk st n) (nL : m "loaded" = some (.bool true)) (nM : m "marked" = some (.bool mk)) (nS : m "sticky" = some (.bool st)) (nA : m "asked" = some (.ref u.la)) (nT : m "told" = some (.ref u.lt)) (Y : Same v u) (hkd : u.ok.data = .cell (some (.int 7 tk0))) (nQ : m "more" = some (.int q tq)) (h3 : Int.fmod q 3 = 2) (hf : v.f1 = true)
    (ret : ∀ h' tk', End A₀ base outer g₀ L v u n h' → Q .next { s with heap := h', toks := tk' }) :
    wpAny (model PySem.Challenge.rw_am6027_01.row.prog w) (top none dp un gd "law" lawS L a (.ref 352) (lawCl v u) outer) (exec S0 (envX "law" lawS L a (.ref 352) (lawCl v u))) Q E s := by
  w_top off
  w_strict (
    revert XB
    k_fill
    intro XB
    have X := XB.keeps B.stays
    have T := TB.keeps B.stays
    have J := G.D.jars G.S
    have dcf := G.S.ocf
    have dcj := G.S.ocj
    have hoo := G.S.oo
    have mco : (u.co, u.oo) ∈ news := G.has (by simp [rows])
    have mck : (u.ck, u.ok) ∈ news := G.has (by simp [rows])
    have mcw : (u.cw, u.ow) ∈ news := G.has (by simp [rows])
    have mla : (u.la, PySem.W.listOf u.va.toArray u.na) ∈ news := G.has (by simp [rows])
    have mlt : (u.lt, PySem.W.listOf u.vt.toArray u.nt) ∈ news := G.has (by simp [rows])
    have mll : (v.ll, PySem.W.listOf v.vl.toArray v.nl) ∈ news := G.has (by simp [rows])
    have mlc : (v.lc, PySem.W.listOf v.vc.toArray v.nc) ∈ news := G.has (by simp [rows])
    subst eS0
    have DD := G.D
    have hzt : u.vt.length ≤ 1000 := by have := G.bc; have := Y.ec; omega
    have eS := Eq.refl lawS
    conv at eS => rhs; whnf
    have e0 := Eq.refl (nthS 3 loopB)
    conv at e0 => rhs; whnf
    rw [eS, e0]
    clear eS e0
    k_steps
    refine ret _ _ ?fin9
    refine' End.mk' ?T ?F ?N ?B ?D ?G ?a ?b ?c ?d ?e ?Y ?hc ?n
    case F => k_asm
    case N => k_asm
    case B => k_asm
    case D => k_asm
    case T => k_asm
    case G => exact by assumption
    case a => exact (by (repeat refine (if_neg (by decide)).trans ?_); first | exact if_pos rfl | assumption)
    case b => exact (by (repeat refine (if_neg (by decide)).trans ?_); first | exact if_pos rfl | assumption)
    case c => exact (by (repeat refine (if_neg (by decide)).trans ?_); first | exact if_pos rfl | assumption)
    case d => exact (by (repeat refine (if_neg (by decide)).trans ?_); first | exact if_pos rfl | assumption)
    case e => exact (by (repeat refine (if_neg (by decide)).trans ?_); first | exact if_pos rfl | assumption)
    case Y => exact ⟨Y.ma, Y.mt, Y.el, Y.ec⟩
    case hc => exact ⟨rfl, rfl⟩
    case n => omega)
end
end Mine
end
section
open PySem PySem.W PyProof.Rows PySem.Calls
set_option Elab.async false
set_option maxRecDepth 100000
namespace Mine

theorem Flags.five {F : Value} {ld mk st : Bool} (h : Flags F ld mk st) : (F = .none ∧ ld = false ∧ mk = false ∧ st = false) ∨ (∃ t, F = .int 0 t ∧ ld = true ∧ mk = false ∧ st = false) ∨ (∃ t, F = .int 1 t ∧ ld = true ∧ mk = true ∧ st = false) ∨ (∃ t, F = .int 2 t ∧ ld = true ∧ mk = false ∧ st = true) ∨ (∃ t, F = .int 3 t ∧ ld = true ∧ mk = true ∧ st = true) := by
  cases h with
  | ghost => exact .inl ⟨rfl, rfl, rfl, rfl⟩
  | k0 t => exact .inr (.inl ⟨t, rfl, rfl, rfl, rfl⟩)
  | k1 t => exact .inr (.inr (.inl ⟨t, rfl, rfl, rfl, rfl⟩))
  | k2 t => exact .inr (.inr (.inr (.inl ⟨t, rfl, rfl, rfl, rfl⟩)))
  | k3 t => exact .inr (.inr (.inr (.inr ⟨t, rfl, rfl, rfl, rfl⟩)))

theorem ifAll {w : World} {loose : List Str} {mean : ExcName → Option Value} {mg mb : Str → Option Value} {dp un : Nat} {gd : Option (List Code)} {a : Addr} {outer : List Env} {A₀ : Around} {base h₀ g₀ : Heap} {L : Addr} {m : Str → Option Value}
    {news : List (Addr × Obj)} {s : Shared} {Q : Flow → Shared → Prop} {E : Value → Shared → Prop} {v : V} {u : U} {n : Nat} {ld mk st : Bool} {q kd : Int} {tq td0 tk0 : Tok} {S : Stmt}
    (eS : S = nthS 3 loopB) (XB : (Mine.hd.heap_39 w.params).In base) (TB : Top topProg loose mean mg mb base) (CB : CodeHd base 352 348) (B : Below A₀ base outer h₀) (D : KtsDicts (frs outer) h₀) (T0 : KtsTurn (frs outer) g₀ h₀) (F : Fr h₀ L s.heap m) (N : News h₀ L s.heap news) (hdp : dp + 100 < recursionLimit) (hun : un + 500 < cLine) (hn : n ≤ 90) (G : St news v u ld mk st n) (K : Nm m u ld mk st) (Y : Same v u) (nQ : m "more" = some (.int q tq)) (nD : m "due" = some (.str "done" td0)) (hkd : u.ok.data = .cell (some (.int kd tk0))) (hk0 : 0 ≤ kd) (hk8 : kd < 8)
    (ret : ∀ h' tk', End A₀ base outer g₀ L v u n h' → Q .next { s with heap := h', toks := tk' }) :
    wpAny (model PySem.Challenge.rw_am6027_01.row.prog w) (top none dp un gd "law" lawS L a (.ref 352) (lawCl v u) outer) (exec S (envX "law" lawS L a (.ref 352) (lawCl v u))) Q E s := by
  have h2 : Int.fmod q 2 = 0 ∨ Int.fmod q 2 = 1 := by have := Int.fmod_nonneg_of_pos q (b := 2) (by decide); have := Int.fmod_lt_of_pos q (b := 2) (by decide); omega
  have h3 : Int.fmod q 3 = 0 ∨ Int.fmod q 3 = 1 ∨ Int.fmod q 3 = 2 := by have := Int.fmod_nonneg_of_pos q (b := 3) (by decide); have := Int.fmod_lt_of_pos q (b := 3) (by decide); omega
  have hk : kd = 0 ∨ kd = 1 ∨ kd = 2 ∨ kd = 3 ∨ kd = 4 ∨ kd = 5 ∨ kd = 6 ∨ kd = 7 := by omega
  rcases hk with rfl | rfl | rfl | rfl | rfl | rfl | rfl | rfl
  · cases ld with
    | false =>
      obtain ⟨-, rfl, rfl⟩ := G.fl.no
      cases hf0 : v.f0 with
      | true => exact if0_g0 eS XB TB CB B D T0 F N hdp hun hn G K.L K.M K.S K.A K.T Y hkd nQ nD hf0 ret
      | false =>
        cases hf1 : v.f1 with
        | true => exact if0_g1 eS XB TB CB B D T0 F N hdp hun hn G K.L K.M K.S K.A K.T Y hkd nQ nD hf0 hf1 ret
        | false => exact if0_g2 eS XB TB CB B D T0 F N hdp hun hn G K.L K.M K.S K.A K.T Y hkd nQ nD hf0 hf1 ret
    | true =>
      cases mk with
      | true => exact if0_l0m eS XB TB CB B D T0 F N hdp hun hn G K.L K.M K.S K.A K.T Y hkd nQ nD ret
      | false =>
        cases hf1 : v.f1 with
        | true => exact if0_l0n eS XB TB CB B D T0 F N hdp hun hn G K.L K.M K.S K.A K.T Y hkd nQ nD hf1 ret
        | false => exact if0_l0y eS XB TB CB B D T0 F N hdp hun hn G K.L K.M K.S K.A K.T Y hkd nQ nD hf1 ret
  · cases ld with
    | false =>
      obtain ⟨-, rfl, rfl⟩ := G.fl.no
      exact if1_N eS XB TB CB B D T0 F N hdp hun hn G K.L K.M K.S K.A K.T Y hkd nQ ret
    | true =>
      cases mk with
      | true => exact if1_true eS XB TB CB B D T0 F N hdp hun hn G K.L K.M K.S K.A K.T Y hkd nQ ret
      | false => exact if1_false eS XB TB CB B D T0 F N hdp hun hn G K.L K.M K.S K.A K.T Y hkd nQ ret
  · rcases G.fl.five with ⟨-, rfl, rfl, rfl⟩ | ⟨t, -, rfl, rfl, rfl⟩ | ⟨t, -, rfl, rfl, rfl⟩ | ⟨t, -, rfl, rfl, rfl⟩ | ⟨t, -, rfl, rfl, rfl⟩
    · exact if2_N eS XB TB CB B D T0 F N hdp hun hn G K.L K.M K.S K.A K.T Y hkd ret
    · exact if2_0 eS XB TB CB B D T0 F N hdp hun hn G K.L K.M K.S K.A K.T Y hkd ret
    · exact if2_1 eS XB TB CB B D T0 F N hdp hun hn G K.L K.M K.S K.A K.T Y hkd ret
    · exact if2_2 eS XB TB CB B D T0 F N hdp hun hn G K.L K.M K.S K.A K.T Y hkd ret
    · exact if2_1 eS XB TB CB B D T0 F N hdp hun hn G K.L K.M K.S K.A K.T Y hkd ret
  · exact if3 eS XB TB CB B D T0 F N hdp hun hn G K.L K.M K.S K.A K.T Y hkd ret
  · exact if4 eS XB TB CB B D T0 F N hdp hun hn G K.L K.M K.S K.A K.T Y hkd ret
  · exact if5 eS XB TB CB B D T0 F N hdp hun hn G K.L K.M K.S K.A K.T Y hkd ret
  · cases ld with
    | false =>
      obtain ⟨-, rfl, rfl⟩ := G.fl.no
      exact if6_N eS XB TB CB B D T0 F N hdp hun hn G K.L K.M K.S K.A K.T Y hkd ret
    | true =>
      rcases h2 with h2 | h2
      · exact if6_0 eS XB TB CB B D T0 F N hdp hun hn G K.L K.M K.S K.A K.T Y hkd nQ h2 ret
      · exact if6_1 eS XB TB CB B D T0 F N hdp hun hn G K.L K.M K.S K.A K.T Y hkd nQ h2 ret
  · cases ld with
    | false =>
      obtain ⟨-, rfl, rfl⟩ := G.fl.no
      exact if7_N eS XB TB CB B D T0 F N hdp hun hn G K.L K.M K.S K.A K.T Y hkd ret
    | true =>
      rcases h3 with h3 | h3 | h3
      · cases mk with
        | true => exact if7_l7m eS XB TB CB B D T0 F N hdp hun hn G K.L K.M K.S K.A K.T Y hkd nQ nD h3 ret
        | false =>
          cases hf1 : v.f1 with
          | true => exact if7_l7n eS XB TB CB B D T0 F N hdp hun hn G K.L K.M K.S K.A K.T Y hkd nQ nD h3 hf1 ret
          | false => exact if7_l7y eS XB TB CB B D T0 F N hdp hun hn G K.L K.M K.S K.A K.T Y hkd nQ nD h3 hf1 ret
      · cases mk with
        | true => exact if7o_true eS XB TB CB B D T0 F N hdp hun hn G K.L K.M K.S K.A K.T Y hkd nQ h3 ret
        | false => exact if7o_false eS XB TB CB B D T0 F N hdp hun hn G K.L K.M K.S K.A K.T Y hkd nQ h3 ret
      · cases hf1 : v.f1 with
        | true => exact if7r_no eS XB TB CB B D T0 F N hdp hun hn G K.L K.M K.S K.A K.T Y hkd nQ h3 hf1 ret
        | false => exact if7r_ok eS XB TB CB B D T0 F N hdp hun hn G K.L K.M K.S K.A K.T Y hkd nQ h3 hf1 ret

theorem loopB_is : ∃ S0 S1 S2 S3 S4 S5 S6, loopB = [S0, S1, S2] ++ S3 :: S4 :: [S5, S6] ∧ S0 = nthS 0 loopB ∧ S1 = nthS 1 loopB ∧ S2 = nthS 2 loopB ∧ S3 = nthS 3 loopB ∧ S4 = nthS 4 loopB ∧ S5 = nthS 5 loopB ∧ S6 = nthS 6 loopB :=
  ⟨_, _, _, _, _, _, _, rfl, rfl, rfl, rfl, rfl, rfl, rfl, rfl⟩

/-- one turn of the law's loop -/
theorem turn {w : World} {loose : List Str} {mean : ExcName → Option Value} {mg mb : Str → Option Value} {dp un : Nat} {gd : Option (List Code)} {a : Addr} {outer : List Env} {A₀ : Around} {base h₀ g₀ : Heap} {L : Addr} {m : Str → Option Value}
    {news : List (Addr × Obj)} {s : Shared} {Q : Flow → Shared → Prop} {E : Value → Shared → Prop} {v : V} {u : U} {n : Nat} {ld mk st : Bool} {i : Int} {ti : Tok} {LB : List Stmt}
    (eL : LB = loopB) (XB : (Mine.hd.heap_39 w.params).In base) (TB : Top topProg loose mean mg mb base) (CB : CodeHd base 352 348) (B : Below A₀ base outer h₀) (D : KtsDicts (frs outer) h₀) (T0 : KtsTurn (frs outer) g₀ h₀) (F : Fr h₀ L s.heap m) (N : News h₀ L s.heap news) (hdp : dp + 100 < recursionLimit) (hun : un + 500 < cLine) (hn : n ≤ 80) (G : St news v u ld mk st n) (K : Nm m u ld mk st) (Y : Same v u) (nV : m "v" = some (.int i ti))
    (ret : ∀ h' tk', End A₀ base outer g₀ L v u n h' → Q .next { s with heap := h', toks := tk' }) :
    wpAny (model PySem.Challenge.rw_am6027_01.row.prog w) (top none dp un gd "law" lawS L a (.ref 352) (lawCl v u) outer) (execs LB (envX "law" lawS L a (.ref 352) (lawCl v u))) Q E s := by
  obtain ⟨S0, S1, S2, S3, S4, S5, S6, e, e0, e1, e2, e3, e4, e5, e6⟩ := loopB_is
  rw [eL, e]
  clear e eL
  refine execs_app _ (head e0 e1 e2 XB TB CB B D T0 F N hdp hun (by omega) G K.L K.M K.S K.A K.T nV fun h1 tk1 t1 t2 t3 o1 F1 N1 d1 => ?_)
  have nx : ∀ y : Str, y ≠ "due" → y ≠ "more" → (if y = ("due" : Str) then some (Value.str "done" t3) else if y = ("more" : Str) then some (.int (Int.fdiv i 8) t2) else m y) = m y := fun y a b => (if_neg a).trans (if_neg b)
  have K1 : Nm (fun y => if y = ("due" : Str) then some (Value.str "done" t3) else if y = ("more" : Str) then some (.int (Int.fdiv i 8) t2) else m y) { u with ok := o1 } ld mk st :=
    ⟨(nx "loaded" (by decide) (by decide)).trans K.L, (nx "marked" (by decide) (by decide)).trans K.M, (nx "sticky" (by decide) (by decide)).trans K.S, (nx "asked" (by decide) (by decide)).trans K.A, (nx "told" (by decide) (by decide)).trans K.T⟩
  refine wpAny_execs_cons (ifAll (u := { u with ok := o1 }) e3 XB TB CB B D T0 F1 N1 hdp hun (by omega) (G.setK d1) K1 ⟨Y.ma, Y.mt, Y.el, Y.ec⟩ ((if_neg (by decide)).trans (if_pos rfl)) (if_pos rfl) d1
    (Int.fmod_nonneg_of_pos i (by decide)) (Int.fmod_lt_of_pos i (by decide)) fun h2 tk2 hE => ?_)
  obtain ⟨h₀2, m2, news2, v2, u2, ld2, mk2, st2, n2, T2, F2, N2, B2, D2, K2, G2, Y2, hc, hn2⟩ := hE
  have hc' : lawCl v2 u2 = lawCl v u := hc.1
  rw [← hc']
  have fin : ∀ h4 tk4 ra rn (row : Array Value), (∀ p ∈ news2, p.1 < ra) → Fr h₀2 L h4 (fun y => if y = ("row" : Str) then some (.ref ra) else m2 y) → News h₀2 L h4 ((ra, ({ cls := .type "tuple", data := .seq row rn } : Obj)) :: news2) → Q .next { s with heap := h4, toks := tk4 } := fun h4 tk4 ra rn row l3 F4 N4 =>
    ret _ _ (End.mk' T2 F4 N4 B2 D2 (G2.pushed l3) ((if_neg (by decide)).trans K2.L) ((if_neg (by decide)).trans K2.M) ((if_neg (by decide)).trans K2.S) ((if_neg (by decide)).trans K2.A) ((if_neg (by decide)).trans K2.T) Y2 ⟨hc', hc.2⟩ hn2)
  rcases G2.fl.five with ⟨hF, rfl, rfl, rfl⟩ | ⟨t, hF, rfl, rfl, rfl⟩ | ⟨t, hF, rfl, rfl, rfl⟩ | ⟨t, hF, rfl, rfl, rfl⟩ | ⟨t, hF, rfl, rfl, rfl⟩
  · refine wpAny_execs_cons (rowN e4 XB TB CB B2 D2 T2 F2 N2 hdp hun (by omega) G2 K2.L K2.M K2.S K2.A K2.T fun h3 tk3 ra rn q1 q2 F3 N3 l3 => ?_)
    exact tailN e5 e6 XB TB CB B2 D2 T2 F3 N3 hdp hun (by omega) (G2.pushed l3) ((if_neg (by decide)).trans K2.L) ((if_neg (by decide)).trans K2.M) ((if_neg (by decide)).trans K2.S) ((if_neg (by decide)).trans K2.A) ((if_neg (by decide)).trans K2.T) Y2 hF (if_pos rfl) (.head _) fun h4 tk4 F4 N4 => fin _ _ _ _ _ l3 F4 N4
  · refine wpAny_execs_cons (row0 e4 XB TB CB B2 D2 T2 F2 N2 hdp hun (by omega) G2 K2.L K2.M K2.S K2.A K2.T fun h3 tk3 ra rn q1 q2 F3 N3 l3 => ?_)
    exact tail0 e5 e6 XB TB CB B2 D2 T2 F3 N3 hdp hun (by omega) (G2.pushed l3) ((if_neg (by decide)).trans K2.L) ((if_neg (by decide)).trans K2.M) ((if_neg (by decide)).trans K2.S) ((if_neg (by decide)).trans K2.A) ((if_neg (by decide)).trans K2.T) Y2 hF (if_pos rfl) (.head _) fun h4 tk4 F4 N4 => fin _ _ _ _ _ l3 F4 N4
  · refine wpAny_execs_cons (row1 e4 XB TB CB B2 D2 T2 F2 N2 hdp hun (by omega) G2 K2.L K2.M K2.S K2.A K2.T fun h3 tk3 ra rn q1 q2 F3 N3 l3 => ?_)
    exact tail1 e5 e6 XB TB CB B2 D2 T2 F3 N3 hdp hun (by omega) (G2.pushed l3) ((if_neg (by decide)).trans K2.L) ((if_neg (by decide)).trans K2.M) ((if_neg (by decide)).trans K2.S) ((if_neg (by decide)).trans K2.A) ((if_neg (by decide)).trans K2.T) Y2 hF (if_pos rfl) (.head _) fun h4 tk4 F4 N4 => fin _ _ _ _ _ l3 F4 N4
  · refine wpAny_execs_cons (row2 e4 XB TB CB B2 D2 T2 F2 N2 hdp hun (by omega) G2 K2.L K2.M K2.S K2.A K2.T fun h3 tk3 ra rn q1 q2 F3 N3 l3 => ?_)
    exact tail2 e5 e6 XB TB CB B2 D2 T2 F3 N3 hdp hun (by omega) (G2.pushed l3) ((if_neg (by decide)).trans K2.L) ((if_neg (by decide)).trans K2.M) ((if_neg (by decide)).trans K2.S) ((if_neg (by decide)).trans K2.A) ((if_neg (by decide)).trans K2.T) Y2 hF (if_pos rfl) (.head _) fun h4 tk4 F4 N4 => fin _ _ _ _ _ l3 F4 N4
  · refine wpAny_execs_cons (row3 e4 XB TB CB B2 D2 T2 F2 N2 hdp hun (by omega) G2 K2.L K2.M K2.S K2.A K2.T fun h3 tk3 ra rn q1 q2 F3 N3 l3 => ?_)
    exact tail3 e5 e6 XB TB CB B2 D2 T2 F3 N3 hdp hun (by omega) (G2.pushed l3) ((if_neg (by decide)).trans K2.L) ((if_neg (by decide)).trans K2.M) ((if_neg (by decide)).trans K2.S) ((if_neg (by decide)).trans K2.A) ((if_neg (by decide)).trans K2.T) Y2 hF (if_pos rfl) (.head _) fun h4 tk4 F4 N4 => fin _ _ _ _ _ l3 F4 N4
end Mine
end
section
open PySem PySem.W PyProof.Rows PySem.Calls PySem.Spec
set_option Elab.async false
set_option maxRecDepth 100000
namespace Mine
/-- how a turn of the loop must leave the frame -/
def TurnPost (h₀ : Heap) (L : Addr) (J : (Str → Option Value) → List (Addr × Obj) → Prop) (I : Addr) (oI : Obj) (s : Shared) (Q : Flow → Shared → Prop) (f : Flow) (s₂ : Shared) : Prop :=
  match f with
  | .ret v => Q (.ret v) s₂
  | .brk => Q .next s₂
  | _ => ∃ h' tk' m' news', s₂ = { s with heap := h', toks := tk' } ∧ Fr h₀ L h' m' ∧ News h₀ L h' ((I, oI) :: news') ∧ (∀ p ∈ news', p.1 ≠ I) ∧ J m' news'
theorem iterL {prog : Program} {w : World} {A : Around} {E : Value → Shared → Prop} {s : Shared} {env : Env} {h₀ : Heap} {x : Str} {body : List Stmt} {Q : Flow → Shared → Prop} {l : Addr} {vs : List Value} {ns : List Int} {nl : Nat} {m₀ : Str → Option Value} {news : List (Addr × Obj)}
    (J : Nat → (Str → Option Value) → List (Addr × Obj) → Prop) (hh : A.handled = none) (F : Fr h₀ env.locals s.heap m₀) (N : News h₀ env.locals s.heap news) (hi : IntsAre vs ns) (hj : J 0 m₀ news)
    (hl : ∀ i m news, J i m news → (l, PySem.W.listOf vs.toArray nl) ∈ news)
    (turn : ∀ i n t m₁ news₁ h tk I oI, ns[i]? = some n → J i m₁ news₁ → (∀ p ∈ news₁, p.1 ≠ I) → (∃ xs k t', oI.data = .fields xs ∧ xs[1]? = some (.int k t')) → Fr h₀ env.locals h (fun y => if y = x then some (.int n t) else m₁ y) → News h₀ env.locals h ((I, oI) :: news₁) →
      wpAny (model prog w) A (execs body env) (TurnPost h₀ env.locals (J (i + 1)) I oI { s with heap := h, toks := tk } Q) E { s with heap := h, toks := tk })
    (done : ∀ m₁ news₁ h tk, J ns.length m₁ news₁ → Fr h₀ env.locals h m₁ → News h₀ env.locals h news₁ → Q .next { s with heap := h, toks := tk }) :
    wpAny (model prog w) A (pyIter (.ref l)) (fun it s₂ => LoopAtV prog w A h₀ env x body Q E it s₂) E s := by
  have hm := hl _ _ _ hj
  have hls : s.heap.IsList l vs.toArray := ⟨_, (N _ hm).1, rfl, nl, rfl⟩
  have hne : l ≠ s.heap.objs.size := Nat.ne_of_lt (Heap.lt_size (N _ hm).1)
  refine wpAny_pyIter_list hls ?_
  have W := Walks.list (prog := prog) (w := w) hh s.heap.objs.size l hne vs.toArray
  have hlen : vs.toArray.size = ns.length := by simp [hi.length]
  rw [hlen] at W
  refine ⟨_, _, _, ns.length, _, _, m₀, news, J, rfl, W, ?_, ?_, ?_, ⟨⟨_, Heap.get?_push_size _ rfl, rfl, rfl⟩, hls.at fun o e => Heap.get?_push_of_some _ e⟩, F.push _, (fun p hp => ⟨Heap.get?_push_of_some _ (N p hp).1, (N p hp).2⟩), hj, ?_, ?_⟩
  · intro hx
    rcases List.mem_cons.mp hx with e | hx
    · exact absurd F.ns.lt (e ▸ Nat.lt_irrefl _)
    · exact (N _ hm).2.1 (List.mem_singleton.mp hx).symm
  · intro b hb
    rw [List.mem_singleton.mp hb]
    exact next_is_new F
  · intro p hp hI
    exact absurd (Heap.lt_size (N p hp).1) ((List.mem_singleton.mp hI) ▸ Nat.lt_irrefl _)
  · rintro i v m₁ news₁ s₁ own ⟨hh', tk', rfl⟩ hin hP hJ hoff hown hownAt hall hst F₁ N₁
    have hlt' : i < ns.length := hin
    obtain ⟨t, hx⟩ := hi.get i ns[i] (by simp [hlt'])
    have hv : v = .int ns[i] t := by
      have hP' : vs[i]? = some v := by simpa using hP
      rw [hx] at hP'; exact (Option.some.inj hP').symm
    subst hv
    obtain ⟨⟨oI, hoI, hcI, hdI⟩, _⟩ := hst
    have hIown : (s.heap.objs.size, oI) ∈ own := hall _ (.head _) (next_is_new F) _ hoI
    have hoff' : ∀ p ∈ news₁, p.1 ≠ s.heap.objs.size := fun p hp e => hoff p hp (e ▸ List.mem_singleton.mpr rfl)
    have N₂ : News h₀ env.locals hh' ((s.heap.objs.size, oI) :: news₁) := fun p hp => by
      rcases List.mem_cons.mp hp with rfl | hp
      · exact N₁ _ (List.mem_append_left _ hIown)
      · exact N₁ _ (List.mem_append_right _ hp)
    have hl₁ := (N₂ _ (.tail _ (hl _ _ _ hJ))).1
    refine wpAny_mono (turn i ns[i] t m₁ news₁ hh' tk' _ oI (by simp [hlt']) hJ hoff' ⟨_, _, _, hdI, rfl⟩ F₁ N₂) (fun f s₂ p => ?_) fun _ _ e => e
    have fin : TurnPost h₀ env.locals (J (i + 1)) s.heap.objs.size oI { s with heap := hh', toks := tk' } Q .next s₂ → LoopStepU h₀ env.locals [s.heap.objs.size] own (J (i + 1)) { s with heap := hh', toks := tk' } .next s₂ := by
      rintro ⟨h', tk, m', news', e, F', N', ho, hJ'⟩
      refine ⟨rfl, h', tk, m', news', e, F', fun p hp => ?_, fun p hp hq => ho p hp (List.mem_singleton.mp hq), hJ'⟩
      rcases List.mem_append.mp hp with hp | hp
      · obtain ⟨a, o⟩ := p
        have ha := hownAt _ hp
        rcases List.mem_cons.mp (hown _ hp) with e1 | e1
        · have e1' : a = s.heap.objs.size := e1
          subst e1'
          obtain rfl : oI = o := Option.some.inj (hoI.symm.trans ha)
          exact N' _ (.head _)
        · have e1' : a = l := List.mem_singleton.mp e1
          subst e1'
          obtain rfl := Option.some.inj (hl₁.symm.trans ha)
          exact N' _ (.tail _ (hl _ _ _ hJ'))
      · exact N' _ (.tail _ hp)
    cases f with
    | ret v => exact .ret p
    | brk => exact .brk p
    | next => exact .next (fin p)
    | cont => exact .cont (fin p)
  · rintro h' tk m' news' F' N' _ hJ
    exact done m' news' h' tk hJ F' N'
/-- back to the heap the law began with -/
theorem turn_nil {h₀ h₀' h : Heap} {L : Addr} {m : Str → Option Value} (T : KtsTurn [] h₀ h₀') (F : Fr h₀' L h m) : Fr h₀ L h m :=
  ⟨F.ns, fun b o e => F.keep b o (T.other b o e (fun h => nomatch h)), by rw [← T.size]; exact F.above⟩
theorem turn_nilN {h₀ h₀' h : Heap} {L : Addr} {news : List (Addr × Obj)} (T : KtsTurn [] h₀ h₀') (N : News h₀' L h news) : News h₀ L h news := fun p hp => ⟨(N p hp).1, (N p hp).2.1, by
  cases q : h₀.get? p.1 with
  | none => rfl
  | some o => have := T.other _ _ q (fun h => nomatch h); rw [(N p hp).2.2] at this; cases this⟩
end Mine
end
section
open PySem PySem.W PyProof.Rows PySem.Calls
set_option Elab.async false
set_option maxRecDepth 100000
namespace Mine

section
variable {news : List (Addr × Obj)} {v : V} {u : U} {ld mk st : Bool} {n : Nat}
theorem St.key (G : St news v u ld mk st n) {a : Addr} (h : a ∈ adrs v u) : ∃ o, (a, o) ∈ news := by
  have h' : a ∈ (rows v u).map (·.1) := h
  obtain ⟨p, hp, e⟩ := List.mem_map.mp h'
  exact ⟨p.2, by rw [← e]; exact G.D.mem _ hp⟩
/-- the iterator comes in -/
theorem St.enter (G : St news v u ld mk st n) {I : Addr} {oI : Obj} (h : ∀ p ∈ news, p.1 ≠ I) : St ((I, oI) :: news) v { u with rest := (I, oI) :: u.rest } ld mk st n where
  D := ⟨fun p hp => .tail _ (G.D.mem p hp), List.nodup_cons.mpr ⟨fun hm => by obtain ⟨p, hp, e⟩ := List.mem_map.mp hm; exact h p hp e, G.D.nd⟩, G.D.na⟩
  S := ⟨G.S.os, G.S.or, G.S.ocf, G.S.ocj, G.S.oo⟩
  C := G.C.push
  fl := G.fl
  ml := G.ml
  mc := G.mc
  bl := G.bl
  bc := G.bc
  kc := G.kc
  wc := G.wc
  rs p hp := by
    rcases List.mem_cons.mp hp with rfl | hp
    · exact ⟨.head _, fun ha => by obtain ⟨o, ho⟩ := G.key ha; exact h _ ho rfl⟩
    · exact ⟨.tail _ (G.rs p hp).1, (G.rs p hp).2⟩
theorem mem_off {I : Addr} {l : List (Addr × Obj)} {p : Addr × Obj} (hp : p ∈ l) (h : p.1 ≠ I) : p ∈ l.filter (fun q => decide (q.1 ≠ I)) := List.mem_filter.mpr ⟨hp, decide_eq_true h⟩
/-- and goes out -/
theorem St.exit {I : Addr} {oI : Obj} {rest : List (Addr × Obj)} (G : St news v u ld mk st n) (hr : u.rest = (I, oI) :: rest) (hI : ∃ xs k t', oI.data = .fields xs ∧ xs[1]? = some (.int k t')) (hn : ∀ p ∈ rest, p.1 ≠ I) :
    St (news.filter (fun q => decide (q.1 ≠ I))) v { u with rest := rest } ld mk st n := by
  have hm : (I, oI) ∈ news := (G.rs _ (hr ▸ .head _)).1
  have ha : I ∉ adrs v u := (G.rs (I, oI) (hr ▸ .head _)).2
  have one : ∀ o, (I, o) ∈ news → o = oI := fun o ho => upd_one (put_upd (o' := oI) G.D.nd hm) ho
  have code : ∀ ps pos q, CodeAt news ps pos q → CodeAt (news.filter (fun q => decide (q.1 ≠ I))) ps pos q := fun ps pos q C => by
    rcases C with C | ⟨c, oc, h1, h0, h2, vs, t, h3, h4⟩
    · exact .inl C
    · refine .inr ⟨c, oc, h1, h0, mem_off h2 (fun e => ?_), vs, t, h3, h4⟩
      have e' : c = I := e
      subst e'
      obtain ⟨xs, k, t', d1, d2⟩ := hI
      rw [one _ h2, d1] at h3
      injection h3 with h3
      rw [h3, h4] at d2
      cases d2
  exact {
    D := ⟨fun p hp => mem_off (G.D.mem p hp) fun e => ha (by rw [← e]; exact List.mem_map_of_mem (f := (·.1)) hp), (List.filter_sublist.map _).nodup G.D.nd, G.D.na⟩
    S := ⟨G.S.os, G.S.or, G.S.ocf, G.S.ocj, G.S.oo⟩
    C := ⟨G.C.t, code _ _ _ G.C.d, code _ _ _ G.C.r⟩
    fl := G.fl
    ml := G.ml
    mc := G.mc
    bl := G.bl
    bc := G.bc
    kc := G.kc
    wc := G.wc
    rs := fun p hp => ⟨mem_off (G.rs p (hr ▸ .tail _ hp)).1 (hn p hp), (G.rs p (hr ▸ .tail _ hp)).2⟩ }
end
/-- what holds between the turns -/
def Inv (cl : List (Str × Addr)) (r : List (Addr × Obj)) (i : Nat) (m : Str → Option Value) (news : List (Addr × Obj)) : Prop :=
  ∃ v u ld mk st n, Nm m u ld mk st ∧ St news v u ld mk st n ∧ Same v u ∧ lawCl v u = cl ∧ u.rest = r ∧ n ≤ 2 * i

theorem lawLoop {w : World} {loose : List Str} {mean : ExcName → Option Value} {mg mb : Str → Option Value} {dp un : Nat} {gd : Option (List Code)} {a : Addr} {A₀ : Around} {base h₀ : Heap} {L : Addr} {m₀ : Str → Option Value} {news : List (Addr × Obj)} {s : Shared} {Q : Flow → Shared → Prop} {E : Value → Shared → Prop}
    {cl : List (Str × Addr)} {l : Addr} {vs : List Value} {ns : List Int} {nl : Nat} {LB : List Stmt} (eL : LB = loopB)
    (XB : (Mine.hd.heap_39 w.params).In base) (TB : Top topProg loose mean mg mb base) (CB : CodeHd base 352 348) (B : Below A₀ base [] h₀) (hdp : dp + 100 < recursionLimit) (hun : un + 500 < cLine)
    (F : Fr h₀ L s.heap m₀) (N : News h₀ L s.heap news) (hi : IntsAre vs ns) (hz : ns.length ≤ 40) (hj : Inv cl [(l, PySem.W.listOf vs.toArray nl)] 0 m₀ news)
    (done : ∀ m₁ news₁ h tk, Inv cl [(l, PySem.W.listOf vs.toArray nl)] ns.length m₁ news₁ → Fr h₀ L h m₁ → News h₀ L h news₁ → Q .next { s with heap := h, toks := tk }) :
    wpAny (model PySem.Challenge.rw_am6027_01.row.prog w) (top none dp un gd "law" lawS L a (.ref 352) cl []) (pyIter (.ref l)) (fun it s₂ => LoopAtV PySem.Challenge.rw_am6027_01.row.prog w (top none dp un gd "law" lawS L a (.ref 352) cl []) h₀ (envX "law" lawS L a (.ref 352) cl) "v" LB Q E it s₂) E s := by
  refine iterL (nl := nl) (Inv cl [(l, PySem.W.listOf vs.toArray nl)]) rfl F N hi hj (fun i m news hJ => ?_) (fun i k t m₁ news₁ h tk I oI hk hJ hoff hI F₁ N₁ => ?_) done
  · obtain ⟨v, u, ld, mk, st, n, K, G, Y, hc, hr, hn⟩ := hJ
    exact (G.rs _ (hr ▸ .head _)).1
  · obtain ⟨v, u, ld, mk, st, n, K, G, Y, hc, hr, hn⟩ := hJ
    have hi40 : i < 40 := by
      have := (List.getElem?_eq_some_iff.mp hk).1
      omega
    have nx : ∀ y : Str, y ≠ "v" → (if y = ("v" : Str) then some (Value.int k t) else m₁ y) = m₁ y := fun y hy => if_neg hy
    have hl : (l, PySem.W.listOf vs.toArray nl) ∈ news₁ := (G.rs _ (hr ▸ .head _)).1
    subst hc
    refine turn (u := { u with rest := (I, oI) :: u.rest }) eL XB TB CB B (fun b hb => nomatch hb) KtsTurn.refl F₁ N₁ hdp hun (by omega) (G.enter hoff)
      ⟨(nx "loaded" (by decide)).trans K.L, (nx "marked" (by decide)).trans K.M, (nx "sticky" (by decide)).trans K.S, (nx "asked" (by decide)).trans K.A, (nx "told" (by decide)).trans K.T⟩ ⟨Y.ma, Y.mt, Y.el, Y.ec⟩ (if_pos rfl) fun h' tk' hE => ?_
    obtain ⟨h₀2, m2, news2, v2, u2, ld2, mk2, st2, n2, T2, F2, N2, B2, D2, K2, G2, Y2, ⟨hc2, hr2⟩, hn2⟩ := hE
    have hr2' : u2.rest = (I, oI) :: [(l, PySem.W.listOf vs.toArray nl)] := by rw [hr2, ← hr]
    have hne : ∀ p ∈ [(l, PySem.W.listOf vs.toArray nl)], p.1 ≠ I := fun p hp => by
      rw [List.mem_singleton.mp hp]; exact hoff _ hl
    have N3 := turn_nilN T2 N2
    refine ⟨h', tk', m2, news2.filter (fun q => decide (q.1 ≠ I)), rfl, turn_nil T2 F2, fun p hp => ?_, fun p hp => of_decide_eq_true (List.mem_filter.mp hp).2, v2, { u2 with rest := [(l, PySem.W.listOf vs.toArray nl)] }, ld2, mk2, st2, n2, ⟨K2.L, K2.M, K2.S, K2.A, K2.T⟩, G2.exit hr2' hI hne, ⟨Y2.ma, Y2.mt, Y2.el, Y2.ec⟩, hc2, rfl, by omega⟩
    rcases List.mem_cons.mp hp with rfl | hp
    · exact N3 _ (G2.rs _ (hr2' ▸ .head _)).1
    · exact N3 _ (List.mem_filter.mp hp).1
end Mine
end
section
open PySem PySem.W PyProof.Rows PySem.Calls
set_option Elab.async false
set_option maxRecDepth 100000
namespace Mine
theorem args_getattr_3 (a b c : Value) : argsOk "getattr" ⟨[a, b, c], []⟩ := by unfold argsOk; kernel_rfl
theorem miss_cache : typeLookup (.type "NoneType") "_cache" = pure none := by rw [typeLookup_type, builtinLookup_eq_fast]; kernel_rfl
section
variable {prog : Program} {w : World} {A : Around} {E : Value → Shared → Prop} {s : Shared} {Q : Value → Shared → Prop} {t : Tok}
theorem by_miss_none (hA : A.handled = none)
    (h : ∀ h' tk e, Heap.NewExcOf s.heap h' e "AttributeError" → E (.ref e) { s with heap := h', toks := tk }) :
    wpAny (model prog w) A (getAttrBy (.none) (.str "_cache" t) false) Q E s := by
  obtain ⟨hp, g, d, tk, os⟩ := s
  have hT : ∀ s' : Shared, s'.TypeIs (.none) "NoneType" := fun _ => rfl
  have f1 := sub_AttributeError
  have f3 := F.slot_NoneType_getattribute.lookup
  have f4 := F.slot_NoneType_getattribute.bind (.none)
  have f5 := am_none_getattr_none
  unfold getAttrBy
  repeat (any_goals (first | assumption | ((with_reducible show wpAny _ _ (call (Value.builtin "object.__getattribute__") _ _) _ _ _); refine call_meets F.slot_NoneType_getattribute (hT _) F.entry_object_getattribute (F.args_object_getattribute_2 _ _) (meets_getattribute_miss_none "_cache" _ miss_cache (by size_fits)) ⟨hA, fun h' tk' e hx => ?_⟩) | wp_step))
  obtain ⟨t', u', he⟩ := hx.there
  show wpAny _ _ (getattributeRaised _ _ _ _ _ _ _) _ _ _
  unfold getattributeRaised
  repeat (any_goals (first | assumption | wp_step))
  exact h _ _ _ hx.of
theorem by_miss_none? {Q : Option Value → Shared → Prop} (hA : A.handled = none)
    (h : ∀ h' tk, (∀ b o, s.heap.get? b = some o → h'.get? b = some o) → Q none { s with heap := h', toks := tk }) :
    wpAny (model prog w) A (getAttrBy? (.none) (.str "_cache" t)) Q E s := by
  obtain ⟨hp, g, d, tk, os⟩ := s
  have f1 := sub_AttributeError
  unfold getAttrBy?
  refine wpAny_bind (wpAny_attempt (by_miss_none hA fun h' tk' e hx => ?_))
  obtain ⟨k1, k2, ob, vs, ho, hc, -, -⟩ := hx
  repeat (any_goals (first | assumption | wp_step))
  rw [hc, f1]
  exact wpAny_pure (by rw [if_pos rfl]; exact wpAny_pure (h _ _ k1))
theorem getattr_none {d : Value} (hA : A.handled = none)
    (h : ∀ h' tk, (∀ b o, s.heap.get? b = some o → h'.get? b = some o) → Q d { s with heap := h', toks := tk }) :
    wpAny (model prog w) A (call (.builtin "getattr") [.none, .str "_cache" t, d]) Q E s := by
  refine Calls.call_function_entry KB.kind_getattr KB.plain_getattr KB.entry_getattr (args_getattr_3 _ _ _) ?_
  unfold Builtin.«getattr»
  refine wpAny_bind (wpAny_of_eq (a := [.none, .str "_cache" t, d]) (by first | rfl | kernel_rfl) ?_)
  dsimp only
  refine wpAny_bind (wpAny_of_eq (a := ()) (by first | rfl | kernel_rfl) ?_)
  refine wpAny_bind (wpAny_pure ?_)
  dsimp only
  refine wpAny_bind (wpAny_pure ?_)
  rw [if_neg (by decide)]
  refine wpAny_bind (by_miss_none? hA fun h' tk' k => ?_)
  dsimp only
  rw [if_neg (by decide)]
  exact wpAny_pure ⟨_, rfl, h _ _ k⟩
end
end Mine
end
section
open PySem PySem.W PyProof.Rows PySem.Calls
set_option Elab.async false
set_option maxRecDepth 100000
namespace Mine

local macro_rules | `(tactic| walk_at "ite") => `(tactic| first | with_reducible refine ite_pos (by decide) ?_ | with_reducible refine ite_neg (by decide) ?_)
local macro_rules | `(tactic| k_room) => `(tactic| ((try simp only [depth_mark, depth_under_make, depth_under_kw, depth_in1, depth_deeper, depth_caller]); (try dsimp only [top]); omega))
local macro_rules | `(tactic| k_units) => `(tactic| ((try simp only [units_in1, units_deeper, Around.mark_units, units_caller]); (try dsimp only [top]); (have hcL9 := cLine_is); omega))
local macro_rules | `(tactic| k_handed) => `(tactic| assumption)
local macro_rules | `(tactic| k_upd) => `(tactic| assumption)
local macro_rules | `(tactic| k_mem) => `(tactic| first | (refine' Jars.x' ?J ?h; (case J => first | assumption | apply_assumption); (case h => exact rfl)) | (refine' Jars.dx' ?J ?h; (case J => first | assumption | apply_assumption); (case h => exact rfl)) | (refine' Jars.y' ?J ?h; (case J => first | assumption | apply_assumption); (case h => exact rfl)) | (refine' Jars.dy' ?J ?h; (case J => first | assumption | apply_assumption); (case h => exact rfl)) | (refine' Jars.ll' ?J ?h; (case J => first | assumption | apply_assumption); (case h => exact rfl)) | (refine' Jars.lc' ?J ?h; (case J => first | assumption | apply_assumption); (case h => exact rfl)) | (refine' Jars.fs' ?J ?h; (case J => first | assumption | apply_assumption); (case h => exact rfl)) | (refine' Jars.fr' ?J ?h; (case J => first | assumption | apply_assumption); (case h => exact rfl)) | (refine' Jars.cf' ?J ?h; (case J => first | assumption | apply_assumption); (case h => exact rfl)) | (refine' Jars.cj' ?J ?h; (case J => first | assumption | apply_assumption); (case h => exact rfl)) | (refine' Jars.fl' ?J ?h; (case J => first | assumption | apply_assumption); (case h => exact rfl)) | (refine' Jars.cs' ?J ?h; (case J => first | assumption | apply_assumption); (case h => exact rfl)) | (refine' Jars.cr' ?J ?h; (case J => first | assumption | apply_assumption); (case h => exact rfl)))
local macro_rules | `(tactic| size_fits) => `(tactic| (simp only [List.size_toArray, PySem.sizeLine_eq]; omega))

local macro_rules | `(tactic| k_upd) => `(tactic| apply_assumption)
local macro_rules | `(tactic| k_mem) => `(tactic| assumption)
local macro_rules | `(tactic| walk_at "compareOp Eq bytes none") => `(tactic| with_reducible refine eq_bytes_none ?_)
local macro_rules | `(tactic| walk_at "truthy bytes") => `(tactic| (k_dflt (refine truthy_bytes (by decide) ?_)))
local macro_rules | `(tactic| walk_at "compareOp NotEq none ref") => `(tactic| (k_here; k_dflt (refine' ne_none_inst ?k1 ?k2 ?k3 ?k4 ?k5 ?k6 ?k7 ?_; (case k1 => k_units); (case k2 => k_in); (case k3 => k_inst); (case k4 => k_is); (case k5 => k_is); (case k6 => k_is); (case k7 => k_is); k_whole)))
local macro_rules | `(tactic| walk_at "call builtin:getattr") => `(tactic| (k_here; k_dflt (show wpAny _ _ (PySem.call (Value.builtin "getattr") [Value.none, Value.str (PySem.Str.ofString "_cache") _, _]) _ _ _); k_dflt (refine' getattr_none ?a ?_; (case a => exact rfl); k_whole); intro h' tk' kk'; (rename News _ _ _ _ => nN; replace nN := nN.keepsAll kk'); (rename Fr _ _ _ _ => nF; replace nF := nF.keeps kk'); clear kk'; (try dsimp only at *)))

set_option maxHeartbeats 8000000 in
theorem set_oid_c {w : World} {loose : List Str} {mean : ExcName → Option Value} {mg mb : Str → Option Value} {dp un : Nat} {gd : Option (List Code)} {cn : Str} {cs : Scope} {a : Addr} {ccd : Value} {cl : List (Str × Addr)} {outer : List Env} {A₀ : Around} {base h₀ : Heap} {L : Addr} {m : Str → Option Value}
    {news : List (Addr × Obj)} {s : Shared} {R : Result → Shared → Prop} {x dx : Addr} {ks : Keys} {tz t0 : Tok} {n1 : List (Addr × Obj)}
    (X : (Mine.hd.heap_39 w.params).In h₀) (B : Below A₀ base outer h₀) (F : Fr h₀ L s.heap m) (N : News h₀ L s.heap news) (T : Top topProg loose mean mg mb h₀) (hk : cs.kind = .function) (mx : (x, instObj 293 dx) ∈ news) (md : (dx, (dictOf (oneD ks .none .none .none .none (.int 0 tz) .none) 6)) ∈ news) (U : Upd dx (dictOf (oneD ks .none .none .none .none (.int 0 tz) .none) 6) (dictOf (oneD ks .none (.bytes #[109] t0) .none .none (.int 0 tz) .none) 6) news n1) (hdp : dp + 60 < recursionLimit) (hun : un + 300 < cLine)
    (ret : ∀ h' tk', Fr h₀ L h' m → News h₀ L h' n1 → R (.ok (.ret .none)) { s with heap := h', toks := tk' }) :
    codeAny (model PySem.Challenge.rw_am6027_01.row.prog w) (top none dp un gd cn cs L a ccd cl outer).in1.in1 (.call (.ref 127) ⟨[.ref x, .bytes #[109] t0], []⟩) R s := by
  w_top off
  w_strict (
    revert X
    k_fill
    intro X
    have mx1 := upd_other U mx (ne_of_tag (Nat.ne_of_beq_eq_false rfl))
    k_dflt ktr_enter
    k_steps
    exact ret _ _ (by k_asm) (by k_asm))

set_option maxHeartbeats 8000000 in
theorem set_jar_c {w : World} {loose : List Str} {mean : ExcName → Option Value} {mg mb : Str → Option Value} {dp un : Nat} {gd : Option (List Code)} {cn : Str} {cs : Scope} {a : Addr} {ccd : Value} {cl : List (Str × Addr)} {outer : List Env} {A₀ : Around} {base h₀ : Heap} {L : Addr} {m : Str → Option Value}
    {news : List (Addr × Obj)} {s : Shared} {R : Result → Shared → Prop} {x dx : Addr} {ks : Keys} {tz t0 : Tok} {y dy : Addr} {jd : List DictEntry} {jn : Nat} {n1 : List (Addr × Obj)} {n2 : Tok → List (Addr × Obj)}
    (X : (Mine.hd.heap_39 w.params).In h₀) (B : Below A₀ base outer h₀) (F : Fr h₀ L s.heap m) (N : News h₀ L s.heap news) (T : Top topProg loose mean mg mb h₀) (hk : cs.kind = .function) (mx : (x, instObj 293 dx) ∈ news) (my : (y, instObj 73 dy) ∈ news) (mj : (dy, dictOf jd jn) ∈ news) (md : (dx, (dictOf (oneD ks .none (.bytes #[109] t0) .none .none (.int 0 tz) .none) 6)) ∈ news) (U : Upd dx (dictOf (oneD ks .none (.bytes #[109] t0) .none .none (.int 0 tz) .none) 6) (dictOf (oneD ks (.ref y) (.bytes #[109] t0) .none .none (.int 0 tz) .none) 6) news n1) (U2 : ∀ t, Upd dx (dictOf (oneD ks (.ref y) (.bytes #[109] t0) .none .none (.int 0 tz) .none) 6) (dictOf (oneD ks (.ref y) (.bytes #[109] t0) .none (.int 0 t) (.int 0 tz) .none) 6) n1 (n2 t)) (hdp : dp + 60 < recursionLimit) (hun : un + 300 < cLine)
    (ret : ∀ h' tk' t, Fr h₀ L h' m → News h₀ L h' (n2 t) → R (.ok (.ret .none)) { s with heap := h', toks := tk' }) :
    codeAny (model PySem.Challenge.rw_am6027_01.row.prog w) (top none dp un gd cn cs L a ccd cl outer).in1.in1 (.call (.ref 105) ⟨[.ref x, .ref y], []⟩) R s := by
  w_top off
  w_strict (
    revert X
    k_fill
    intro X
    have mx1 := upd_other U mx (ne_of_tag (Nat.ne_of_beq_eq_false rfl))
    have md1 := upd_here U
    k_dflt ktr_enter
    k_steps
    exact ret _ _ _ (by k_asm) (by k_asm))
end Mine
end
section
open PySem PySem.W PyProof.Rows PySem.Calls
set_option Elab.async false
set_option maxRecDepth 100000
namespace Mine

local macro_rules | `(tactic| walk_at "ite") => `(tactic| first | with_reducible refine ite_pos (by decide) ?_ | with_reducible refine ite_neg (by decide) ?_)
local macro_rules | `(tactic| k_room) => `(tactic| ((try simp only [depth_mark, depth_under_make, depth_under_kw, depth_in1, depth_deeper, depth_caller]); (try dsimp only [top]); omega))
local macro_rules | `(tactic| k_units) => `(tactic| ((try simp only [units_in1, units_deeper, Around.mark_units, units_caller]); (try dsimp only [top]); (have hcL9 := cLine_is); omega))
local macro_rules | `(tactic| k_handed) => `(tactic| assumption)
local macro_rules | `(tactic| k_upd) => `(tactic| assumption)
local macro_rules | `(tactic| k_mem) => `(tactic| first | (refine' Jars.x' ?J ?h; (case J => first | assumption | apply_assumption); (case h => exact rfl)) | (refine' Jars.dx' ?J ?h; (case J => first | assumption | apply_assumption); (case h => exact rfl)) | (refine' Jars.y' ?J ?h; (case J => first | assumption | apply_assumption); (case h => exact rfl)) | (refine' Jars.dy' ?J ?h; (case J => first | assumption | apply_assumption); (case h => exact rfl)) | (refine' Jars.ll' ?J ?h; (case J => first | assumption | apply_assumption); (case h => exact rfl)) | (refine' Jars.lc' ?J ?h; (case J => first | assumption | apply_assumption); (case h => exact rfl)) | (refine' Jars.fs' ?J ?h; (case J => first | assumption | apply_assumption); (case h => exact rfl)) | (refine' Jars.fr' ?J ?h; (case J => first | assumption | apply_assumption); (case h => exact rfl)) | (refine' Jars.cf' ?J ?h; (case J => first | assumption | apply_assumption); (case h => exact rfl)) | (refine' Jars.cj' ?J ?h; (case J => first | assumption | apply_assumption); (case h => exact rfl)) | (refine' Jars.fl' ?J ?h; (case J => first | assumption | apply_assumption); (case h => exact rfl)) | (refine' Jars.cs' ?J ?h; (case J => first | assumption | apply_assumption); (case h => exact rfl)) | (refine' Jars.cr' ?J ?h; (case J => first | assumption | apply_assumption); (case h => exact rfl)))
local macro_rules | `(tactic| size_fits) => `(tactic| (simp only [List.size_toArray, PySem.sizeLine_eq]; omega))

local macro_rules | `(tactic| walk_at "eval Name") => `(tactic| (k_here; k_dflt (refine' nameX_F ?N ?c ?m ?d ?_ ?a ?b; (case a => rfl); (case b => rfl); (case N => k_asm); (case c => rfl); (case m => k_mem); (case d => k_asm); k_whole)))
local macro_rules | `(tactic| ktr_room) => `(tactic| ((try simp only [depth_mark, depth_under_make, depth_under_kw, depth_in1, depth_deeper, depth_caller, units_in1, units_deeper, Around.mark_units, units_caller]); (try dsimp only [top]); first | omega | (have hcL9 := cLine_is; omega) | decide))
local macro_rules | `(tactic| ktr_enter) => `(tactic| (refine' enterT ?B ?D ?T0 ?F ?N ?XB ?TB ?kA ?kF ?kK ?ho ?hcd ?hroom ?hbind ?hloc ?_ ?c1 ?c2 ?c3 ?c4; (case kA => exact rfl); (case kF => exact rfl); (case kK => first | assumption | exact rfl); (case B => k_asm); (case D => k_asm); (case T0 => first | assumption | exact KtsTurn.refl); (case F => k_asm); (case N => k_asm); (case XB => k_asm); (case TB => k_asm); (case ho => k_is); (case hcd => k_is); (case hroom => k_room); (case hbind => first | exact BindsTo.of_eq rfl | exact binds_K (by k_in) rfl (by k_is) rfl rfl rfl); (case hloc => exact locs rfl); (case c1 => exact rfl); (case c2 => exact rfl); (case c3 => exact rfl); (case c4 => decide); k_whole; intro g' L' h' FG' F' N' B' D' X' T'; (try dsimp only); (try k_fold)))
local macro_rules | `(tactic| kla_enter) => `(tactic| (refine' enterTL ?B ?D ?T0 ?F ?N ?XB ?TB ?kA ?kF ?kK ?ho ?hcd ?hroom ?hbind ?hloc ?_ ?c1 ?c2 ?c3 ?c4; (case kA => exact rfl); (case kF => exact rfl); (case kK => first | assumption | exact rfl); (case B => k_asm); (case D => k_asm); (case T0 => first | assumption | exact KtsTurn.refl); (case F => k_asm); (case N => k_asm); (case XB => k_asm); (case TB => k_asm); (case ho => k_mem); (case hcd => first | exact jars_codeS (by k_asm) (by k_asm) | exact jars_codeR (by k_asm) (by k_asm)); (case hroom => k_room); (case hbind => exact rfl); (case hloc => exact locs rfl); (case c1 => exact rfl); (case c2 => exact rfl); (case c3 => exact rfl); (case c4 => decide); k_whole; intro g' L' h' FG' F' N' B' D' X' T'; (try dsimp only); (try k_fold)))
local macro_rules | `(tactic| walk_at "LeaveT") => `(tactic| (k_dflt (refine' leaveT_ ?F ?N ?T ?_; (case F => k_asm); (case N => k_asm); (case T => first | assumption | exact KtsTurn.refl); k_whole); intro h₀' T' F' N' B' D'; (try dsimp only)))
local macro_rules | `(tactic| walk_at "subscriptTail Name Constant ref int") => `(tactic| ((with_reducible show wpAny _ _ (subscriptTail _ _ (Value.ref _) (Value.int _ _)) _ _ _); k_dflt (refine' item_fl ?N ?m ?a ?b ?x ?_; (case N => k_asm); (case m => k_mem); (case a => decide); (case b => decide); (case x => rfl); k_whole)))
local macro_rules | `(tactic| walk_at "callWith ref") => `(tactic| (k_here; (show wpAny _ _ (callWith _ (Value.ref (V.fr _)) _ _ _) _ _ _); k_dflt (first
  | (refine' callWith_F ?k1 ?_; (case k1 => exact FnAt.of (by k_asm) (by k_mem)); k_whole)
  | (refine' callWith_F0 ?k1 ?_; (case k1 => exact FnAt.of (by k_asm) (by k_mem)); k_whole; try dsimp only [List.nil_append, List.cons_append]))))
local macro_rules | `(tactic| walk_at "callWith ref") => `(tactic| (k_here; (show wpAny _ _ (callWith _ (Value.ref (V.fs _)) _ _ _) _ _ _); k_dflt (first
  | (refine' callWith_F ?k1 ?_; (case k1 => exact FnAt.of (by k_asm) (by k_mem)); k_whole)
  | (refine' callWith_F0 ?k1 ?_; (case k1 => exact FnAt.of (by k_asm) (by k_mem)); k_whole; try dsimp only [List.nil_append, List.cons_append]))))
local macro_rules | `(tactic| walk_at "getMethod ref") => `(tactic| (k_here; k_dflt (refine' method_shadow ?k1 ?k2 ?k3 ?k4 ?k5 ?k6 ?k7 ?k8 ?k9 ?k10 ?k11 ?_; (case k1 => k_asm); (case k2 => k_asm); (case k3 => k_inst); (case k4 => k_is); (case k5 => k_is); (case k6 => k_is); (case k7 => k_is); (case k8 => k_is); (case k9 => k_is); (case k10 => k_get); (case k11 => first | rfl | k_handed); k_whole)))
local macro_rules | `(tactic| walk_at "leaving ref") => `(tactic| (k_here; first
  | (with_reducible rename RaisedSN _ _ _ _ _ _ _ => rsX; k_dflt (refine' passX ?f ?K ?F ?R ?U ?_; (case R => exact rsX); (case f => exact rfl); (case K => k_asm); (case F => k_asm); (case U => k_asm); k_whole); clear rsX; intro h' R' U'; (try dsimp only at R' U' ⊢); (try k_unfold); (try dsimp only); (try (with_reducible rename RaisedSN _ _ _ _ _ _ _ => rsX; with_reducible rename Heap.UpToSlots _ _ => rsU; (show wpAny _ _ _ _ _ _); k_dflt (refine' exc_of rfl ?FG ?B ?D ?T0 ?T rsX rsU ?_; (case T => assumption); (case FG => k_asm); (case B => k_asm); (case D => k_asm); (case T0 => first | assumption | exact KtsTurn.refl); k_whole); clear rsX rsU; intro h₀' g' T' FG' B' D' R' U'; (try dsimp only))))
  | (k_dflt (refine' leave_raiseS ?k1 ?k0 ?k2 ?k3 ?_; (case k0 => first | assumption | exact Heap.MadeExc.of (by assumption)); (case k2 => assumption); (case k1 => assumption); (case k3 => k_asm); k_whole); intro h' t' S' R' U'; (try dsimp only at S' R' U' ⊢); (replace S' := toSN S'); clear R')))
local macro_rules | `(tactic| walk_at "call ref") => `(tactic| (k_here; (show wpAny _ _ (PySem.call (Value.ref 35) [_, Value.str (PySem.Str.ofString "_Persistent__flags") _]) _ _ _); k_dflt (refine' oga_flags ?X ?B ?F ?N ?T ?hk ?J ?hx ?dp ?un ?hF ?hh ?_; (case X => k_asm); (case B => k_asm); (case F => k_asm); (case N => k_asm); (case T => k_asm); (case hk => first | assumption | exact rfl); (case J => first | k_asm | apply_assumption); (case hx => exact rfl); (case dp => ktr_room); (case un => ktr_room); (case hF => first | assumption | exact rfl); (case hh => first | rfl | assumption); k_whole); intro h' tk' F' N'; (try dsimp only); (try k_sweep)))
local macro_rules | `(tactic| walk_at "call ref") => `(tactic| (k_here; (show wpAny _ _ (PySem.call (Value.ref 35) [_, Value.str (PySem.Str.ofString "_Persistent__jar") _]) _ _ _); k_dflt (refine' oga_jar ?X ?B ?F ?N ?T ?hk ?J ?hx ?dp ?un ?_; (case X => k_asm); (case B => k_asm); (case F => k_asm); (case N => k_asm); (case T => k_asm); (case hk => first | assumption | exact rfl); (case J => first | k_asm | apply_assumption); (case hx => exact rfl); (case dp => ktr_room); (case un => ktr_room); k_whole); intro h' tk' F' N'; (try dsimp only); (try k_sweep)))
local macro_rules | `(tactic| walk_at "call ref") => `(tactic| (k_here; (show wpAny _ _ (PySem.call (Value.ref 35) [_, Value.str (PySem.Str.ofString "_Persistent__oid") _]) _ _ _); k_dflt (refine' oga_oid ?X ?B ?F ?N ?T ?hk ?J ?hx ?dp ?un ?_; (case X => k_asm); (case B => k_asm); (case F => k_asm); (case N => k_asm); (case T => k_asm); (case hk => first | assumption | exact rfl); (case J => first | k_asm | apply_assumption); (case hx => exact rfl); (case dp => ktr_room); (case un => ktr_room); k_whole); intro h' tk' F' N'; (try dsimp only); (try k_sweep)))

local macro_rules | `(tactic| k_mem) => `(tactic| assumption)
local macro_rules | `(tactic| walk_at "eval Name") => `(tactic| (k_here; k_dflt (refine' nameX_C ?N ?c ?m ?d ?_ ?a ?b; (case a => rfl); (case b => rfl); (case N => k_asm); (case c => rfl); (case m => k_mem); (case d => k_asm); k_whole)))
local macro_rules | `(tactic| walk_at "eval Name") => `(tactic| (k_here; k_dflt (refine' nameX_L ?F ?hv ?_ ?a ?b; (case a => rfl); (case b => rfl); (case F => k_asm); (case hv => ((repeat refine (if_neg (by decide)).trans ?_); first | exact if_pos rfl | assumption)); k_whole)))
local macro_rules | `(tactic| walk_at "compareOp NotEq ref ref") => `(tactic| (k_here; k_dflt (refine' ne_marks ?l1 ?l2 ?m1 ?m2 ?e ?u ?_; (case l1 => exact isList_of (by k_asm) (by assumption)); (case l2 => exact isList_of (by k_asm) (by assumption)); (case m1 => assumption); (case m2 => assumption); (case e => assumption); (case u => ktr_room); k_whole)))

local macro_rules | `(tactic| walk_at "callWith ref") => `(tactic| (k_here; k_dflt (first | (refine' callWith_K ?k1 ?k2 ?_; (case k1 => k_asm); (case k2 => k_is); k_whole) | (refine' callWith_K0 ?k1 ?k2 ?_; (case k1 => k_in); (case k2 => k_is); k_whole))))

set_option maxHeartbeats 8000000 in
theorem lastRet {w : World} {loose : List Str} {mean : ExcName → Option Value} {mg mb : Str → Option Value} {dp un : Nat} {gd : Option (List Code)} {a : Addr} {outer : List Env} {A₀ : Around} {base h₀ g₀ : Heap} {L : Addr} {m : Str → Option Value}
    {news : List (Addr × Obj)} {s : Shared} {Q : Flow → Shared → Prop} {E : Value → Shared → Prop} {v : V} {u : U} {n : Nat} {S0 : Stmt} {ld mk st : Bool}
    (eS0 : S0 = nthS 13 lawB) (XB : (Mine.hd.heap_39 w.params).In base) (TB : Top topProg loose mean mg mb base) (CB : CodeHd base 352 348) (B : Below A₀ base outer h₀) (D : KtsDicts (frs outer) h₀) (T0 : KtsTurn (frs outer) g₀ h₀) (F : Fr h₀ L s.heap m) (N : News h₀ L s.heap news) (hdp : dp + 100 < recursionLimit) (hun : un + 500 < cLine) (hn : n ≤ 90) (G : St news v u ld mk st n) (nL : m "loaded" = some (.bool ld)) (nM : m "marked" = some (.bool mk)) (nS : m "sticky" = some (.bool st)) (nA : m "asked" = some (.ref u.la)) (nT : m "told" = some (.ref u.lt)) 
    (ret : ∀ h' tk', Fr h₀ L h' m → News h₀ L h' news → Q (.ret (.bool true)) { s with heap := h', toks := tk' }) :
    wpAny (model PySem.Challenge.rw_am6027_01.row.prog w) (top none dp un gd "law" lawS L a (.ref 352) (lawCl v u) outer) (exec S0 (envX "law" lawS L a (.ref 352) (lawCl v u))) Q E s := by
  w_top off
  w_strict (
    revert XB
    k_fill
    intro XB
    have X := XB.keeps B.stays
    have T := TB.keeps B.stays
    have J := G.D.jars G.S
    have dcf := G.S.ocf
    have dcj := G.S.ocj
    have hoo := G.S.oo
    have mco : (u.co, u.oo) ∈ news := G.has (by simp [rows])
    have mck : (u.ck, u.ok) ∈ news := G.has (by simp [rows])
    have mcw : (u.cw, u.ow) ∈ news := G.has (by simp [rows])
    have mla : (u.la, PySem.W.listOf u.va.toArray u.na) ∈ news := G.has (by simp [rows])
    have mlt : (u.lt, PySem.W.listOf u.vt.toArray u.nt) ∈ news := G.has (by simp [rows])
    have mll : (v.ll, PySem.W.listOf v.vl.toArray v.nl) ∈ news := G.has (by simp [rows])
    have mlc : (v.lc, PySem.W.listOf v.vc.toArray v.nc) ∈ news := G.has (by simp [rows])
    subst eS0
    have eS := Eq.refl lawS
    conv at eS => rhs; whnf
    have e0 := Eq.refl (nthS 13 lawB)
    conv at e0 => rhs; whnf
    rw [eS, e0]
    clear eS e0
    k_steps
    exact ret _ _ (by k_asm) (by k_asm))
end Mine
end
section
open PySem PySem.W PyProof.Rows PySem.Calls
set_option Elab.async false
set_option maxRecDepth 100000
namespace Mine

/-- ever smaller -/
def Down : List Nat → Prop
  | a :: b :: r => b < a ∧ Down (b :: r)
  | [_] => True
  | [] => True
theorem Down.tail {a : Nat} : ∀ {l : List Nat}, Down (a :: l) → Down l
  | [], _ => trivial
  | _ :: _, h => h.2
theorem Down.lt {a : Nat} : ∀ {l : List Nat}, Down (a :: l) → ∀ x ∈ l, x < a
  | [], _ => fun _ h => nomatch h
  | b :: r, h => fun x hx => by
    rcases List.mem_cons.mp hx with rfl | hx
    · exact h.1
    · exact Nat.lt_trans (Down.lt h.2 x hx) h.1
theorem Down.nodup : ∀ {l : List Nat}, Down l → l.Nodup
  | [], _ => .nil
  | _ :: _, h => List.nodup_cons.mpr ⟨fun hm => Nat.lt_irrefl _ (h.lt _ hm), h.tail.nodup⟩
theorem pick_nodup {l : List Addr} (h : l.Nodup) : ∀ {is : List Nat}, is.Nodup → (∀ i ∈ is, i < l.length) → (is.map fun i => l.getD i 0).Nodup
  | [], _, _ => .nil
  | i :: r, hn, hb => by
    have hn' := List.nodup_cons.mp hn
    refine List.nodup_cons.mpr ⟨fun hm => ?_, pick_nodup h hn'.2 fun j hj => hb j (.tail _ hj)⟩
    obtain ⟨j, hj, e⟩ := List.mem_map.mp hm
    have bi := hb i (.head _)
    have bj := hb j (.tail _ hj)
    have ne : i ≠ j := fun e => hn'.1 (e ▸ hj)
    refine nodup_at h (i := i) (j := j) (List.getElem?_eq_getElem bi) (List.getElem?_eq_getElem bj) ne ?_
    simpa [List.getD_eq_getElem?_getD, List.getElem?_eq_getElem bi, List.getElem?_eq_getElem bj] using e.symm

theorem startInv {m : Str → Option Value} {D2 D1 l2 lt la x dx fr cr fs cs fl lc ll y dy cw co ck cj cf : Addr} {o1 o2 ocr ocs ocw oco ock ocj ocf : Obj} {ws : List Value} {nl nt na nf nc nl2 : Nat} {h1 h2 h3 h4 h5 h6 g1 g2 g3 g4 : Int} {t0 t1 t2 t3 t4 t5 t6 tf tz k1 k2 k3 k4 tr ts : Tok}
    {qr qs : Str} {pr ps ur us : Value} {vr vs : Array Value} {cc cd : Option Value} {cl : List (Str × Addr)}
    (hd : Down [D2, D1, l2, lt, la, x, dx, fr, cr, fs, cs, fl, lc, ll, y, dy, cw, co, ck, cj, cf, 348])
    (hcf : ocf.data = .cell (some (.ref fl))) (hcj : ocj.data = .cell (some (.ref y))) (hco : oco.data = .cell (some (.ref x))) (hck : ock.data = .cell cc) (hcw : ocw.data = .cell cd)
    (hor : ocr.data = .fields vr) (hvr : vr[1]? = some (.str qr tr)) (hos : ocs.data = .fields vs) (hvs : vs[1]? = some (.str qs ts))
    (nL : m "loaded" = some (.bool true)) (nM : m "marked" = some (.bool false)) (nS : m "sticky" = some (.bool false)) (nA : m "asked" = some (.ref la)) (nT : m "told" = some (.ref lt))
    (hcl : cl = ([("word", cw), ("one", co), ("kind", ck), ("jar", cj), ("fails", cf)] : List (Str × Addr))) :
    Inv cl [(D2, PySem.W.listOf ws.toArray nl)] 0 m [(D2, PySem.W.listOf ws.toArray nl),
   (D1, o1),
   (l2, o2),
   (lt, PySem.W.listOf #[] nt),
   (la, PySem.W.listOf #[] na),
   (x, instObj 293 dx),
   (dx, dictOf (oneD ⟨h1, h2, h3, h4, h5, h6, t1, t2, t3, t4, t5, t6⟩ (.ref y) (.bytes #[109] t0) .none (.int 0 tf) (.int 0 tz) .none) 6),
   (fr, kla_obj "<lambda>" qr (lamArgs 299) (lamBody "_law_tell" 299) (lamScope "_law_tell") [("jar", cj), ("fails", cf)] pr cr ur),
   (cr, ocr),
   (fs, kla_obj "<lambda>" qs (lamArgs 298) (lamBody "_law_load" 298) (lamScope "_law_load") [("jar", cj), ("fails", cf)] ps cs us),
   (cs, ocs),
   (fl, PySem.W.listOf #[.bool false, .bool false] nf),
   (lc, PySem.W.listOf #[] nc),
   (ll, PySem.W.listOf #[] nl2),
   (y, instObj 73 dy),
   (dy, dictOf (jarD ⟨g1, g2, g3, g4, k1, k2, k3, k4⟩ (.ref ll) (.ref lc) (.ref fs) (.ref fr)) 4),
   (cw, ocw),
   (co, oco),
   (ck, ock),
   (cj, ocj),
   (cf, ocf),
   (348, tabObj (#[] ++ #[rawInt (298 : Nat), rawInt (19 : Nat), .ref cs] ++ #[rawInt (299 : Nat), rawInt (19 : Nat), .ref cr]))] := by
  have nd := hd.nodup
  refine ⟨{ x := x, dx := dx, y := y, dy := dy, ll := ll, lc := lc, fs := fs, cs := cs, fr := fr, cr := cr, cf := cf, cj := cj, fl := fl, ks := ⟨h1, h2, h3, h4, h5, h6, t1, t2, t3, t4, t5, t6⟩, jk := ⟨g1, g2, g3, g4, k1, k2, k3, k4⟩, t0 := t0, tz := tz, F := .int 0 tf, vl := [], vc := [], nl := nl2, nc := nc, nf := nf, f0 := false, f1 := false, qs := qs, qr := qr, ps := ps, pr := pr, us := us, ur := ur, os := ocs, or := ocr, ocf := ocf, ocj := ocj },
    { ck := ck, co := co, cw := cw, la := la, lt := lt, ok := ock, oo := oco, ow := ocw, va := [], vt := [], na := na, nt := nt, ps := #[] ++ #[rawInt (298 : Nat), rawInt (19 : Nat), .ref cs] ++ #[rawInt (299 : Nat), rawInt (19 : Nat), .ref cr], rest := [(D2, PySem.W.listOf ws.toArray nl)] },
    true, false, false, 0, ⟨nL, nM, nS, nA, nT⟩, ?_, ⟨(fun _ h => nomatch h), (fun _ h => nomatch h), rfl, rfl⟩, hcl.symm, rfl, Nat.le_refl _⟩
  exact {
    D := ⟨by
      refine List.forall_mem_cons.mpr ⟨List.mem_of_getElem? (i := 5) rfl, ?_⟩
      refine List.forall_mem_cons.mpr ⟨List.mem_of_getElem? (i := 6) rfl, ?_⟩
      refine List.forall_mem_cons.mpr ⟨List.mem_of_getElem? (i := 14) rfl, ?_⟩
      refine List.forall_mem_cons.mpr ⟨List.mem_of_getElem? (i := 15) rfl, ?_⟩
      refine List.forall_mem_cons.mpr ⟨List.mem_of_getElem? (i := 13) rfl, ?_⟩
      refine List.forall_mem_cons.mpr ⟨List.mem_of_getElem? (i := 12) rfl, ?_⟩
      refine List.forall_mem_cons.mpr ⟨List.mem_of_getElem? (i := 9) rfl, ?_⟩
      refine List.forall_mem_cons.mpr ⟨List.mem_of_getElem? (i := 10) rfl, ?_⟩
      refine List.forall_mem_cons.mpr ⟨List.mem_of_getElem? (i := 7) rfl, ?_⟩
      refine List.forall_mem_cons.mpr ⟨List.mem_of_getElem? (i := 8) rfl, ?_⟩
      refine List.forall_mem_cons.mpr ⟨List.mem_of_getElem? (i := 20) rfl, ?_⟩
      refine List.forall_mem_cons.mpr ⟨List.mem_of_getElem? (i := 19) rfl, ?_⟩
      refine List.forall_mem_cons.mpr ⟨List.mem_of_getElem? (i := 11) rfl, ?_⟩
      refine List.forall_mem_cons.mpr ⟨List.mem_of_getElem? (i := 18) rfl, ?_⟩
      refine List.forall_mem_cons.mpr ⟨List.mem_of_getElem? (i := 17) rfl, ?_⟩
      refine List.forall_mem_cons.mpr ⟨List.mem_of_getElem? (i := 16) rfl, ?_⟩
      refine List.forall_mem_cons.mpr ⟨List.mem_of_getElem? (i := 4) rfl, ?_⟩
      refine List.forall_mem_cons.mpr ⟨List.mem_of_getElem? (i := 3) rfl, ?_⟩
      refine List.forall_mem_cons.mpr ⟨List.mem_of_getElem? (i := 21) rfl, ?_⟩
      exact (fun _ h => nomatch h), nd, pick_nodup nd (is := [5, 6, 14, 15, 13, 12, 9, 10, 7, 8, 20, 19, 11, 18, 17, 16, 4, 3, 21]) (by decide) (by show ∀ i ∈ [5, 6, 14, 15, 13, 12, 9, 10, 7, 8, 20, 19, 11, 18, 17, 16, 4, 3, 21], i < 22; decide)⟩
    S := ⟨⟨vs, ts, hos, hvs⟩, ⟨vr, tr, hor, hvr⟩, hcf, hcj, hco⟩
    C := ⟨by simp [TriplesOk, rawInt], .inl (by rfl), .inl (by rfl)⟩
    fl := .k0 tf
    ml := fun _ h => nomatch h
    mc := fun _ h => nomatch h
    bl := Nat.le_refl _
    bc := Nat.le_refl _
    kc := ⟨_, hck⟩
    wc := ⟨_, hcw⟩
    rs := fun p hp => by
      rw [List.mem_singleton.mp hp]
      exact ⟨.head _, (List.nodup_cons.mp (pick_nodup nd (is := [0, 5, 6, 14, 15, 13, 12, 9, 10, 7, 8, 20, 19, 11, 18, 17, 16, 4, 3, 21]) (by decide) (by show ∀ i ∈ [0, 5, 6, 14, 15, 13, 12, 9, 10, 7, 8, 20, 19, 11, 18, 17, 16, 4, 3, 21], i < 22; decide))).1⟩ }

theorem lawLoop' {w : World} {loose : List Str} {mean : ExcName → Option Value} {mg mb : Str → Option Value} {dp un : Nat} {gd : Option (List Code)} {a : Addr} {A₀ A : Around} {base h₀ : Heap} {L : Addr} {m₀ : Str → Option Value} {news : List (Addr × Obj)} {s : Shared} {Q : Flow → Shared → Prop} {E : Value → Shared → Prop}
    {cl : List (Str × Addr)} {l : Addr} {vs : List Value} {ns : List Int} {nl : Nat} {LB : List Stmt} {cs : Scope} {env : Env} {S : Stmt} (eL : LB = loopB) (ecs : cs = lawS) (eA : A = top none dp un gd "law" cs L a (.ref 352) cl []) (ee : env = envX "law" cs L a (.ref 352) cl) (eS : S = nthS 13 lawB)
    (XB : (Mine.hd.heap_39 w.params).In base) (TB : Top topProg loose mean mg mb base) (CB : CodeHd base 352 348) (B : Below A₀ base [] h₀) (hdp : dp + 100 < recursionLimit) (hun : un + 500 < cLine)
    (F : Fr h₀ L s.heap m₀) (N : News h₀ L s.heap news) (hi : IntsAre vs ns) (hz : ns.length ≤ 40) (hj : Inv cl [(l, PySem.W.listOf vs.toArray nl)] 0 m₀ news)
    (done : ∀ m₁ news₁ h tk, Fr h₀ L h m₁ → News h₀ L h news₁ → (∃ ps, (348, tabObj ps) ∈ news₁) → (∀ Q' : Flow → Shared → Prop, (∀ h' tk', Fr h₀ L h' m₁ → News h₀ L h' news₁ → Q' (.ret (.bool true)) { s with heap := h', toks := tk' }) → wpAny (model PySem.Challenge.rw_am6027_01.row.prog w) A (exec S env) Q' E { s with heap := h, toks := tk }) → Q .next { s with heap := h, toks := tk }) :
    wpAny (model PySem.Challenge.rw_am6027_01.row.prog w) A (pyIter (.ref l)) (fun it s₂ => LoopAtV PySem.Challenge.rw_am6027_01.row.prog w A h₀ env "v" LB Q E it s₂) E s := by
  subst ee
  subst eA
  subst ecs
  refine lawLoop eL XB TB CB B hdp hun F N hi hz hj fun m₁ news₁ h tk hI F' N' => done m₁ news₁ h tk F' N' (by obtain ⟨v, u, _, _, _, _, _, G, _⟩ := hI; exact ⟨u.ps, G.D.mP⟩) fun Q' hr => ?_
  obtain ⟨v, u, ld, mk, st, n, K, G, Y, hc, hr', hn⟩ := hI
  subst hc
  exact lastRet eS XB TB CB B (fun b hb => nomatch hb) KtsTurn.refl F' N' hdp hun (by omega) G K.L K.M K.S K.A K.T fun h' tk' F2 N2 => hr h' tk' F2 N2

theorem lawGood {cl : Str → Option Addr} {mean : ExcName → Option Value} {xs : List Int} {s₁ s' : Shared} {L : Addr} {m : Str → Option Value} (F : Fr s₁.heap L s'.heap m) (hg : s'.gens = #[]) (hos : s'.os = s₁.os) :
    GoodW PySem.Challenge.rw_am6027_01.row.claim cl mean [ofPy (PyData.list (List.map PyData.int xs))] s₁ (.ok (.ret (.bool true))) s' := by
  refine goodW_bool F hg (raisesW_false ?_) ?_ hos
  · wrow_none_raised
  · wrow_post
end Mine
end
section
open PySem PySem.W PyProof.Rows
set_option Elab.async false
set_option maxRecDepth 100000
namespace Mine
section

local macro_rules | `(tactic| walk_at "ite") => `(tactic| first | with_reducible refine ite_pos (by decide) ?_ | with_reducible refine ite_neg (by decide) ?_)
local macro_rules | `(tactic| walk_at "setAttr ref") => `(tactic| (k_here; with_reducible (show wpAny _ _ (setAttr (Value.ref _) (PySem.Str.ofString "_p_oid") _) _ _ _); k_dflt (refine' set_prop ?k1 ?k2 ?k3 ?k4 ?k5 ?k6 ?k7 ?k8 ?_; (case k1 => k_asm); (case k2 => k_asm); (case k3 => k_inst); (case k4 => k_is); (case k5 => k_is); (case k6 => k_is); (case k7 => k_is); (case k8 => k_is); k_whole); k_dflt (refine' set_oid_c (ks := ⟨_, _, _, _, _, _, _, _, _, _, _, _⟩) ?X ?B ?F ?N ?T ?hk ?mx ?md ?U ?dp ?un ?_; (case X => k_asm); (case B => k_asm); (case F => k_asm); (case N => k_asm); (case T => k_asm); (case hk => exact rfl); (case mx => k_mem); (case md => k_mem); (case U => k_upd); (case dp => ktr_room); (case un => ktr_room); k_whole); intro h' tk' F' N'; (try dsimp only); (try k_sweep)))
local macro_rules | `(tactic| walk_at "setAttr ref") => `(tactic| (k_here; with_reducible (show wpAny _ _ (setAttr (Value.ref _) (PySem.Str.ofString "_p_jar") _) _ _ _); k_dflt (refine' set_prop ?k1 ?k2 ?k3 ?k4 ?k5 ?k6 ?k7 ?k8 ?_; (case k1 => k_asm); (case k2 => k_asm); (case k3 => k_inst); (case k4 => k_is); (case k5 => k_is); (case k6 => k_is); (case k7 => k_is); (case k8 => k_is); k_whole); k_dflt (refine' set_jar_c (ks := ⟨_, _, _, _, _, _, _, _, _, _, _, _⟩) ?X ?B ?F ?N ?T ?hk ?mx ?my ?mj ?md ?U ?U2 ?dp ?un ?_; (case X => k_asm); (case B => k_asm); (case F => k_asm); (case N => k_asm); (case T => k_asm); (case hk => exact rfl); (case mx => k_mem); (case md => k_mem); (case U => k_upd); (case my => k_mem); (case mj => k_mem); (case U2 => intro _; k_upd); (case dp => ktr_room); (case un => ktr_room); k_whole); intro h' tk' t' F' N'; (try dsimp only); (try k_sweep)))
local macro_rules | `(tactic| walk_at "exec For") => `(tactic| (k_here; (rename Fr _ _ _ _ => lF'); (with_unfolding_all refine' For_invVF lF' ?k1 ?k2 ?_; (case k1 => exact rfl); (case k2 => exact rfl); k_whole)))
local macro_rules | `(tactic| walk_at "pyIter ref") => `(tactic| (k_here; k_dflt (refine' lawLoop' ?eL ?ecs ?eA ?ee ?eS ?XB ?TB ?CB ?B ?hdp ?hun ?F ?N ?hi ?hz ?hj ?done; (case eA => exact rfl); (case ee => exact rfl); (case ecs => kernel_rfl); (case eL => kernel_rfl); (case XB => k_asm); (case TB => k_asm); (case CB => assumption); (case B => k_asm); (case F => k_asm); (case N => k_asm); (case hj => (refine' startInv ?hd ?hcf ?hcj ?hco ?hck ?hcw ?hor ?hvr ?hos ?hvs ?nL ?nM ?nS ?nA ?nT ?hcl; (case hcf => assumption); (case hcj => assumption); (case hco => assumption); (case hck => assumption); (case hcw => assumption); (case hor => assumption); (case hvr => assumption); (case hos => assumption); (case hvs => assumption); (case nL => ((repeat refine (if_neg (by decide)).trans ?_); exact if_pos rfl)); (case nM => ((repeat refine (if_neg (by decide)).trans ?_); exact if_pos rfl)); (case nS => ((repeat refine (if_neg (by decide)).trans ?_); exact if_pos rfl)); (case nA => ((repeat refine (if_neg (by decide)).trans ?_); exact if_pos rfl)); (case nT => ((repeat refine (if_neg (by decide)).trans ?_); exact if_pos rfl)); (case hcl => first | kernel_rfl | with_unfolding_all rfl | (simp [cellsFrom]; done)); (case hd => (simp only [Down, and_true]; omega)))); (case hi => assumption); (case hz => (simp only [List.length_append, List.length_take, List.length_cons, List.length_nil]; omega)); (case hdp => ktr_room); (case hun => ktr_room)); (case' done => (intro m' news' h' tk' F' N' hM hR; (try dsimp only); refine wpAny_execs_cons ?_; refine hR _ ?_)); (case eS => kernel_rfl); intro h' tk' F' N'; (try dsimp only); obtain ⟨ps', hM'⟩ := hM; exact ⟨lawGood F' (by assumption) rfl, GrownAt.of N' hM', True.intro⟩))

set_option maxHeartbeats 8000000 in
theorem lawHolds : PySem.Challenge.rw_am6027_01.Holds := Mine.hd (by
  w_top off
  w_strict (k_go0; (all_goals try k_fold); k_steps))
end
end Mine
end
set_option Elab.async false
theorem PySem.Challenge.cw_am6027_01_holds : PySem.Challenge.rw_am6027_01.Holds :=
  Mine.lawHolds
