import PyProof.Rows.All
import Wide.All
import OpenK.AllK
import Wide.FinOn
import PySem.Challenge.RW_pd0139_01
open PySem PySem.W PyProof.Rows PySem.Calls
set_option Elab.async false
set_option maxRecDepth 100000
set_option maxHeartbeats 8000000
namespace Mine
-- HeadA
section
open PySem.Spec
/-- the library's head with its first premise written out: o_head finds it under this name in this namespace, and so has the top checked at once, not in pieces (3.5 MB compiled, not 21.8) -/
theorem PySem.W.holds_open {r : OpenRow} {q : Program} {loose : List Str} {Xt : Shared → Bool} {XP : (Str → Option Value) → Heap → Prop} {α : Type} {Yf : Shared → α} {Ya : World → α} {YP : World → Heap → Prop} {d : DefRec} {kwd : List (Str × Expr)} {N : Nat}
    (left : ∀ w : World, (openEnds treeTable r.prog w N).map (fun s => (openSeen q loose (importedModules r.prog.main.body) Xt true s, Yf s)) = some (openGood q loose, Ya w)) (hY : ∀ w s, Yf s = Ya w → YP w s.heap) (hYk : ∀ w h h', YP w h → (∀ b o, h.get? b = some o → h'.get? b = some o) → YP w h')
    (hX : ∀ s, Xt s = true → XP (s.heap.nsMap mainGlobals) s.heap) (hXk : ∀ mg h h', XP mg h → (∀ b o, h.get? b = some o → h'.get? b = some o) → XP mg h')
    (hdef : defOf q r.name = some (d, kwd)) (hp : r.prog.theDef r.name = some (d.params, d.body, d.scope)) (hk : kwWritten? d.params.kwonlyargs d.params.kw_defaults = some kwd) (hRf : ∀ s, Xt s = true → RecFacts r.records s.heap) (hwr : (!r.writes || r.records.isEmpty) = true)
    (k1 : r.wellSaid = true) (ok : (chainsOk q && opensWell r.prog && (frees r.toRowW && r.within.isEmpty)) = true) (hb : r.prog.bare) (hw : r.toRowW.promised)
    (call : WalkO q loose XP YP r.toRowW d kwd fun f vs => _root_.PySem.call f vs) : r.Holds :=
  _root_.PySem.W.holds_open left hY hYk hX hXk hdef hp hk hRf hwr k1 ok hb hw call
open_top hd for PySem.Challenge.rw_pd0139_01
end
local macro_rules | `(tactic| walk_at $s:str) => `(tactic| k_extra $s)
local macro_rules | `(tactic| k_room) => `(tactic| ktr_room)
local macro_rules | `(tactic| k_ne) => `(tactic| k_extra "k_ne")
-- B0
section
theorem reg_none_B0 : True := by
  w_top off
  k_with_none
  trivial
theorem kind_isn : builtinKind "issubclass.nested" = none := by decide +kernel
theorem plain_isn : plainId "issubclass.nested" = true := by decide +kernel
theorem args_isn (a b c : Value) : argsOk "issubclass.nested" ⟨[a, b, c], []⟩ := by unfold argsOk; kernel_rfl
theorem meta_str : typeOf (.type "str") = pure (.type "type") := by first | rfl | kernel_rfl | decide +kernel
theorem sub_str_str : isSubtype (.type "str") (.type "str") = pure true := by rw [isSubtype_type]; kernel_rfl
section
variable {prog : Program} {w : World} {A : Around} {E : Value → Shared → Prop} {s : Shared}
theorem isn_str {k : Value} {dep : Int} {tk : Tok} {Q : Fin → Shared → Prop} (hk : k = .int dep tk) (hq : Q (.done (.ret (.bool true))) s) :
    wpAny (model prog w) A (Builtin.«issubclass.nested» ⟨[.type "str", .type "str", k], []⟩) Q E s := by
  subst hk
  have hm := meta_str
  have hself := sub_str_str
  repeat (any_goals (first | assumption | (rw [if_pos hm]) | (rw [hself]) | wp_step))

theorem isn_tuple {tp : Addr} {o : Obj} {r : List Value} {tk : Tok} {Q : Fin → Shared → Prop} (htp : s.heap.get? tp = some o) (hc : o.cls = .type "tuple") (hd : o.data = .seq (Value.type "str" :: r).toArray 0)
    (hq : ∀ tk', Q (.done (.ret (.bool true))) { s with toks := tk' }) :
    wpAny (model prog w) A (Builtin.«issubclass.nested» ⟨[.type "str", .ref tp, .int 0 tk], []⟩) Q E s := by
  obtain ⟨h, g, d, t, os⟩ := s
  have hT2 : (⟨h, g, d, t, os⟩ : Shared).TypeIs (.ref tp) "tuple" := ⟨_, htp, hc⟩
  have f1 := F.isi_sub_tuple
  repeat (any_goals (first | assumption | wp_step))
  rw [hd]
  refine wpAny_pure ?_
  refine wpAny_bind ?_
  refine wpAny_arrayLoop ?_
  simp only [Option.getD_some, List.toList_toArray]
  rw [List.forIn_cons]
  refine wpAny_bind (wpAny_bind (call_function_meets (S := fun _ R s => ∀ tk', R (.ok (.ret (.bool true))) { s with toks := tk' }) kind_isn plain_isn F.entry_issubclass_nested (args_isn _ _ _) (fun _ _ _ _ s hs => isn_str rfl (hs s.toks)) fun tk' => ?_))
  show wpAny _ _ (truthy (.bool true) >>= _) _ _ _
  refine wpAny_bind (m := truthy (.bool true)) (wpAny_pure ?_)
  exact wpAny_bind (wpAny_pure (wpAny_pure (wpAny_pure (wpAny_pure (hq tk')))))
theorem issub_tuple {tp : Addr} {o : Obj} {r : List Value} {Q : Value → Shared → Prop} (htp : s.heap.get? tp = some o) (hc : o.cls = .type "tuple") (hd : o.data = .seq (Value.type "str" :: r).toArray 0)
    (hq : ∀ tk', Q (.bool true) { s with toks := tk' }) : wpAny (model prog w) A (call (.builtin "issubclass") [.type "str", .ref tp]) Q E s :=
  call_issubclass (S := fun _ R s => s.heap.get? tp = some o ∧ ∀ tk', R (.ok (.ret (.bool true))) { s with toks := tk' }) (fun _ _ _ _ _ hs => issubclass_outer (isn_tuple hs.1 hc hd hs.2)) ⟨htp, hq⟩
end
end
-- B1
section
theorem reg_none_B1 : True := by
  w_top off
  k_with_none
  trivial
theorem drop_hd {h₀ h : Heap} {L : Addr} {p : Addr × Obj} {news : List (Addr × Obj)} (N : News h₀ L h (p :: news)) : News h₀ L h news := fun q hq => N q (.tail _ hq)
theorem keep_fr {h₀ h h' : Heap} {L : Addr} {m : Str → Option Value} (F : Fr h₀ L h m) (k : ∀ b o, h.get? b = some o → h'.get? b = some o) : Fr h₀ L h' m :=
  ⟨F.ns.keeps k, fun b o e => k b o (F.keep b o e), F.above⟩
theorem keep_news {h₀ h h' : Heap} {L : Addr} {news : List (Addr × Obj)} (N : News h₀ L h news) (k : ∀ b o, h.get? b = some o → h'.get? b = some o) : News h₀ L h' news :=
  fun p hp => ⟨k _ _ (N p hp).1, (N p hp).2⟩
/-- all but the named places is as it was -/
noncomputable def But (as : List Addr) (h h' : Heap) : Prop := ∀ b o, b ∉ as → h.get? b = some o → h'.get? b = some o
section
variable {prog : Program} {w : World} {A A₀ : Around} {E : Value → Shared → Prop} {s : Shared} {K : Frag} {L : Addr} {h₀ base : Heap} {m mg mb : Str → Option Value} {news : List (Addr × Obj)} {p : Program} {loose : List Str} {mean : ExcName → Option Value}
theorem enterM {env : Env} {outer : List Env} {R : Result → Shared → Prop} {name qual : Str} {params : Arguments} {body : List Stmt} {scope : Scope} {dV kV doc pm cdv ct oc : Value} {an od : Option Addr} {osl : Array (Option Value)} {f : Addr} {args : Args} {binds : List (Str × Value)}
    (B : Below A₀ base outer h₀) (F : Fr h₀ L s.heap m) (X₀ : K.In h₀) (N : News h₀ L s.heap news) (T : Top p loose mean mg mb h₀) (hA : A.frames = some (env :: outer)) (hf : env.frame = some L) (hke : env.scope.kind = .function)
    (ho : K.lookup f = some ⟨oc, od, .func (fnOf name qual params body scope dV kV doc pm an cdv ct), osl⟩) (hcd : codeIn K cdv qual = true) (hroom : A.depth < recursionLimit)
    (hbind : BindsTo s (fnOf name qual params body scope dV kV doc pm an cdv ct) args binds) (hloc : ∀ y ∈ binds, scope.names.lookup y.1 = some .local)
    (h : ∀ g L' h₁, (∀ b o, b ∉ news.map (·.1) → s.heap.get? b = some o → g.get? b = some o) → Fr h₀ L g m → Fr g L' h₁ (fun y => binds.reverse.lookup y) → News g L' h₁ news → Below A base (env :: outer) g → K.In g → Top p loose mean mg mb g →
      wpAny (model prog w) (A.deeper (envOf qual scope L' f cdv)) (execs body (envOf qual scope L' f cdv))
        (fun fl s' => LeaveK h₀ L m g R (match fl with | .ret v => v | _ => .none) s')
        (fun e s' => wpAny (model prog w) (A.deeper (envOf qual scope L' f cdv)) (leaving (envOf qual scope L' f cdv) e) (fun _ s'' => R (.error e) s'') (fun e' s'' => R (.error e') s'') s')
        { s with heap := h₁, toks := s.toks + binds.length })
    (hco : scope.isCoroutine = false) (hgen : scope.isGenerator = false) (hk : scope.kind = .function)
    (hcell : ∀ x ∈ scope.names, x.2 ≠ .cell) : codeAny (model prog w) A (.call (.ref f) args) R s := by
  obtain ⟨FG, BG, st, lv⟩ := groundX (R := R) B F N hA hf hke
  refine codeAny_call_def (fd := fnOf name qual params body scope dV kV doc pm an cdv ct) (body := body) (binds := binds) hroom ((X₀.keeps F.keep) _ _ ho) rfl (T.nolimit.keeps F.keep) (codeRec_of (X₀.keeps F.keep) hcd) rfl hbind hcell hloc (fun h₁ hns hk₁ => ?_) hco hgen hk
  exact wpAny_mono (h _ s.heap.objs.size h₁ (fun b o hb e => hideAll_get _ e hb) FG ⟨hns, fun b o e => hk₁ b o (of_hideAll _ e), Nat.le_of_eq (hideAll_size _ _)⟩
    (fun p hp => ⟨hk₁ _ _ (N p hp).1, Nat.ne_of_lt (Heap.lt_size (N p hp).1), hideAll_none _ (List.mem_map_of_mem hp)⟩) BG (X₀.keeps st) (T.keeps st)) (fun fl s' hl => lv _ _ hl) fun _ _ y => y

theorem enterMC {env : Env} {outer : List Env} {R : Result → Shared → Prop} {name qual : Str} {params : Arguments} {body : List Stmt} {scope : Scope} {dV kV doc pm cdv ct oc : Value} {an od : Option Addr} {osl : Array (Option Value)} {f : Addr} {args : Args} {binds : List (Str × Value)}
    (B : Below A₀ base outer h₀) (F : Fr h₀ L s.heap m) (X₀ : K.In h₀) (N : News h₀ L s.heap news) (T : Top p loose mean mg mb h₀) (hA : A.frames = some (env :: outer)) (hf : env.frame = some L) (hke : env.scope.kind = .function)
    (ho : K.lookup f = some ⟨oc, od, .func (fnOf name qual params body scope dV kV doc pm an cdv ct), osl⟩) (hcd : codeIn K cdv qual = true) (hroom : A.depth < recursionLimit)
    (hbind : BindsTo s (fnOf name qual params body scope dV kV doc pm an cdv ct) args binds) (hkind : (binds.all fun y => scope.names.lookup y.1 == some .local || scope.names.lookup y.1 == some .cell) = true)
    (hnd : ((cellsFrom 0 scope.names []).map (·.1)).Nodup)
    (h : ∀ g L' h₁ tk cells, (∀ b o, b ∉ news.map (·.1) → s.heap.get? b = some o → g.get? b = some o) → Fr h₀ L g m → Fr g L' h₁ (bindL (envOfC qual scope L' f cdv).kindOf binds fun _ => none) → News g L' h₁ (cells ++ news) →
      CellsAre (bindC (envOfC qual scope L' f cdv).kindOf binds fun _ => none) (cellsFrom (L' + 1) scope.names []) cells → Below A base (env :: outer) g → K.In g → Top p loose mean mg mb g → (∀ p ∈ news, p.1 < L') →
      wpAny (model prog w) (A.deeper (envOfC qual scope L' f cdv)) (execs body (envOfC qual scope L' f cdv))
        (fun fl s' => LeaveK h₀ L m g R (match fl with | .ret v => v | _ => .none) s')
        (fun e s' => wpAny (model prog w) (A.deeper (envOfC qual scope L' f cdv)) (leaving (envOfC qual scope L' f cdv) e) (fun _ s'' => R (.error e) s'') (fun e' s'' => R (.error e') s'') s')
        { s with heap := h₁, toks := tk })
    (hco : scope.isCoroutine = false) (hgen : scope.isGenerator = false) (hk : scope.kind = .function) : codeAny (model prog w) A (.call (.ref f) args) R s := by
  obtain ⟨FG, BG, st, lv⟩ := groundX (R := R) B F N hA hf hke
  refine codeAny_call_function (fd := fnOf name qual params body scope dV kV doc pm an cdv ct) (body := body) hroom ((X₀.keeps F.keep) _ _ ho) rfl hco hgen rfl (codeRec_of (X₀.keeps F.keep) hcd) (hbind _ _ _ _ ?_)
  refine wpAny_newFunctionEnv_cells hk (kindsX hkind _) fun env' he s' x => ?_
  subst he
  refine ⟨(T.nolimit.keeps F.keep).keeps x.toInCall.keep, codeAny_func ?_⟩
  obtain ⟨h₁, tk, rfl, _⟩ := x.done
  have hk₁ := x.toInCall.keep
  obtain ⟨cells, NC, Y⟩ := Cl.news (h₀ := s.heap) (Nat.le_refl _) fun n c hm => ⟨x.cell n c (lookup_of_mem_nodup (cellsFrom_names scope.names 0 (s.heap.objs.size + 1) [] [] rfl ▸ hnd) hm), x.above n c hm⟩
  refine wpAny_mono (h _ s.heap.objs.size h₁ tk cells (fun b o hb e => hideAll_get _ e hb) FG ⟨x.toInCall.ns, fun b o e => hk₁ b o (of_hideAll _ e), Nat.le_of_eq (hideAll_size _ _)⟩ (fun p hp => ?_) Y BG (X₀.keeps st) (T.keeps st) (fun p hp => Heap.lt_size (N p hp).1)) (fun fl s' hl => lv _ _ hl) fun _ _ y => y
  rcases List.mem_append.mp hp with hp | hp
  · refine ⟨(NC p hp).1, (NC p hp).2.1, ?_⟩
    cases q : (hideAll s.heap (news.map (·.1))).get? p.1 with
    | none => rfl
    | some o => have := of_hideAll _ q; rw [(NC p hp).2.2] at this; cases this
  · exact ⟨hk₁ _ _ (N p hp).1, Nat.ne_of_lt (Heap.lt_size (N p hp).1), hideAll_none _ (List.mem_map_of_mem hp)⟩
end
end
-- B2
section
theorem reg_none_B2 : True := by
  w_top off
  k_with_none
  trivial
theorem peekM {α : Type} {K : Frag} {M : Model} {A : Around} {E : Value → Shared → Prop} {Q : α → Shared → Prop} {s : Shared} {o : Obj} {r : Addr → α}
    (X : K.In s.heap) (q : Q (r s.heap.objs.size) { s with heap := s.heap.push o }) (t : Sem α) :
    ∀ (g : Addr → Option α), peek1 K ⟨M.prog, M.w.params⟩ t = some (o, g) → (∀ D, g D = some (r D)) → wpAny M A t Q E s := by
  induction t with
  | rule _ k ih => exact fun g e hg Γ p hΓ => ih () g e hg Γ p hΓ
  | point _ k ih => exact fun g e hg Γ p hΓ => ih () g e hg Γ p hΓ
  | ask k ih => exact fun g e hg Γ p hΓ => ih _ g e hg Γ p hΓ
  | load a _ k ih =>
    intro g e hg Γ p hΓ
    simp only [peek1] at e
    split at e
    · rename_i ob ho; exact ⟨ob, X _ _ ho, ih ob g e hg Γ p hΓ⟩
    · cases e
  | alloc ob k _ =>
    intro g e hg
    obtain ⟨e1, e2⟩ := Prod.mk.inj (Option.some.inj e)
    subst e1
    subst e2
    show wpAny M A (alloc ob >>= k) Q E s
    refine wpAny_bind (wpAny_alloc ?_)
    exact (Looks.of_peek (M := M) (h := s.heap.push ob) (X.keeps fun b x hb => Heap.get?_push_of_some _ hb) (hg s.heap.objs.size)).here (s := { s with heap := s.heap.push ob }) q
  | _ => intro g e; cases e
section
variable {prog : Program} {w : World} {A A₀ : Around} {E : Value → Shared → Prop} {s : Shared} {K : Frag} {L : Addr} {h₀ base : Heap} {m mg mb : Str → Option Value} {p : Program} {loose : List Str} {mean : ExcName → Option Value}
/-- a def with *rest, its tuple new; nothing that stood may turn -/
theorem enterMR {env : Env} {outer : List Env} {R : Result → Shared → Prop} {name qual : Str} {params : Arguments} {body : List Stmt} {scope : Scope} {dV kV doc pm cdv ct oc : Value} {an od : Option Addr} {osl : Array (Option Value)} {f : Addr} {args : Args} {vs : List Value} {g₁ : Addr → Option (List (Str × Value))} {binds : Addr → List (Str × Value)}
    (B : Below A₀ base outer h₀) (F : Fr h₀ L s.heap m) (X₀ : K.In h₀) (T : Top p loose mean mg mb h₀) (hA : A.frames = some (env :: outer)) (hf : env.frame = some L) (hke : env.scope.kind = .function)
    (ho : K.lookup f = some ⟨oc, od, .func (fnOf name qual params body scope dV kV doc pm an cdv ct), osl⟩) (hcd : codeIn K cdv qual = true) (hroom : A.depth < recursionLimit)
    (hv : args.pos.drop (params.posonlyargs.length + params.args.length) = vs)
    (hp : peek1 K ⟨prog, w.params⟩ (bindArgs (fnOf name qual params body scope dV kV doc pm an cdv ct) args) = some (({ cls := .type "tuple", data := .seq vs.toArray } : Obj), g₁))
    (hg : ∀ D, g₁ D = some (binds D)) (hloc : ∀ D, ∀ y ∈ binds D, scope.names.lookup y.1 = some .local)
    (h : ∀ D g L' h₁, (∀ b o, s.heap.get? b = some o → g.get? b = some o) → Fr h₀ L g m → Fr g L' h₁ (fun y => (binds D).reverse.lookup y) → News g L' h₁ [(D, ({ cls := .type "tuple", data := .seq vs.toArray } : Obj))] → Below A base (env :: outer) g → K.In g → Top p loose mean mg mb g →
      wpAny (model prog w) (A.deeper (envOf qual scope L' f cdv)) (execs body (envOf qual scope L' f cdv))
        (fun fl s' => LeaveK h₀ L m g R (match fl with | .ret v => v | _ => .none) s')
        (fun e s' => wpAny (model prog w) (A.deeper (envOf qual scope L' f cdv)) (leaving (envOf qual scope L' f cdv) e) (fun _ s'' => R (.error e) s'') (fun e' s'' => R (.error e') s'') s')
        { s with heap := h₁, toks := s.toks + (binds D).length })
    (hco : scope.isCoroutine = false) (hgen : scope.isGenerator = false) (hk : scope.kind = .function)
    (hcell : ∀ x ∈ scope.names, x.2 ≠ .cell) : codeAny (model prog w) A (.call (.ref f) args) R s := by
  have _ := hv
  refine codeAny_call_function (fd := fnOf name qual params body scope dV kV doc pm an cdv ct) (body := body) hroom ((X₀.keeps F.keep) _ _ ho) rfl hco hgen rfl (codeRec_of (X₀.keeps F.keep) hcd) ?_
  refine peekM (o := ({ cls := .type "tuple", data := .seq vs.toArray } : Obj)) (X₀.keeps F.keep) (r := binds) ?_ _ g₁ hp hg
  have N' : News h₀ L (s.heap.push ({ cls := .type "tuple", data := .seq vs.toArray } : Obj)) [(s.heap.objs.size, _)] := News.push F News.nil _ rfl
  have F' := F.push ({ cls := .type "tuple", data := .seq vs.toArray } : Obj)
  obtain ⟨FG, BG, st, lv⟩ := groundX (R := R) (s := { s with heap := s.heap.push ({ cls := .type "tuple", data := .seq vs.toArray } : Obj) }) B F' N' hA hf hke
  refine wpAny_newFunctionEnv hcell (hloc _) (fun h₁ hns hsb => ⟨(T.nolimit.keeps F'.keep).fresh _ hsb, codeAny_func ?_⟩) hk
  have hk₁ : ∀ b o, (s.heap.push ({ cls := .type "tuple", data := .seq vs.toArray } : Obj)).get? b = some o → h₁.get? b = some o := fun b o e => hsb.extBut b o (Nat.ne_of_lt (Heap.lt_size e)) (Heap.get?_push_of_some _ e)
  refine wpAny_mono (h s.heap.objs.size _ _ h₁ (fun b o e => hideAll_get _ (Heap.get?_push_of_some _ e) ?_) FG ⟨hns, fun b o e => hk₁ b o (of_hideAll _ e), Nat.le_of_eq (hideAll_size _ _)⟩
    (fun p hp => ⟨hk₁ _ _ (N' p hp).1, Nat.ne_of_lt (Heap.lt_size (N' p hp).1), hideAll_none _ (List.mem_map_of_mem hp)⟩) BG (X₀.keeps st) (T.keeps st)) (fun fl s' hl => lv _ _ hl) fun _ _ y => y
  intro hb
  have e2 : b = s.heap.objs.size := by simpa using hb
  exact absurd (Heap.lt_size e) (e2 ▸ Nat.lt_irrefl _)
end
end
-- C1
section
theorem reg_none_C1 : True := by
  w_top off
  k_with_none
  trivial
theorem reg_hdr_C1_1 : True := by
  k_with_none
  k_with "mine enter" => (refine wpAny_call ?_; k_dflt (refine' enterM ?k1 ?k2 ?k3 ?k4 ?k5 ?kA ?kF ?kK ?k6 ?k7 ?k8 ?k9 ?kB ?_ ?c2 ?c3 ?c4 ?c5; (case kA => exact rfl); (case kF => exact rfl); (case kK => exact rfl); (case k1 => k_asm); (case k2 => k_asm); (case k3 => k_asm); (case k4 => first | k_asm | exact News.nil); (case k5 => k_asm); (case k6 => k_is); (case k7 => k_is); (case k8 => ktr_room); (case k9 => exact BindsTo.of_eq rfl); (case c5 => decide); (case kB => exact locs rfl); (case c2 => exact rfl); (case c3 => exact rfl); (case c4 => exact rfl); k_whole); intro g' L' h' G' FG' F' N' B' X' T'; (try dsimp only); (try k_fold))
  k_with "mine back" => (intro h' tk' K'; (have F' := keep_fr (by k_asm) K'); (have N' := keep_news (by k_asm) K'); clear K'; (try dsimp only); (try k_sweep))
  k_with "mine args" => ((case k1 => k_asm); (case k2 => k_asm); (case k3 => k_asm); (case k4 => k_asm); (case kd => ktr_room); (case ku => ktr_units))
  k_with "mine enterC" => (refine wpAny_call ?_; k_dflt (refine' enterMC ?k1 ?k2 ?k3 ?k4 ?k5 ?kA ?kF ?kK ?k6 ?k7 ?k8 ?k9 ?kB ?kD ?_ ?c2 ?c3 ?c4; (case kA => exact rfl); (case kF => exact rfl); (case kK => exact rfl); (case k1 => k_asm); (case k2 => k_asm); (case k3 => k_asm); (case k4 => first | k_asm | exact News.nil); (case k5 => k_asm); (case k6 => k_is); (case k7 => k_is); (case k8 => ktr_room); (case k9 => exact BindsTo.of_eq rfl); (case kB => exact rfl); (case kD => decide +kernel); (case c2 => exact rfl); (case c3 => exact rfl); (case c4 => exact rfl); k_whole); intro g' L' h' tk' cells' G' FG' F' N' Y' B' X' T' l1; (try k_lt l1); k_cells Y'; (try simp only [List.cons_append, List.nil_append] at N'); (try dsimp only); (try k_fold))
  k_with "mine steps" => repeat' (first | (k_unfold; (try dsimp only)) | walk1 | (dsimp only; walk1) | (leave1; (try dsimp only)))
  trivial
theorem reg_hdr_C1_2 : True := by
  k_with "k_ne" => (refine neN ?_; (try dsimp only); first | with_reducible assumption | exact Ne.symm (by with_reducible assumption))
  k_with "FinE" => ((unfold LCg.FinE); intro D' h' tk' F' N' o1'; (try dsimp only [LCg.Off1] at o1'); (repeat (have h9' := o1'.1; replace o1' := o1'.2)); (try clear o1'); (try simp only [List.nil_append, List.cons_append] at N'); (try dsimp only))
  k_with "FinA" => ((unfold LCg.FinA); intro D' h' tk' F' N' o1'; (try dsimp only [LCg.Off1] at o1'); (repeat (have h9' := o1'.1; replace o1' := o1'.2)); (try clear o1'); (try simp only [List.nil_append, List.cons_append] at N'); (try dsimp only))
  k_with "CompRest" => (with_unfolding_all first | (refine LCg.CompRest.succ ?_; intro v' I' oI' C' oC' D' m' h' tk' E' hv' hC' hx' F' N' off' ne'; (first | lcg_open hv' | (obtain ⟨t9', hv9'⟩ := hv'; subst hv9')); (try dsimp only [LCg.Off3] at off'); (have h9' := ne'.1; have h9' := ne'.2.1; have h9' := ne'.2.2; clear ne'); (repeat (have h9' := off'.1.1; have h9' := off'.1.2.1; have h9' := off'.1.2.2; replace off' := off'.2)); (try clear off')) | refine LCg.CompRest.zero ?_)
  trivial

theorem kept0 {g h₁ h' : Heap} {L' : Addr} {m' : Str → Option Value} (G : ∀ b o, b ∉ ([] : List (Addr × Obj)).map (·.1) → h₁.get? b = some o → g.get? b = some o) (F : Fr g L' h' m') : ∀ b o, h₁.get? b = some o → h'.get? b = some o :=
  fun b o e => F.keep b o (G b o (by simp) e)
theorem reg_c1_1 : True := by
  k_with "call builtin:issubclass" => (k_here; k_dflt (refine' issub_tuple ?k1 ?k2 ?k3 ?_; (case k1 => exact News.get (by k_asm) (by k_mem)); (case k2 => exact rfl); (case k3 => exact rfl); k_whole); intro tk')
  trivial
section
variable {w : World} {mean : ExcName → Option Value} {mg mb : Str → Option Value}
 {dp un : Nat} {gd : Option (List Code)} {cn : Str} {sn : List (Str × NameKind)} {sg sc : Bool} {sm : List (Str × Const)} {a : Addr} {ccd : Value} {cl : List (Str × Addr)} {outer : List Env} {A₀ : Around} {base h₀ : Heap} {L : Addr} {m : Str → Option Value} {s : Shared}
    {Q E : Value → Shared → Prop} (B : Below A₀ base outer h₀) (F : Fr h₀ L s.heap m) (X : (Mine.hd.heap_39 w.params).In h₀) (T : Top Mine.hd.view_39 (looseW Mine.hd.view_39 []) mean mg mb h₀)
include B F X T

theorem fspath_c {x : Str} {tk : Tok}
    (hd : dp + 1 < recursionLimit) (hu : un + 8 < cLine) (hret : ∀ h' tk', (∀ b o, s.heap.get? b = some o → h'.get? b = some o) → Q (.str x tk) {s with heap := h', toks := tk'}) :
    wpAny (model Challenge.rw_pd0139_01.row.prog w) (ktrTop dp un gd cn ⟨.function, sn, sg, sc, sm⟩ L a ccd cl outer) (call (.ref 122) [.str x tk]) Q E s := by
  revert X; k_fill; intro X
  walk_at "mine enter"
  k_steps
  exact hret _ _ (kept0 (by assumption) (by assumption))
theorem getsep_c {x : Str} {tk : Tok}
    (hd : dp + 1 < recursionLimit) (hu : un + 8 < cLine) (hret : ∀ t h' tk', (∀ b o, s.heap.get? b = some o → h'.get? b = some o) → Q (.str (Str.ofString "/") t) {s with heap := h', toks := tk'}) :
    wpAny (model Challenge.rw_pd0139_01.row.prog w) (ktrTop dp un gd cn ⟨.function, sn, sg, sc, sm⟩ L a ccd cl outer) (call (.ref 136) [.str x tk]) Q E s := by
  revert X; k_fill; intro X
  walk_at "mine enter"
  k_steps
  exact hret _ _ _ (kept0 (by assumption) (by assumption))
end
end
-- C2
section
theorem reg_none_C2 : True := by
  w_top off
  k_with_none
  trivial
theorem reg_hdr_C2_1 : True := by
  k_with_none
  k_with "mine enter" => (refine wpAny_call ?_; k_dflt (refine' enterM ?k1 ?k2 ?k3 ?k4 ?k5 ?kA ?kF ?kK ?k6 ?k7 ?k8 ?k9 ?kB ?_ ?c2 ?c3 ?c4 ?c5; (case kA => exact rfl); (case kF => exact rfl); (case kK => exact rfl); (case k1 => k_asm); (case k2 => k_asm); (case k3 => k_asm); (case k4 => first | k_asm | exact News.nil); (case k5 => k_asm); (case k6 => k_is); (case k7 => k_is); (case k8 => ktr_room); (case k9 => exact BindsTo.of_eq rfl); (case c5 => decide); (case kB => exact locs rfl); (case c2 => exact rfl); (case c3 => exact rfl); (case c4 => exact rfl); k_whole); intro g' L' h' G' FG' F' N' B' X' T'; (try dsimp only); (try k_fold))
  k_with "mine back" => (intro h' tk' K'; (have F' := keep_fr (by k_asm) K'); (have N' := keep_news (by k_asm) K'); clear K'; (try dsimp only); (try k_sweep))
  k_with "mine args" => ((case k1 => k_asm); (case k2 => k_asm); (case k3 => k_asm); (case k4 => k_asm); (case kd => ktr_room); (case ku => ktr_units))
  k_with "mine enterC" => (refine wpAny_call ?_; k_dflt (refine' enterMC ?k1 ?k2 ?k3 ?k4 ?k5 ?kA ?kF ?kK ?k6 ?k7 ?k8 ?k9 ?kB ?kD ?_ ?c2 ?c3 ?c4; (case kA => exact rfl); (case kF => exact rfl); (case kK => exact rfl); (case k1 => k_asm); (case k2 => k_asm); (case k3 => k_asm); (case k4 => first | k_asm | exact News.nil); (case k5 => k_asm); (case k6 => k_is); (case k7 => k_is); (case k8 => ktr_room); (case k9 => exact BindsTo.of_eq rfl); (case kB => exact rfl); (case kD => decide +kernel); (case c2 => exact rfl); (case c3 => exact rfl); (case c4 => exact rfl); k_whole); intro g' L' h' tk' cells' G' FG' F' N' Y' B' X' T' l1; (try k_lt l1); k_cells Y'; (try simp only [List.cons_append, List.nil_append] at N'); (try dsimp only); (try k_fold))
  k_with "mine steps" => repeat' (first | (k_unfold; (try dsimp only)) | walk1 | (dsimp only; walk1) | (leave1; (try dsimp only)))
  trivial
theorem reg_hdr_C2_2 : True := by
  k_with "k_ne" => (refine neN ?_; (try dsimp only); first | with_reducible assumption | exact Ne.symm (by with_reducible assumption))
  k_with "FinE" => ((unfold LCg.FinE); intro D' h' tk' F' N' o1'; (try dsimp only [LCg.Off1] at o1'); (repeat (have h9' := o1'.1; replace o1' := o1'.2)); (try clear o1'); (try simp only [List.nil_append, List.cons_append] at N'); (try dsimp only))
  k_with "FinA" => ((unfold LCg.FinA); intro D' h' tk' F' N' o1'; (try dsimp only [LCg.Off1] at o1'); (repeat (have h9' := o1'.1; replace o1' := o1'.2)); (try clear o1'); (try simp only [List.nil_append, List.cons_append] at N'); (try dsimp only))
  k_with "CompRest" => (with_unfolding_all first | (refine LCg.CompRest.succ ?_; intro v' I' oI' C' oC' D' m' h' tk' E' hv' hC' hx' F' N' off' ne'; (first | lcg_open hv' | (obtain ⟨t9', hv9'⟩ := hv'; subst hv9')); (try dsimp only [LCg.Off3] at off'); (have h9' := ne'.1; have h9' := ne'.2.1; have h9' := ne'.2.2; clear ne'); (repeat (have h9' := off'.1.1; have h9' := off'.1.2.1; have h9' := off'.1.2.2; replace off' := off'.2)); (try clear off')) | refine LCg.CompRest.zero ?_)
  trivial

theorem reg_c2_1 : True := by
  k_with "call ref" => (k_here; (with_reducible show wpAny _ _ (call (Value.ref 122) [Value.str _ _]) _ _ _); k_dflt (refine' fspath_c ?k1 ?k2 ?k3 ?k4 ?kd ?ku ?_; walk_at "mine args"); walk_at "mine back")
  k_with "call ref" => (k_here; (with_reducible show wpAny _ _ (call (Value.ref 136) [Value.str _ _]) _ _ _); k_dflt (refine' getsep_c ?k1 ?k2 ?k3 ?k4 ?kd ?ku ?_; walk_at "mine args"); intro t'; walk_at "mine back")
  k_with "mine enterR" => (refine wpAny_call ?_; k_dflt (refine' enterMR ?k1 ?k2 ?k3 ?k5 ?kA ?kF ?kK ?k6 ?k7 ?k8 ?kV ?kP ?kG ?kB ?_ ?c2 ?c3 ?c4 ?c5; (case kA => exact rfl); (case kF => exact rfl); (case kK => exact rfl); (case k1 => k_asm); (case k2 => k_asm); (case k3 => k_asm); (case k5 => k_asm); (case k6 => k_is); (case k7 => k_is); (case k8 => ktr_room); (case kV => kl_lit); (case kP => exact rfl); (case kG => exact fun _ => rfl); (case kB => exact fun _ => locs rfl); (case c5 => decide); (case c2 => exact rfl); (case c3 => exact rfl); (case c4 => exact rfl); k_whole); intro D' g' L' h' G' FG' F' N' B' X' T'; (try dsimp only); (try k_fold))
  trivial
theorem kept {g h₁ h' : Heap} {L' : Addr} {m' : Str → Option Value} (G : ∀ b o, h₁.get? b = some o → g.get? b = some o) (F : Fr g L' h' m') : ∀ b o, h₁.get? b = some o → h'.get? b = some o :=
  fun b o e => F.keep b o (G b o e)
noncomputable def dirT (x : Str) : Str :=
  if (Txt.slice x none (some (Txt.rfind x (Str.ofString "/") + 1))).length = 0 then Txt.slice x none (some (Txt.rfind x (Str.ofString "/") + 1))
  else if (Txt.slice x none (some (Txt.rfind x (Str.ofString "/") + 1)) != Txt.mul (Str.ofString "/") ↑(Txt.slice x none (some (Txt.rfind x (Str.ofString "/") + 1))).length) = false then Txt.slice x none (some (Txt.rfind x (Str.ofString "/") + 1))
  else Txt.rstripChars (Txt.slice x none (some (Txt.rfind x (Str.ofString "/") + 1))) (Str.ofString "/")
theorem dirT_1 {x : Str} (h : ((Txt.slice x none (some (Txt.rfind x (Str.ofString "/") + 1))).length : Int) = 0) : Txt.slice x none (some (Txt.rfind x (Str.ofString "/") + 1)) = dirT x := by
  unfold dirT; rw [if_pos (by omega)]
theorem dirT_2 {x : Str} (h : (Txt.slice x none (some (Txt.rfind x (Str.ofString "/") + 1)) != Txt.mul (Str.ofString "/") ↑(Txt.slice x none (some (Txt.rfind x (Str.ofString "/") + 1))).length) = false) : Txt.slice x none (some (Txt.rfind x (Str.ofString "/") + 1)) = dirT x := by
  unfold dirT; rw [if_pos h]; exact (ite_self _).symm
theorem dirT_3 {x : Str} (h : ¬ ((Txt.slice x none (some (Txt.rfind x (Str.ofString "/") + 1))).length : Int) = 0) (h2 : (Txt.slice x none (some (Txt.rfind x (Str.ofString "/") + 1)) != Txt.mul (Str.ofString "/") ↑(Txt.slice x none (some (Txt.rfind x (Str.ofString "/") + 1))).length) = true) : Txt.rstripChars (Txt.slice x none (some (Txt.rfind x (Str.ofString "/") + 1))) (Str.ofString "/") = dirT x := by
  unfold dirT; rw [if_neg (by omega), if_neg (by rw [h2]; simp)]
section
variable {w : World} {mean : ExcName → Option Value} {mg mb : Str → Option Value}
 {dp un : Nat} {gd : Option (List Code)} {cn : Str} {sn : List (Str × NameKind)} {sg sc : Bool} {sm : List (Str × Const)} {a : Addr} {ccd : Value} {cl : List (Str × Addr)} {outer : List Env} {A₀ : Around} {base h₀ : Heap} {L : Addr} {m : Str → Option Value} {s : Shared}
    {Q E : Value → Shared → Prop} (B : Below A₀ base outer h₀) (F : Fr h₀ L s.heap m) (X : (Mine.hd.heap_39 w.params).In h₀) (T : Top Mine.hd.view_39 (looseW Mine.hd.view_39 []) mean mg mb h₀)
include B F X T

theorem dirname_c {x y : Str} {tk : Tok} (hx : x.length ≤ 100) (hy : dirT x = y)
    (hd : dp + 2 < recursionLimit) (hu : un + 20 < cLine) (hret : ∀ t h' tk', (∀ b o, s.heap.get? b = some o → h'.get? b = some o) → Q (.str y t) {s with heap := h', toks := tk'}) :
    wpAny (model Challenge.rw_pd0139_01.row.prog w) (ktrTop dp un gd cn ⟨.function, sn, sg, sc, sm⟩ L a ccd cl outer) (call (.ref 150) [.str x tk]) Q E s := by
  revert X; k_fill; intro X
  walk_at "mine enter"
  k_steps
  all_goals subst hy
  · rw [dirT_3 (by assumption) (by assumption)]
    exact hret _ _ _ (kept0 (by assumption) (by assumption))
  · rw [dirT_2 (by assumption)]
    exact hret _ _ _ (kept0 (by assumption) (by assumption))
  · rw [dirT_1 (by assumption)]
    exact hret _ _ _ (kept0 (by assumption) (by assumption))
theorem join_c {x y z : Str} {tk tk2 : Tok}  (hx : x.length ≤ 100)  (hy : y.length ≤ 100) (h1 : Txt.startswith y (Str.ofString "/") = false) (h0 : x.length ≠ 0)
    (hz : (if Txt.endswith x (Str.ofString "/") = true then x ++ y else x ++ (Str.ofString "/" ++ y)) = z)
    (hd : dp + 2 < recursionLimit) (hu : un + 20 < cLine) (hret : ∀ t h' tk', (∀ b o, s.heap.get? b = some o → h'.get? b = some o) → Q (.str z t) {s with heap := h', toks := tk'}) :
    wpAny (model Challenge.rw_pd0139_01.row.prog w) (ktrTop dp un gd cn ⟨.function, sn, sg, sc, sm⟩ L a ccd cl outer) (call (.ref 143) [.str x tk, .str y tk2]) Q E s := by
  revert X; k_fill; intro X
  walk_at "mine enterR"
  k_steps
  · rw [if_pos (by assumption)] at hz; subst hz
    exact hret _ _ _ (kept (by assumption) (by assumption))
  · rw [if_neg (by rw [‹Txt.endswith x (Str.ofString "/") = false›]; decide)] at hz; subst hz
    exact hret _ _ _ (kept (by assumption) (by assumption))
  · exact absurd (show (x.length : Int) = 0 by assumption) (by omega)
end
end
-- D1
section
theorem reg_none_D1 : True := by
  w_top off
  k_with_none
  trivial
noncomputable def TSrc (h₀ : Heap) (ax : Addr) (its : Array Value) (news : List (Addr × Obj)) : Prop := h₀.IsTuple ax its ∨ ∃ o, (ax, o) ∈ news ∧ o.cls = .type "tuple" ∧ ∃ n, o.data = .seq its n
theorem TSrc.tup {h₀ h : Heap} {L ax : Addr} {its : Array Value} {news : List (Addr × Obj)} (x : TSrc h₀ ax its news) (k : ∀ b o, h₀.get? b = some o → h.get? b = some o) (N : News h₀ L h news) : h.IsTuple ax its := by
  rcases x with ⟨o, e, r⟩ | ⟨o, hm, r⟩
  · exact ⟨o, k _ _ e, r⟩
  · exact ⟨o, (N _ hm).1, r⟩
section
variable {prog : Program} {w : World} {A : Around} {E : Value → Shared → Prop} {s : Shared} {h₀ : Heap} {L : Addr} {m : Str → Option Value} {env : Env}
theorem tup_st {ax I : Addr} {its : Array Value} : ∀ i (h h' : Heap) (o : Obj) (nw : List (Addr × Obj)), (h.IsTupleIter I ax i ∧ h.IsTuple ax its) → h.get? I = some o → h'.get? I = some o → (∀ b o, h₀.get? b = some o → h'.get? b = some o) → News h₀ L h' nw → TSrc h₀ ax its nw → (h'.IsTupleIter I ax i ∧ h'.IsTuple ax its) :=
  fun i h h' o nw st e e' k N S => ⟨by obtain ⟨o', q, r⟩ := st.1; rw [e] at q; cases q; exact ⟨o, e', r⟩, S.tup k N⟩
/-- the iterable came out as a tuple -/
noncomputable def SrcTup (prog : Program) (w : World) (A : Around) (h₀ : Heap) (L : Addr) (m : Str → Option Value) (env : Env) (elt : Expr) (x : Str) (scope : Scope) (cl : List (Str × Addr)) (Fin : Shared → List Value → List (Addr × Obj) → Prop) (xv : Value) (s₁ : Shared) : Prop :=
  ∃ ax its news, xv = .ref ax ∧ A.handled = none ∧ Fr h₀ L s₁.heap m ∧ News h₀ L s₁.heap news ∧ TSrc h₀ ax its news ∧ its.size ≤ sizeLine ∧
    ∀ s₂ : Shared, (∃ h, s₂ = { s₁ with heap := h }) → LCg.CompRest prog w A h₀ L m env elt x scope cl s₂ (TSrc h₀ ax its) (fun i v => its[i]? = some v) (Fin s₂) its.size 0 [] news
theorem SrcTup.ledger {elt : Expr} {x : Str} {scope : Scope} {cl : List (Str × Addr)} {Fin : Shared → List Value → List (Addr × Obj) → Prop} {ax : Addr} {its : Array Value} {k : Nat} {news : List (Addr × Obj)} {s₁ : Shared}
    (hh : A.handled = none) (F : Fr h₀ L s₁.heap m) (N : News h₀ L s₁.heap news) (hm : (ax, ({ cls := .type "tuple", data := .seq its k } : Obj)) ∈ news) (hsz : its.size ≤ sizeLine)
    (h : ∀ g, LCg.CompRest prog w A h₀ L m env elt x scope cl { s₁ with heap := g } (TSrc h₀ ax its) (fun i v => its[i]? = some v) (Fin { s₁ with heap := g }) its.size 0 [] news) :
    SrcTup prog w A h₀ L m env elt x scope cl Fin (.ref ax) s₁ := ⟨ax, its, news, rfl, hh, F, N, .inr ⟨_, hm, rfl, _, rfl⟩, hsz, fun _ ⟨g, e⟩ => e ▸ h g⟩
theorem Assign_comp_tup {elt iter : Expr} {x y : Str} {px py : Pos} {scope : Scope} {cl : List (Str × Addr)} {pos spos : Pos} {Q : Flow → Shared → Prop} (_F₀ : Fr h₀ L s.heap m) (hLe : env.locals = L)
    (hsw : swapsWith (.ListComp elt [⟨.Name x px, iter, [], 0⟩] scope pos) (some (.Name y py)) spos.line env = pure true)
    (hclos : closureFor scope env = pure cl) (hcell : ∀ z ∈ scope.names, z.2 ≠ .cell) (hkind : scope.kind = .function)
    (hnames : ∀ z ∈ scope.names, z.2 = .local → scope.names.lookup z.1 = some .local) (hx : scope.names.lookup x = some .local)
    (hy : env.kindOf y = some .local) (hp : (env.scope.kind == .class || (env.scope.kind == .module && env.locals != env.globals)) = false)
    (h : wpAny (model prog w) A (eval iter env) (SrcTup prog w A h₀ L m env elt x scope cl (fun s₂ => LCg.FinA h₀ L m s₂ y Q)) E s)
    (hs : ∀ x, foldedSetIterable iter env x = pure x := by intro _; rfl) :
    wpAny (model prog w) A (exec (.Assign [.Name y py] (.ListComp elt [⟨.Name x px, iter, [], 0⟩] scope pos) spos) env) Q E s := by
  subst hLe
  rw [exec_Assign_Name_used _ _ _ _ hsw]
  refine wpAny_bind (wpAny_standAt (wpAny_bind ?_))
  show wpAny _ A (do let _ ← comprehension (.ListComp elt [⟨.Name x px, iter, [], 0⟩] scope pos) scope env _ (newList []) false (eval iter env) (some (assign (.Name y py) env))) _ _ s
  refine wpAny_bind (wpAny_mono (wpAny_comprehension_free (use := some (assign (.Name y py) env)) (Q := fun _ s' => Q .next s') rfl hs hclos hkind hnames
    (wpAny_mono h (fun xv s₁ h₁ => ?_) fun _ _ e => e)) (fun _ s' hq => wpAny_pure (wpAny_pure hq)) fun _ _ e => e)
  obtain ⟨ax, its, news, rfl, hh, F, N, S, hsz, R⟩ := h₁
  have hl := S.tup F.keep N
  have hlt : ax < s₁.heap.objs.size := by obtain ⟨_, e, _⟩ := hl; exact Heap.lt_size e
  refine wpAny_pyIter_tuple hl ?_
  have up : ∀ b o, s₁.heap.get? b = some o → (s₁.heap.push { cls := .type "tuple_iterator", data := .fields #[.ref ax, .int 0 0] }).get? b = some o := fun b o e => Heap.get?_push_of_some _ e
  refine LCg.block_U (Walks.tuple hh s₁.heap.objs.size ax (Nat.ne_of_lt hlt) its) hsz (fun i h st => by obtain ⟨o, e, _⟩ := st.1; exact ⟨o, e⟩) tup_st hcell hkind hx ⟨⟨_, Heap.get?_push_size _ rfl, rfl, rfl⟩, hl.push _⟩ (fun b hb => ?_)
    (F.keeps up) (N.grown up) (Nat.ne_of_lt F.ns.lt) (next_is_new F) (fun p hp => Nat.ne_of_lt (Heap.lt_size (N p hp).1)) S (R _ ⟨_, rfl⟩) ?_
  · show b < (s₁.heap.push _).objs.size
    rw [Heap.size_push]
    rcases List.mem_cons.mp hb with rfl | hb
    · exact Nat.lt_succ_self _
    · rw [List.mem_singleton.mp hb]; exact Nat.lt_succ_of_lt hlt
  · intro D C h' tk m' ys news' F' N' o1 hn hC₀ hD₀ hCL hDL hCD offC fin
    show wpAny _ A (assign (.Name y py) env (.ref D)) _ _ _
    refine wpAny_assign_Name (wpAny_storeName_local hy F'.ns (fun h₂ hn₂ hs₂ => ?_) hp)
    have hL₀ : h₀.get? env.locals = none := Heap.get?_none_of_le F'.above
    have F₂ : Fr h₀ env.locals h₂ (fun z => if z = y then some (.ref D) else m z) := ⟨hn₂, fun b o e => hs₂.extBut b o (fun q => by rw [q, hL₀] at e; cases e) (F'.keep b o e), F'.above⟩
    refine ⟨m', hn.sameBut hs₂ hCL, fun h'' hs'' => fin D h'' _ (F₂.change hs'' hCL hC₀) (fun p hp => ?_) o1⟩
    have z : h₂.get? p.1 = some p.2 := hs₂.extBut _ _ (N' p hp).2.1 (N' p hp).1
    refine ⟨hs''.extBut _ _ ?_ z, (N' p hp).2⟩
    rcases List.mem_cons.mp hp with rfl | hp
    · exact Ne.symm hCD
    · exact offC p hp
end
end
-- D2
section
theorem reg_none_D2 : True := by
  w_top off
  k_with_none
  trivial
theorem compTurn_set (elt target iter : Expr) (scope : Scope) (pos : Pos) (it acc : Value) (env : Env) :
    compTurn (.SetComp elt [⟨target, iter, [], 0⟩] scope pos) 0 it acc env = (standAt iter.pos >>= fun _ => pyNext it >>= fun r => match r with
      | none => pure (.done .next)
      | some v => letOwnedTupleGo target it v >>= fun _ => assign target env v >>= fun _ =>
        (eval elt env >>= fun x => standAt elt.pos >>= fun _ => call (.builtin "set.add") [acc, x] >>= fun _ => pure ()) >>= fun _ =>
          again (.compLoop (.SetComp elt [⟨target, iter, [], 0⟩] scope pos) 0 it acc env)) := by rfl
theorem slot_bool_hash : Slot "bool" "__hash__" "int.__hash__" :=
  .of (owner := "int") (n := "__hash__") (by rw [typeLookup_type, builtinLookup_eq_fast]; kernel_rfl) (by decide +kernel) (by decide +kernel) (by decide +kernel)
    (by first | exact .inl (by decide +kernel) | exact .inr (by decide +kernel)) (by rw [isSubtype_type]; kernel_rfl)
theorem neA {a b : Nat} (h : a ≠ b) : @Ne Addr a b := h
noncomputable def s0 (led : Bool) : Obj := { cls := .type "set", dict := none, data := .set #[] 0 (.fresh 0 0 led) }
noncomputable def t1 (led : Bool) : SetTable := (layNew (.fresh 0 0 led) #[] 1 (.bool true)).2.1
noncomputable def s1 (led : Bool) : Obj := { cls := .type "set", dict := none, data := .set #[(1, .bool true)] 1 (t1 led) }
section
variable {prog : Program} {w : World} {A : Around} {E : Value → Shared → Prop} {s : Shared}
theorem hash_true {Q : Int → Shared → Prop} (h : Q 1 { s with toks := s.toks + 1 }) :
    wpAny (model prog w) A (pyHash (.bool true)) Q E s := by
  unfold pyHash
  have hv : [Value.bool true].any Value.onHeap = false := rfl
  refine wpAny_bind ?_
  rw [cRoomFor, if_neg (by rw [hv]; exact Bool.false_ne_true)]; refine wpAny_pure ?_
  refine wpAny_bind (wpAny_specialOf (PySem.typeIs_bool s true) slot_bool_hash.lookup ?_)
  show wpAny _ _ (if (some (Value.builtin "int.__hash__") == some Value.none) = true then _ else _) Q E s
  rw [if_neg (by rw [beq_builtin_none]; exact Bool.false_ne_true)]
  refine wpAny_bind (wpAny_specialOf (PySem.typeIs_bool s true) slot_bool_hash.lookup ?_)
  show wpAny _ _ (callSpecialIfBoundUnlessNone? (.bool true) "__hash__" _ >>= _) Q E s
  refine wpAny_bind (wpAny_callSpecialIfBoundUnlessNone?_slot (PySem.typeIs_bool s true) slot_bool_hash
    (wpAny_call_entry slot_bool_hash (PySem.typeIs_bool s true) entry_int_hash
      (show wpAny _ _ (do ret (← mkInt 1)) _ _ s from wpAny_ret_mkInt ?_) (args_int_hash _)))
  show wpAny _ _ (if (decide (-(2 : Int) ^ 63 ≤ 1) && decide ((1 : Int) < 2 ^ 63)) = true then _ else _) Q E _
  rw [if_pos (by decide)]
  exact wpAny_pure h
theorem fits0 (led : Bool) : (SetTable.fresh 0 0 led).fits (#[] : Array (Int × Value)).size = true := by cases led <;> decide
theorem fits1 (led : Bool) : (t1 led).fits (#[((1 : Int), Value.bool true)] : Array (Int × Value)).size = true := by cases led <;> decide +kernel
theorem add0 {D : Addr} {led : Bool} {Q : Bool → Shared → Prop} (ho : s.heap.get? D = some (s0 led)) (h : ∀ h', Heap.SameBut D s.heap h' → h'.get? D = some (s1 led) → Q true { s with heap := h', toks := s.toks + 1 }) :
    wpAny (model prog w) A (setAdd D (.bool true)) Q E s := by
  unfold setAdd
  refine wpAny_holding (wpAny_bind (hash_true ?_))
  unfold setAddHashed setAddHashedIn
  refine wpAny_holding (wpAny_bind (wpAny_setState_of (o := s0 led) ho rfl (fits0 led) ?_))
  dsimp only
  rw [if_pos (by decide +kernel)]
  unfold setAddByScan
  refine wpAny_bind ?_
  refine wpAny_bind (wpAny_rule ?_)
  refine wpAny_bind (wpAny_pure ?_)
  dsimp only
  have hlay : layNew (.fresh 0 0 led) #[] 1 (.bool true) = (#[(1, .bool true)], t1 led, false, false) := by cases led <;> decide +kernel
  rw [hlay]
  dsimp only
  refine wpAny_bind (wpAny_pure ?_)
  have hpl : (t1 led).plain = true := by cases led <;> decide +kernel
  have htf : (t1 led).tooFull = false := by cases led <;> decide +kernel
  rw [if_pos hpl]
  refine wpAny_bind (m := hashByValue 8 (.bool true)) (wpAny_pure ?_)
  simp only [if_true, htf, Bool.and_false, Bool.false_eq_true, if_false]
  refine wpAny_bind ?_
  unfold storeSet
  refine wpAny_bind (wpAny_load (o := s0 led) ho ?_)
  show wpAny _ _ (if _ then _ else _) _ _ _
  rw [if_neg (by decide)]
  refine wpAny_update (o := s0 led) ho (wpAny_pure ?_)
  exact wpAny_pure (h _ (Heap.SameBut.update _ D _) (Heap.get?_update_self _ ho rfl))
theorem add1 {D : Addr} {led : Bool} {Q : Bool → Shared → Prop} (ho : s.heap.get? D = some (s1 led)) (h : Q false { s with toks := s.toks + 1 }) :
    wpAny (model prog w) A (setAdd D (.bool true)) Q E s := by
  unfold setAdd
  refine wpAny_holding (wpAny_bind (hash_true ?_))
  unfold setAddHashed setAddHashedIn
  refine wpAny_holding (wpAny_bind (wpAny_setState_of (o := s1 led) ho rfl (fits1 led) ?_))
  dsimp only
  rw [if_pos (by decide +kernel)]
  unfold setAddByScan
  refine wpAny_bind ?_
  refine wpAny_bind (wpAny_rule ?_)
  refine wpAny_bind ?_
  show wpAny _ _ (setScanFrom D (.bool true) 1 true [(1, .bool true)] 0) _ _ _
  unfold setScanFrom
  rw [if_pos (by decide)]
  unfold setEpoch
  refine wpAny_bind (wpAny_bind (wpAny_setState_of (o := s1 led) ho rfl (fits1 led) (wpAny_pure ?_)))
  refine wpAny_bind ?_
  unfold eqBool
  refine wpAny_holding ?_
  rw [if_pos (by decide)]
  refine wpAny_bind (wpAny_rule (wpAny_pure ?_))
  rw [if_pos (by decide)]
  exact wpAny_pure (wpAny_pure (wpAny_pure h))
theorem set_add_call {D : Addr} {o : Obj} {Q : Value → Shared → Prop} (ho : s.heap.get? D = some o) (hc : o.cls = .type "set") (h : wpAny (model prog w) A.in1 (setAdd D (.bool true)) (fun _ s' => Q .none s') E s) :
    wpAny (model prog w) A (call (.builtin "set.add") [.ref D, .bool true]) Q E s := by
  refine wpAny_call_entry F.slot_set_add ⟨_, ho, hc⟩ F.entry_set_add ?_ (F.args_set_add_2 _ _)
  unfold Builtin.«set.add» Builtin.Frozenset.oneOther
  simp only [List.isEmpty_nil, bind_assoc]
  unfold Builtin.Frozenset.addrOf
  refine wpAny_bind (wpAny_pure ?_)
  try dsimp only
  refine wpAny_bind (wpAny_pure ?_)
  try dsimp only
  exact wpAny_bind (wpAny_mono h (fun _ _ q => wpAny_pure ⟨_, rfl, q⟩) fun _ _ q => q)
theorem newSet_at {Q : Value → Shared → Prop} (h : Q (.ref s.heap.objs.size) { s with heap := s.heap.push (s0 (!w.params.followText "set-order")) }) : wpAny (model prog w) A (newSet (.type "set")) Q E s := by
  unfold newSet setsByText
  refine wpAny_bind (wpAny_bind (wpAny_askSetting (wpAny_pure ?_)))
  dsimp only
  simp only [newObj]
  exact wpAny_bind (wpAny_alloc (wpAny_pure h))
theorem compLoop_set {elt target iter : Expr} {scope : Scope} {pos : Pos} {it acc : Value} {env : Env} {R : Result → Shared → Prop} (I : Nat → Shared → Prop)
    (turn : ∀ n s, I n s → wpAny (model prog w) A (pyNext it) (fun r s₁ => match r with
      | none => R (.ok .next) s₁
      | some v => wpAny (model prog w) A (assign target env v) (fun _ s₂ => wpAny (model prog w) A (eval elt env) (fun x s₃ =>
          wpAny (model prog w) A (call (.builtin "set.add") [acc, x]) (fun _ s₄ => ∃ m, m < n ∧ I m s₄) (notedBy (model prog w) A env fun e s' => R (.error e) s') s₃)
          (notedBy (model prog w) A env fun e s' => R (.error e) s') s₂) (notedBy (model prog w) A env fun e s' => R (.error e) s') s₁) (notedBy (model prog w) A env fun e s' => R (.error e) s') s)
    (n : Nat) (h : I n s) (ht : ∀ v, letOwnedTupleGo target it v = pure () := by intro _; rfl) :
    codeAny (model prog w) A (.compLoop (.SetComp elt [⟨target, iter, [], 0⟩] scope pos) 0 it acc env) R s := by
  refine codeAny_loop rfl I (fun n s hI => ?_) n h
  show wpAny _ A ((compTurn (.SetComp elt [⟨target, iter, [], 0⟩] scope pos) 0 it acc env).onRaise (fun x => do noteFrame x env; theTreesLotGoes x)) _ _ s
  refine wpAny_noted ?_
  rw [compTurn_set]
  refine wpAny_bind (wpAny_standAt (wpAny_bind (wpAny_mono (turn n s hI) (fun r s₁ h₁ => ?_) fun _ _ h' => h')))
  cases r with
  | none => exact wpAny_pure h₁
  | some v =>
    refine wpAny_bind (wpAny_of_eq (ht v) ?_)
    refine wpAny_bind (wpAny_mono h₁ (fun _ s₂ h₂ => ?_) fun _ _ h' => h')
    exact wpAny_bind (wpAny_bind (wpAny_mono h₂ (fun x s₃ h₃ => wpAny_bind (wpAny_standAt (wpAny_bind (wpAny_mono h₃ (fun _ s₄ h₄ => wpAny_pure (wpAny_pure ⟨rfl, h₄⟩)) fun _ _ h' => h')))) fun _ _ h' => h'))
theorem compStart_set {elt target iter ifs rest scope pos it acc env} {R : Result → Shared → Prop}
    (h0 : codeAny (model prog w) A (.compLoop (.SetComp elt (⟨target, iter, ifs, 0⟩ :: rest) scope pos) 0 it acc env) R s)
    (h : wpAny (model prog w) A (pyIter it) (fun it' s' => codeAny (model prog w) A (.compLoop (.SetComp elt (⟨target, iter, ifs, 0⟩ :: rest) scope pos) 0 it' acc env) R s')
      (notedBy (model prog w) A env fun x s' => R (.error x) s') s) :
    codeAny (model prog w) A (.compStart (.SetComp elt (⟨target, iter, ifs, 0⟩ :: rest) scope pos) 0 it acc env) R s := by
  refine codeAny_of_tree ?_
  show wpAny _ _ ((compStart (.SetComp elt (⟨target, iter, ifs, 0⟩ :: rest) scope pos) 0 it acc env).onRaise (fun x => do noteFrame x env; standAt theWindowsPlace)) _ _ s
  refine wpAny_notedAt ?_
  unfold compStart
  show wpAny _ _ (ask >>= _) _ _ s
  refine wpAny_bind (wpAny_askSetting (wpAny_ite ?_))
  split
  · exact wpAny_pure (And.intro rfl h0)
  · refine wpAny_bind (wpAny_rule ?_)
    show wpAny _ _ (standAt iter.pos >>= _) _ _ s
    exact wpAny_bind (wpAny_standAt (wpAny_bind (wpAny_mono h (fun it' s' h' => wpAny_pure (And.intro rfl h')) fun _ _ x => x)))
end
section
variable {prog : Program} {w : World} {A : Around} {E : Value → Shared → Prop} {s : Shared} {h₀ : Heap} {L : Addr} {m : Str → Option Value} {env : Env}
/-- what holds between the turns; in and out of it by one step each -/
noncomputable def SInv (h₀ : Heap) (L : Addr) (m : Str → Option Value) (s₁ : Shared) (its : Array Value) (ax I : Addr) (led : Bool) (news : List (Addr × Obj)) (k : Nat) (s' : Shared) : Prop :=
  ∃ h' tk i m', s' = { s₁ with heap := h', toks := tk } ∧ i ≤ its.size ∧ k = its.size + 1 - i ∧ (h'.IsTupleIter I ax i ∧ h'.IsTuple ax its) ∧ Fr h₀ L h' m ∧ h'.Ns (I + 1 + 1) m' ∧ News h₀ L h' ((I + 1, if i = 0 then s0 led else s1 led) :: news)
theorem SInv.mk {h₀ h' : Heap} {L ax I : Addr} {m m' : Str → Option Value} {s₁ : Shared} {its : Array Value} {led : Bool} {news : List (Addr × Obj)} {tk i : Nat} (h1 : i ≤ its.size) (h2 : h'.IsTupleIter I ax i ∧ h'.IsTuple ax its) (h3 : Fr h₀ L h' m) (h4 : h'.Ns (I + 1 + 1) m') (h5 : News h₀ L h' ((I + 1, if i = 0 then s0 led else s1 led) :: news)) :
    SInv h₀ L m s₁ its ax I led news (its.size + 1 - i) { s₁ with heap := h', toks := tk } := ⟨h', tk, i, m', rfl, h1, rfl, h2, h3, h4, h5⟩
@[elab_as_elim] theorem SInv.elim {h₀ : Heap} {L ax I : Addr} {m : Str → Option Value} {s₁ s' : Shared} {its : Array Value} {led : Bool} {news : List (Addr × Obj)} {k : Nat} {K : Nat → Shared → Prop} (h : SInv h₀ L m s₁ its ax I led news k s')
    (go : ∀ h' tk i m', i ≤ its.size → (h'.IsTupleIter I ax i ∧ h'.IsTuple ax its) → Fr h₀ L h' m → h'.Ns (I + 1 + 1) m' → News h₀ L h' ((I + 1, if i = 0 then s0 led else s1 led) :: news) → K (its.size + 1 - i) { s₁ with heap := h', toks := tk }) : K k s' := by
  obtain ⟨h', tk, i, m', rfl, h1, rfl, h2, h3, h4, h5⟩ := h
  exact go h' tk i m' h1 h2 h3 h4 h5
theorem lt_nextS {n i : Nat} (h : i < n) : n + 1 - (i + 1) < n + 1 - i := by omega
theorem setcomp_true {elt iter : Expr} {x : Str} {px : Pos} {scope : Scope} {cl : List (Str × Addr)} {pos : Pos} {Q : Value → Shared → Prop} (_F₀ : Fr h₀ L s.heap m)
    (hclos : closureFor scope env = pure cl) (hcell : ∀ y ∈ scope.names, y.2 ≠ .cell) (hkind : scope.kind = .function)
    (hnames : ∀ y ∈ scope.names, y.2 = .local → scope.names.lookup y.1 = some .local) (hx : scope.names.lookup x = some .local)
    (h : wpAny (model prog w) A (eval iter env) (fun xv s₁ => ∃ ax its news, xv = .ref ax ∧ A.handled = none ∧ Fr h₀ L s₁.heap m ∧ News h₀ L s₁.heap news ∧ TSrc h₀ ax its news ∧ 0 < its.size ∧
      (∀ (i : Nat) (v : Value) I oI C oC D oD m₂ h tk (E' : Value → Shared → Prop), its[i]? = some v → LCg.NsObj oC m₂ → m₂ x = some v → Fr h₀ L h m → News h₀ L h ((I, oI) :: (C, oC) :: (D, oD) :: news) → LCg.Off3 I C D news → ((@Ne Nat I C) ∧ (@Ne Nat I D) ∧ (@Ne Nat C D)) →
        wpAny (model prog w) A (eval elt (compEnvC scope cl C env)) (fun y s₂ => y = .bool true ∧ ∃ h' tk', s₂ = { s₁ with heap := h', toks := tk' } ∧ Fr h₀ L h' m ∧ News h₀ L h' ((I, oI) :: (C, oC) :: (D, oD) :: news)) E' { s₁ with heap := h, toks := tk }) ∧
      (∀ D h' tk, Fr h₀ L h' m → News h₀ L h' ((D, s1 (!w.params.followText "set-order")) :: news) → LCg.Off1 D news → Q (.ref D) { s₁ with heap := h', toks := tk })) E s)
    (hs : ∀ x, foldedSetIterable iter env x = pure x := by intro _; rfl) :
    wpAny (model prog w) A (eval (.SetComp elt [⟨.Name x px, iter, [], 0⟩] scope pos) env) Q E s := by
  rw [arm_eval_SetComp]
  refine wpAny_comprehension_free (use := none) rfl hs hclos hkind hnames (wpAny_mono h (fun xv s₁ h₁ => ?_) fun _ _ e => e)
  obtain ⟨ax, its, news, rfl, hh, F, N, S, hpos, helt, hQ⟩ := h₁
  have hl := S.tup F.keep N
  have hlt : @LT.lt Nat _ ax s₁.heap.objs.size := by obtain ⟨_, e, _⟩ := hl; exact Heap.lt_size e
  refine wpAny_pyIter_tuple hl ?_
  generalize hH1 : s₁.heap.push { cls := .type "tuple_iterator", data := .fields #[.ref ax, .int 0 0] } = H1
  have up1 : ∀ b o, s₁.heap.get? b = some o → H1.get? b = some o := fun b o e => hH1 ▸ Heap.get?_push_of_some _ e
  have hI1 : H1.IsTupleIter s₁.heap.objs.size ax 0 := ⟨_, hH1 ▸ Heap.get?_push_size _ rfl, rfl, rfl⟩
  have hsz1 : H1.objs.size = s₁.heap.objs.size + 1 := by rw [← hH1, Heap.size_push]
  refine newSet_at ?_
  dsimp only
  generalize hled : (!w.params.followText "set-order") = led at hQ ⊢
  generalize hH2 : H1.push (s0 led) = H2
  have hsz2 : H2.objs.size = s₁.heap.objs.size + 1 + 1 := by rw [← hH2, Heap.size_push, hsz1]
  refine wpAny_newFunctionEnv hcell (by intro y hy; simp at hy) (fun h₁ hns₁ hsb₁ => ?_) hkind
  dsimp only at hns₁ hsb₁ ⊢
  rw [hsz1, hsz2]
  rw [hsz2] at hns₁ hsb₁
  -- the three places: I the iterator, D the set, C the block's names
  generalize hI : (s₁.heap.objs.size : Nat) = I at *
  have old : ∀ b o, s₁.heap.get? b = some o → h₁.get? b = some o := fun b o e => by
    have hb : @LT.lt Nat _ b I := hI ▸ Heap.lt_size e
    exact hsb₁.extBut b o (neA (by omega)) (Heap.get?_push_of_some _ (hH2 ▸ Heap.get?_push_of_some _ (up1 b o e)))
  have fresh₀ : ∀ a : Nat, I ≤ a → h₀.get? a = none := fun a ha => by
    cases e : h₀.get? a with
    | none => rfl
    | some o' => exact absurd (hI ▸ Heap.lt_size (F.keep a o' e)) (Nat.not_lt.mpr ha)
  have hLlt : @LT.lt Nat _ L I := hI ▸ F.ns.lt
  have hI₀ := fresh₀ I (Nat.le_refl _)
  have hD₀ := fresh₀ (I + 1) (Nat.le_succ _)
  have hC₀ := fresh₀ (I + 1 + 1) (by omega)
  have nlt : ∀ p ∈ news, @LT.lt Nat _ p.1 I := fun p hp => hI ▸ Heap.lt_size (N p hp).1
  have off : LCg.Off3 I (I + 1 + 1) (I + 1) news := LCg.Off3.of fun p hp => by have := nlt p hp; exact ⟨neA (by omega), neA (by omega), neA (by omega)⟩
  have hne3 : ((@Ne Nat I (I + 1 + 1)) ∧ (@Ne Nat I (I + 1)) ∧ (@Ne Nat (I + 1 + 1) (I + 1))) := ⟨by omega, by omega, by omega⟩
  have hDget : h₁.get? (I + 1) = some (s0 led) := hsb₁.extBut _ _ (neA (by omega)) (Heap.get?_push_of_some _ (hH2 ▸ (by rw [← hsz1]; exact Heap.get?_push_size _ rfl)))
  have hIget : h₁.IsTupleIter I ax 0 := hI1.at fun o e => hsb₁.extBut _ _ (neA (by omega)) (Heap.get?_push_of_some _ (hH2 ▸ Heap.get?_push_of_some _ e))
  have W := Walks.tuple (prog := prog) (w := w) (A := A) hh I ax (neA (by omega)) its
  have loop : ∀ s₃ : Shared, s₃ = { s₁ with heap := h₁, toks := s₁.toks + ([] : List (Str × Value)).length } →
      codeAny (model prog w) A (.compLoop (.SetComp elt [⟨.Name x px, iter, [], 0⟩] scope pos) 0 (.ref I) (.ref (I + 1)) (compEnvC scope cl (I + 1 + 1) env))
        (compPost (model prog w) A E none Q (.ref (I + 1)) (I + 1 + 1)) s₃ := by
    rintro s₃ rfl
    refine compLoop_set (SInv h₀ L m s₁ its ax I led news) ?_ (its.size + 1) (SInv.mk (i := 0) (Nat.zero_le _) ⟨hIget, hl.at fun o e => old _ o e⟩ (keep_fr F old) hns₁ ?_)
    · intro k s' hP
      refine SInv.elim hP ?_
      clear hP k s'
      intro h' tk i m' hi hst F' hn' N'
      by_cases hlt' : i < its.size
      · refine W.item i _ _ _ hlt' hst fun v h₂ tk₂ hPv hst₂ hk₂ => ?_
        refine wpAny_assign_Name (wpAny_storeName_local (lookup_relabel_local hx) (hn'.at' fun o e => hk₂ _ o (fun q => by have q' : (I + 1 + 1 : Nat) = I := List.mem_singleton.mp q; omega) e) (fun h₃ hn₃ hs₃ => ?_) (by simp [compEnvC, relabel, hkind]))
        have hst₃ : h₃.IsTupleIter I ax (i + 1) ∧ h₃.IsTuple ax its := W.frame _ _ _ hst₂ fun b hb o e => hs₃.extBut b o (fun q => by
          have q' : @Eq Nat b (I + 1 + 1) := q
          rcases List.mem_cons.mp hb with r | r
          · have r' : @Eq Nat b I := r; omega
          · have r' : @Eq Nat b ax := List.mem_singleton.mp r; omega) e
        obtain ⟨oI, heI, hrI⟩ := id hst₃.1
        obtain ⟨oC, heC, hoC⟩ := LCg.ns_obj hn₃
        have F₂ : Fr h₀ L h₂ m := LCg.fr_but F' hk₂ (neA (by omega)) hI₀
        have F₃ : Fr h₀ L h₃ m := F₂.change hs₃ (neA (show I + 1 + 1 ≠ L by omega)) hC₀
        have N₃ : News h₀ L h₃ ((I, oI) :: (I + 1 + 1, oC) :: (I + 1, if i = 0 then s0 led else s1 led) :: news) := fun p hp => by
          rcases List.mem_cons.mp hp with rfl | hp
          · exact ⟨heI, neA (by show I ≠ L; omega), hI₀⟩
          · rcases List.mem_cons.mp hp with rfl | hp
            · exact ⟨heC, neA (by show I + 1 + 1 ≠ L; omega), hC₀⟩
            · have z := N' p hp
              refine ⟨hs₃.extBut _ _ ?_ (hk₂ _ _ ?_ z.1), z.2⟩
              · rcases List.mem_cons.mp hp with rfl | hp
                · exact neA (show I + 1 ≠ I + 1 + 1 by omega)
                · have := nlt p hp; exact @neA p.1 (I + 1 + 1) (by omega)
              · rcases List.mem_cons.mp hp with rfl | hp
                · intro q; have q' : (I + 1 : Nat) = I := List.mem_singleton.mp q; omega
                · intro q; have q' : @Eq Nat p.1 I := List.mem_singleton.mp q; have := nlt p hp; omega
        refine wpAny_mono (helt i v I oI (I + 1 + 1) oC (I + 1) _ _ h₃ _ _ hPv hoC (by simp) F₃ N₃ off hne3) (fun y s₄ h₄ => ?_) fun _ _ e => e
        obtain ⟨rfl, h₄, tk₄, rfl, F₄, N₄⟩ := h₄
        have zI := (N₄ (I, oI) List.mem_cons_self).1
        have zC := (N₄ (I + 1 + 1, oC) (List.mem_cons_of_mem _ List.mem_cons_self)).1
        have zD := (N₄ (I + 1, _) (List.mem_cons_of_mem _ (List.mem_cons_of_mem _ List.mem_cons_self))).1
        have fin : ∀ (h₅ : Heap) (tk₅ : Nat), Heap.SameBut (I + 1) h₄ h₅ → h₅.get? (I + 1) = some (s1 led) → ∃ k', k' < its.size + 1 - i ∧ SInv h₀ L m s₁ its ax I led news k' { s₁ with heap := h₅, toks := tk₅ } := fun h₅ tk₅ hs₅ hD₅ => by
          have F₅ : Fr h₀ L h₅ m := F₄.change hs₅ (neA (show I + 1 ≠ L by omega)) hD₀
          have N₅ : News h₀ L h₅ ((I + 1, s1 led) :: news) := fun p hp => by
            rcases List.mem_cons.mp hp with rfl | hp
            · exact ⟨hD₅, neA (by show I + 1 ≠ L; omega), hD₀⟩
            · have z := N₄ p (List.mem_cons_of_mem _ (List.mem_cons_of_mem _ (List.mem_cons_of_mem _ hp)))
              exact ⟨hs₅.extBut _ _ (by have := nlt p hp; exact neA (by omega)) z.1, z.2⟩
          refine ⟨its.size + 1 - (i + 1), lt_nextS hlt', SInv.mk hlt' ⟨?_, ?_⟩ F₅ ((hoC.ns zC).sameBut hs₅ (neA (by omega))) (by rw [if_neg (Nat.succ_ne_zero i)]; exact N₅)⟩
          · exact ⟨oI, hs₅.extBut _ _ (neA (by omega)) zI, hrI⟩
          · exact S.tup F₅.keep fun p hp => N₅ p (List.mem_cons_of_mem _ hp)
        have hcls : (if i = 0 then s0 led else s1 led).cls = .type "set" := by split <;> rfl
        refine set_add_call zD hcls ?_
        by_cases hi0 : i = 0
        · rw [if_pos hi0] at zD
          exact add0 zD fun h₅ hs₅ hD₅ => fin h₅ _ hs₅ hD₅
        · rw [if_neg hi0] at zD
          exact add1 zD (fin h₄ _ (Heap.SameBut.refl _ _) zD)
      · obtain rfl : i = its.size := Nat.le_antisymm hi (Nat.not_lt.mp hlt')
        refine W.done _ _ _ hst fun h₂ tk₂ hk₂ => ?_
        rw [if_neg (by omega)] at N'
        refine ⟨m', hn'.at' fun o e => hk₂ _ o (fun q => by have q' : (I + 1 + 1 : Nat) = I := List.mem_singleton.mp q; omega) e, fun h'' hs'' => hQ (I + 1) h'' tk₂ ((LCg.fr_but F' hk₂ (neA (by omega)) hI₀).change hs'' (neA (show I + 1 + 1 ≠ L by omega)) hC₀) (fun p hp => ?_) ?_⟩
        · refine ⟨hs''.extBut _ _ ?_ (hk₂ _ _ ?_ (N' p hp).1), (N' p hp).2⟩
          · rcases List.mem_cons.mp hp with rfl | hp
            · exact neA (show I + 1 ≠ I + 1 + 1 by omega)
            · have := nlt p hp; exact neA (by omega)
          · rcases List.mem_cons.mp hp with rfl | hp
            · intro q; have q' : (I + 1 : Nat) = I := List.mem_singleton.mp q; omega
            · intro q; have q' : @Eq Nat p.1 I := List.mem_singleton.mp q; have := nlt p hp; omega
        · exact off.one
    · intro p hp
      rcases List.mem_cons.mp hp with rfl | hp
      · exact ⟨by simpa using hDget, neA (by show I + 1 ≠ L; omega), hD₀⟩
      · exact ⟨old _ _ (N p hp).1, (N p hp).2⟩
  exact compStart_set (loop _ rfl) (W.self 0 _ _ _ ⟨hIget, hl.at fun o e => old _ o e⟩ (loop _ rfl))
end
end
-- D3
section
theorem reg_none_D3 : True := by
  w_top off
  k_with_none
  trivial
theorem slot_sit_next : Slot "set_iterator" "__next__" "set_iterator.__next__" :=
  .of (owner := "set_iterator") (n := "__next__") (by rw [typeLookup_type, builtinLookup_eq_fast]; kernel_rfl) (by decide +kernel) (by decide +kernel) (by decide +kernel)
    (by first | exact .inl (by decide +kernel) | exact .inr (by decide +kernel)) (by rw [isSubtype_type]; kernel_rfl)
theorem entry_sit_next : entryFor table "set_iterator.__next__" = some Builtin.«set_iterator.__next__» := entryFor_of_tree (by kernel_rfl)
theorem args_sit_next (a : Value) : argsOk "set_iterator.__next__" ⟨[a], []⟩ := by unfold argsOk; kernel_rfl
theorem entry_set_it : entryFor table "set.__iter__" = some Builtin.«frozenset.__iter__» :=
  entryFor_alias (id' := "frozenset.__iter__") (by kernel_rfl) rfl (by decide +kernel) (by kernel_rfl)
theorem args_set_it (a : Value) : argsOk "set.__iter__" ⟨[a], []⟩ := by unfold argsOk; kernel_rfl
noncomputable def sit (slot i : Int) (e : Value) : Obj := { cls := .type "set_iterator", data := .fields #[.int slot 0, .int i 0, e, .int 1 0, .int 1 0] }
section
variable {prog : Program} {w : World} {A : Around} {E : Value → Shared → Prop} {s : Shared}
theorem iter_set {D : Addr} {led : Bool} {Q : Value → Shared → Prop} (ho : s.heap.get? D = some (s1 led)) (h : Q (.ref s.heap.objs.size) { s with heap := s.heap.push (sit 0 0 (.ref D)) }) :
    wpAny (model prog w) A (pyIter (.ref D)) Q E s := by
  have hT : s.TypeIs (.ref D) "set" := ⟨_, ho, rfl⟩
  refine wpAny_pyIter_slot hT F.slot_set_iter (wpAny_call_entry F.slot_set_iter hT entry_set_it ?_ (args_set_it _))
  unfold Builtin.«frozenset.__iter__»
  refine wpAny_bind (m := Builtin.Frozenset.slot0 "__iter__" { pos := [Value.ref D] }) (wpAny_pure ?_)
  refine wpAny_bind ?_
  unfold Builtin.Frozenset.sizeOf setEntries
  refine wpAny_bind (wpAny_bind (wpAny_setState_of (o := s1 led) ho rfl (fits1 led) (wpAny_pure (wpAny_pure ?_))))
  unfold setDrawn setsByText
  refine wpAny_bind (wpAny_bind (wpAny_setState_of (o := s1 led) ho rfl (fits1 led) ?_))
  refine wpAny_bind (wpAny_bind (wpAny_askSetting (wpAny_pure (wpAny_pure ?_))))
  have hpl : (t1 led).plain = true := by cases led <;> decide +kernel
  rw [if_neg (by show ¬ ((!_ && (!(t1 led).plain && _)) = true); rw [hpl]; simp)]
  refine wpAny_bind (wpAny_pure ?_)
  unfold setEpoch
  refine wpAny_bind (wpAny_bind (wpAny_setState_of (o := s1 led) ho rfl (fits1 led) (wpAny_pure ?_)))
  refine wpAny_bind (wpAny_newObj_type (wpAny_pure ⟨_, rfl, "set_iterator", _, ⟨_, Heap.get?_push_size _ rfl, rfl⟩, slot_sit_next.lookup, h⟩))
theorem pick1 {α : Type} (f : Nat → Nat) (x : α) : pickOrder f #[x] = #[x] := by
  have h1 : f 0 % 1 = 0 := Nat.mod_one _
  show pickOrder.go f 1 0 [x] #[] = #[x]
  unfold pickOrder.go
  simp [Nat.mod_one, pickOrder.go]
theorem setWalk1 {D : Addr} {Q : Array (Int × Value) → Shared → Prop} {led : Bool} (ho : s.heap.get? D = some (s1 led)) (hb : w.params.followText "set-order" = true) (h : Q #[(1, .bool true)] s) :
    wpAny (model prog w) A (setWalk D) Q E s := by
  unfold setWalk setsByText
  refine wpAny_bind (wpAny_setState_of (o := s1 led) ho rfl (fits1 led) ?_)
  refine wpAny_bind (wpAny_bind (wpAny_askSetting (wpAny_pure ?_)))
  show wpAny _ _ (if w.params.followText "set-order" = true then _ else _) _ _ _
  rw [if_pos hb]
  refine wpAny_bind (wpAny_askSetting (wpAny_pure ?_))
  rw [pick1]
  exact h
noncomputable def kk (w : World) : Nat := if w.params.followText "set-order" = true then 0 else 2
theorem setNext_a {D : Addr} {Q : Option (Value × Nat) → Shared → Prop} (ho : s.heap.get? D = some (s1 (!w.params.followText "set-order"))) (h : Q (some (.bool true, kk w)) s) :
    wpAny (model prog w) A (setNext D 0 0 1) Q E s := by
  unfold setNext setsByText
  refine wpAny_bind (wpAny_setState_of (o := s1 _) ho rfl (fits1 _) ?_)
  refine wpAny_bind (wpAny_bind (wpAny_askSetting (wpAny_pure ?_)))
  by_cases hb : w.params.followText "set-order" = true
  · show wpAny _ _ (if w.params.followText "set-order" = true then _ else _) _ _ _
    rw [if_pos hb]
    rw [if_neg (by decide)]
    refine wpAny_bind (setWalk1 ho hb (wpAny_pure ?_))
    have e : kk w = 0 := if_pos hb
    rw [e] at h
    exact h
  · show wpAny _ _ (if w.params.followText "set-order" = true then _ else _) _ _ _
    rw [if_neg hb]
    have hb' : (!w.params.followText "set-order") = true := by simpa using hb
    rw [hb']
    rw [if_neg (by decide +kernel)]
    refine wpAny_bind (wpAny_pure ?_)
    have e : kk w = 2 := if_neg hb
    rw [e] at h
    exact wpAny_pure h
theorem setNext_b {D : Addr} {Q : Option (Value × Nat) → Shared → Prop} (ho : s.heap.get? D = some (s1 (!w.params.followText "set-order"))) (h : Q none s) :
    wpAny (model prog w) A (setNext D (kk w) 1 1) Q E s := by
  unfold setNext setsByText
  refine wpAny_bind (wpAny_setState_of (o := s1 _) ho rfl (fits1 _) ?_)
  refine wpAny_bind (wpAny_bind (wpAny_askSetting (wpAny_pure ?_)))
  by_cases hb : w.params.followText "set-order" = true
  · show wpAny _ _ (if w.params.followText "set-order" = true then _ else _) _ _ _
    rw [if_pos hb]
    rw [if_neg (by decide)]
    exact wpAny_bind (setWalk1 ho hb (wpAny_pure h))
  · show wpAny _ _ (if w.params.followText "set-order" = true then _ else _) _ _ _
    rw [if_neg hb]
    have hb' : (!w.params.followText "set-order") = true := by simpa using hb
    rw [hb']
    rw [if_neg (by decide +kernel)]
    refine wpAny_bind (wpAny_pure ?_)
    have e : kk w = 2 := if_neg hb
    rw [e]
    exact wpAny_pure h
theorem next_set {D it : Addr} {Q : Option Value → Shared → Prop} (ho : s.heap.get? D = some (s1 (!w.params.followText "set-order"))) (hi : s.heap.get? it = some (sit 0 0 (.ref D)))
    (h : ∀ h', Heap.SameBut it s.heap h' → h'.get? it = some (sit (kk w) 1 (.ref D)) → Q (some (.bool true)) { s with heap := h' }) :
    wpAny (model prog w) A (pyNext (.ref it)) Q E s := by
  have hT : s.TypeIs (.ref it) "set_iterator" := ⟨_, hi, rfl⟩
  unfold pyNext
  refine wpAny_bind (wpAny_attempt (wpAny_callSpecial?_slot (name := Str.ofString "__next__") hT slot_sit_next
    (wpAny_call_entry slot_sit_next hT entry_sit_next ?_ (args_sit_next _))))
  unfold Builtin.«set_iterator.__next__»
  refine wpAny_bind (m := slotArgs "__next__" 0 { pos := [Value.ref it] }) (wpAny_pure ?_)
  refine wpAny_bind ?_
  unfold fieldsOf
  refine wpAny_bind (wpAny_load hi (wpAny_pure ?_))
  show wpAny _ _ (setEntries D >>= _) _ _ _
  unfold setEntries
  refine wpAny_bind (wpAny_bind (wpAny_setState_of (o := s1 _) ho rfl (fits1 _) (wpAny_pure ?_)))
  rw [if_neg (by exact (show ¬ ((((1 : Nat) : Int) != 1) = true) by decide))]
  refine wpAny_bind (setNext_a ho ?_)
  refine wpAny_bind (wpAny_setField hi rfl (Nat.zero_lt_succ _) ?_)
  have h1 : (s.heap.update it (Obj.mapFields fun x => x.setIfInBounds 0 (rawInt (kk w)))).get? it = some (sit (kk w) 0 (.ref D)) := Heap.get?_update_self _ hi rfl
  refine wpAny_bind (wpAny_setField h1 rfl (Nat.succ_lt_succ (Nat.zero_lt_succ _)) (wpAny_pure ⟨_, rfl, wpAny_pure (h _ ((Heap.SameBut.update ..).trans (Heap.SameBut.update ..)) ?_)⟩))
  exact Heap.get?_update_self _ h1 rfl
theorem end_set {D it : Addr} {Q : Option Value → Shared → Prop} (hh : A.handled = none) (ho : s.heap.get? D = some (s1 (!w.params.followText "set-order"))) (hi : s.heap.get? it = some (sit (kk w) 1 (.ref D)))
    (h : ∀ h', Heap.ExtBut it s.heap h' → Q none { s with heap := h' }) :
    wpAny (model prog w) A (pyNext (.ref it)) Q E s := by
  have hT : s.TypeIs (.ref it) "set_iterator" := ⟨_, hi, rfl⟩
  unfold pyNext
  refine wpAny_bind (wpAny_attempt (wpAny_callSpecial?_slot (name := Str.ofString "__next__") hT slot_sit_next
    (wpAny_call_entry slot_sit_next hT entry_sit_next ?_ (args_sit_next _))))
  unfold Builtin.«set_iterator.__next__»
  refine wpAny_bind (m := slotArgs "__next__" 0 { pos := [Value.ref it] }) (wpAny_pure ?_)
  refine wpAny_bind ?_
  unfold fieldsOf
  refine wpAny_bind (wpAny_load hi (wpAny_pure ?_))
  show wpAny _ _ (setEntries D >>= _) _ _ _
  unfold setEntries
  refine wpAny_bind (wpAny_bind (wpAny_setState_of (o := s1 _) ho rfl (fits1 _) (wpAny_pure ?_)))
  rw [if_neg (by exact (show ¬ ((((1 : Nat) : Int) != 1) = true) by decide))]
  show wpAny _ _ (setNext D (kk w) 1 1 >>= _) _ _ _
  refine wpAny_bind (setNext_b ho ?_)
  refine wpAny_bind (wpAny_setField hi rfl (Nat.succ_lt_succ (Nat.succ_lt_succ (Nat.zero_lt_succ _))) ?_)
  refine wpAny_bind ?_
  simp only [newExc, newTuple]
  refine wpAny_bind (wpAny_newObj_type ?_ (by size_fits))
  refine wpAny_bind (m := firstArgMember _ _) (wpAny_of_eq (a := Value.none) (by first | rfl | (simp only [firstArgMember]; rfl)) ?_)
  refine wpAny_newObj_type ?_ (by size_fits)
  simp only [raiseNew]
  refine wpAny_bind (wpAny_handled ?_)
  first | rw [show A.in1.handled = none from hh] | rw [hh]
  refine wpAny_bind (wpAny_pure (wpAny_throw ?_))
  refine wpAny_bind (wpAny_isInstance (T := "StopIteration") (b := true) ⟨_, Heap.get?_push_size _ rfl, rfl⟩ isSubtype_stop ?_)
  exact wpAny_pure (h _ (((Heap.SameBut.update ..).extBut.push _).push _))
theorem unpack_set {D : Addr} {Q : List Value → Shared → Prop} (hh : A.handled = none) (ho : s.heap.get? D = some (s1 (!w.params.followText "set-order")))
    (hQ : ∀ h', Heap.ExtBut s.heap.objs.size s.heap h' → Q [.bool true] { s with heap := h' }) : wpAny (model prog w) A (unpackItems (.ref D) 1 none) Q E s := by
  have hlt : D ≠ s.heap.objs.size := Nat.ne_of_lt (Heap.lt_size ho)
  have hT : s.TypeIs (.ref D) "set" := ⟨_, ho, rfl⟩
  unfold unpackItems
  refine wpAny_bind ?_
  unfold notIterableAtAll
  refine wpAny_bind (wpAny_specialOf hT F.slot_set_iter.lookup ?_)
  refine wpAny_pure ?_
  simp only [Bool.false_eq_true, if_false]
  refine wpAny_bind (wpAny_holding (iter_set ho ?_))
  refine wpAny_bind (wpAny_holding ?_)
  have hI : (s.heap.push (sit 0 0 (.ref D))).get? s.heap.objs.size = some (sit 0 0 (.ref D)) := Heap.get?_push_size _ rfl
  show wpAny _ _ (pyNext (.ref s.heap.objs.size) >>= _) _ _ _
  refine wpAny_bind (next_set (Heap.get?_push_of_some _ ho) hI fun h₁ hs₁ hi₁ => ?_)
  refine wpAny_bind (wpAny_holding (wpAny_pure (wpAny_pure ?_)))
  rw [if_neg (by decide)]
  have ho₁ := hs₁.extBut _ _ hlt (Heap.get?_push_of_some _ ho)
  refine wpAny_bind (wpAny_holding (end_set hh ho₁ hi₁ fun h₂ he₂ => ?_))
  simp only [Option.isSome_none, Bool.false_eq_true, if_false]
  exact wpAny_pure (hQ h₂ fun b o hb e => he₂ b o hb (hs₁.extBut b o hb (Heap.get?_push_of_some _ e)))
end
section
variable {prog : Program} {w : World} {A : Around} {E : Value → Shared → Prop} {s : Shared} {h₀ : Heap} {L D : Addr} {m : Str → Option Value} {news : List (Addr × Obj)}
theorem unpack_setN {Q : List Value → Shared → Prop} (F : Fr h₀ L s.heap m) (N : News h₀ L s.heap news) (hm : (D, s1 (!w.params.followText "set-order")) ∈ news) (hh : A.handled = none)
    (h : ∀ h', Fr h₀ L h' m → News h₀ L h' news → Q [.bool true] { s with heap := h' }) : wpAny (model prog w) A (unpackItems (.ref D) 1 none) Q E s :=
  unpack_set hh (N _ hm).1 fun h' he => h h' (F.extBut he (Nat.le_refl _)) (N.extBut he (Nat.le_refl _))
theorem assign_setN {env : Env} {elts : List Expr} {k : Nat} {pos : Pos} {Q : Unit → Shared → Prop} (F : Fr h₀ L s.heap m) (N : News h₀ L s.heap news) (hm : (D, s1 (!w.params.followText "set-order")) ∈ news) (hh : A.handled = none) (hn : (assignEach elts env).length = 1)
    (hstar : (assignEach elts env).findIdx? (·.1) = none) (h : ∀ h', Fr h₀ L h' m → News h₀ L h' news → wpAny (model prog w) A (assignInOrder ((assignEach elts env).map (·.2)) [.bool true]) Q E { s with heap := h' }) :
    wpAny (model prog w) A (assign (.Tuple elts k pos) env (.ref D)) Q E s := by
  rw [assign_Tuple]
  refine wpAny_bind (wpAny_standAt ?_)
  unfold unpack
  rw [hn, hstar]
  exact wpAny_bind (wpAny_holding (unpack_setN F N hm hh h))
end
end
-- D4
section
theorem reg_none_D4 : True := by
  w_top off
  k_with_none
  trivial
/-- what a turn of a comprehension that makes nothing hands back -/
noncomputable def Same (h₀ : Heap) (L : Addr) (m : Str → Option Value) (s : Shared) (news : List (Addr × Obj)) (s' : Shared) : Prop :=
  ∃ h' tk', s' = { s with heap := h', toks := tk' } ∧ Fr h₀ L h' m ∧ News h₀ L h' news
theorem Same.intro {h₀ h' : Heap} {L : Addr} {m : Str → Option Value} {s : Shared} {news : List (Addr × Obj)} {tk' : Nat} (F : Fr h₀ L h' m) (N : News h₀ L h' news) : Same h₀ L m s news { s with heap := h', toks := tk' } := ⟨h', tk', rfl, F, N⟩
section
variable {prog : Program} {w : World} {A : Around} {s : Shared} {h₀ : Heap} {L : Addr} {m : Str → Option Value} {env : Env}
theorem compT_filter {ct elt : Expr} {x : Str} {scope : Scope} {cl : List (Str × Addr)} {S : List (Addr × Obj) → Prop} {Fin : List Value → List (Addr × Obj) → Prop} {its : Array Value} {news : List (Addr × Obj)}
    (keep : Value → Bool) (hS : S news)
    (htest : ∀ v I oI C oC D ys m₂ h tk (E' : Value → Shared → Prop), v ∈ its.toList → LCg.NsObj oC m₂ → m₂ x = some v → Fr h₀ L h m → News h₀ L h ((I, oI) :: (C, oC) :: (D, LCg.lst ys) :: news) → LCg.Off3 I C D news → ((@Ne Nat I C) ∧ (@Ne Nat I D) ∧ (@Ne Nat C D)) →
      wpAny (model prog w) A (isTrue ct (compEnvC scope cl C env) (eval ct (compEnvC scope cl C env))) (fun ok s' => ok = keep v ∧ Same h₀ L m s ((I, oI) :: (C, oC) :: (D, LCg.lst ys) :: news) s') E' { s with heap := h, toks := tk })
    (helt : ∀ v I oI C oC D ys m₂ h tk (E' : Value → Shared → Prop), v ∈ its.toList → keep v = true → LCg.NsObj oC m₂ → m₂ x = some v → Fr h₀ L h m → News h₀ L h ((I, oI) :: (C, oC) :: (D, LCg.lst ys) :: news) → LCg.Off3 I C D news → ((@Ne Nat I C) ∧ (@Ne Nat I D) ∧ (@Ne Nat C D)) →
      wpAny (model prog w) A (eval elt (compEnvC scope cl C env)) (fun y s' => y = v ∧ Same h₀ L m s ((I, oI) :: (C, oC) :: (D, LCg.lst ys) :: news) s') E' { s with heap := h, toks := tk })
    (fin : ∀ ys, ys = its.toList.filter keep → Fin ys news) :
    LCt.CompRestT prog w A h₀ L m env ct elt x scope cl s S (fun i v => its[i]? = some v) Fin its.size 0 [] news := by
  have go : ∀ k i, i + k = its.size → LCt.CompRestT prog w A h₀ L m env ct elt x scope cl s S (fun i v => its[i]? = some v) Fin k i ((its.toList.take i).filter keep) news := by
    intro k
    induction k with
    | zero =>
      intro i hi
      have : its.toList.take i = its.toList := List.take_of_length_le (by simp; omega)
      rw [this]
      exact fin _ rfl
    | succ k ih =>
      intro i hi v I oI C oC D m₂ h tk E' hv hoC hx F N off ne
      have hmem : v ∈ its.toList := List.mem_of_getElem? (by simpa using hv)
      have hnext := ih (i + 1) (by omega)
      have htake : (its.toList.take (i + 1)).filter keep = (its.toList.take i).filter keep ++ (if keep v = true then [v] else []) := by
        rw [List.take_add_one, List.filter_append]
        congr 1
        have : its.toList[i]? = some v := by simpa using hv
        rw [this]
        cases hk : keep v <;> simp [hk]
      rw [htake] at hnext
      refine wpAny_mono (htest v I oI C oC D _ m₂ h tk E' hmem hoC hx F N off ne) (fun ok s' h' => ?_) fun _ _ e => e
      obtain ⟨hok, h₁, tk₁, rfl, F₁, N₁⟩ := h'
      rw [hok]
      split
      · rename_i hk
        refine wpAny_mono (helt v I oI C oC D _ m₂ h₁ tk₁ E' hmem hk hoC hx F₁ N₁ off ne) (fun y s' h' => ?_) fun _ _ e => e
        obtain ⟨rfl, h₂, tk₂, rfl, F₂, N₂⟩ := h'
        rw [if_pos hk] at hnext
        exact ⟨h₂, tk₂, news, rfl, F₂, N₂, off, hS, hnext⟩
      · rename_i hk
        rw [if_neg hk, List.append_nil] at hnext
        exact ⟨h₁, tk₁, news, rfl, F₁, N₁, off, hS, hnext⟩
  simpa using go its.size 0 (by omega)
end
end
-- P1
section
theorem reg_none_P1 : True := by
  w_top off
  k_with_none
  trivial
theorem len_join {sep c : Str} : ∀ {l : List Str}, c ∈ l → c.length ≤ (Str.join sep l).length
  | [], h => nomatch h
  | [a], h => by
    rw [List.mem_singleton.mp h]
    show a.length ≤ (Str.join sep [a]).length
    simp [Str.join]
  | a :: b :: r, h => by
    have e : Str.join sep (a :: b :: r) = a ++ sep ++ Str.join sep (b :: r) := by first | rfl | simp [Str.join]
    rw [e, Str.length_append, Str.length_append]
    rcases List.mem_cons.mp h with rfl | h
    · omega
    · have := len_join (sep := sep) h
      omega
theorem part_len {l : List (Str × Tok)} {x sep c : Str} {t : Tok} (h : (c, t) ∈ l) (e : l.map (·.1) = Txt.split x sep) (hx : x.length ≤ 100) : c.length ≤ 100 := by
  have h1 : c ∈ Txt.split x sep := e ▸ List.mem_map.mpr ⟨_, h, rfl⟩
  have h2 := len_join (sep := sep) h1
  rw [StrLaws.join_split] at h2
  omega
end
-- R1
section
theorem reg_none_R1 : True := by
  w_top off
  k_with_none
  trivial
/-- the order of pairs (int, text) -/
noncomputable def ltK (a b : Int × Str) : Bool := if a.1 = b.1 then (if a.2 = b.2 then false else decide (a.2.cps.toList < b.2.cps.toList)) else decide (a.1 < b.1)
section
variable {prog : Program} {w : World} {A : Around} {E : Value → Shared → Prop} {s : Shared}
theorem rlt_int {a b : Int} {t u : Tok} {Q : Value → Shared → Prop} (h : Q (.bool (decide (a < b))) s) : wpAny (model prog w) A (richCompare .Lt (.int a t) (.int b u)) Q E s := wpAny_lt_int h
theorem rlt_str {x y : Str} {t u : Tok} {Q : Value → Shared → Prop} (h : Q (.bool (x.cps.toList < y.cps.toList)) s) : wpAny (model prog w) A (richCompare .Lt (.str x t) (.str y u)) Q E s := PyProof.Rows.lt_str h
theorem eqb_int2 {a b : Int} {t u : Tok} {Q : Bool → Shared → Prop} (h : (a = b → Q true s) ∧ (a ≠ b → Q false s)) : wpAny (model prog w) A (eqBool (.int a t) (.int b u)) Q E s := wpAny_eqBool_int (by
  by_cases e : a = b
  · rw [beq_iff_eq.mpr e]; exact h.1 e
  · rw [beq_eq_false_iff_ne.mpr e]; exact h.2 e)
theorem eqb_str2 {a b : Str} {t u : Tok} {Q : Bool → Shared → Prop} (h : (a = b → Q true s) ∧ (a ≠ b → Q false s)) : wpAny (model prog w) A (eqBool (.str a t) (.str b u)) Q E s := eqBool_str (by
  by_cases e : a = b
  · rw [beq_iff_eq.mpr e]; exact h.1 e
  · rw [beq_eq_false_iff_ne.mpr e]; exact h.2 e)
end
open SeqAt AutoSeq1 MeetsSeq MeetsSeq2 MeetsSeq3 SeqRoads2 in
theorem tuple_ltAt (l b : Addr) (k1 k2 : Int) (p1 p2 : Str) (t1 t2 u1 u2 : Tok) (n n2 : Nat) (dd dd2 : Option Addr) (sl sl2 : Array (Option Value)) :
    Meets (Builtin.«tuple.__lt__» ⟨[.ref l, .ref b], []⟩)
      (fun A R s => s.heap.get? l = some { cls := .type "tuple", dict := dd, data := .seq #[.int k1 t1, .str p1 u1] n, slots := sl } ∧ s.heap.get? b = some { cls := .type "tuple", dict := dd2, data := .seq #[.int k2 t2, .str p2 u2] n2, slots := sl2 } ∧
        R (.ok (.ret (.bool (ltK (k1, p1) (k2, p2))))) s) :=
  .of_wp fun prog w A R s h => by
    obtain ⟨hp, g, d, tk, os⟩ := s; obtain ⟨hl, hb, h⟩ := h
    have f2 := AutoSeq1.sub_tuple_tuple
    simp only [ltK] at h
    wp_walk using wpAny_loadPart' hl, wpAny_loadPart' hb, eqb_int2
    refine ⟨fun hk => ?_, fun hk => ?_⟩
    · rw [if_pos hk] at h
      wp_walk using eqb_str2
      refine ⟨fun hq => ?_, fun hq => ?_⟩
      · rw [if_pos hq] at h
        wp_walk
        exact ⟨_, rfl, h⟩
      · rw [if_neg hq] at h
        wp_walk using rlt_str
        exact ⟨_, rfl, h⟩
    · rw [if_neg hk] at h
      wp_walk using rlt_int
      exact ⟨_, rfl, h⟩
section
variable {prog : Program} {w : World} {A : Around} {E : Value → Shared → Prop} {s : Shared}
/-- a pair (int, text) lies at v -/
noncomputable def PairAt (h : Heap) (v : Value) (k : Int × Str) : Prop := ∃ a t u, v = .ref a ∧ h.IsTuple a #[.int k.1 t, .str k.2 u]
theorem PairAt.keep {h h' : Heap} {v : Value} {k : Int × Str} (x : PairAt h v k) (K : ∀ b o, h.get? b = some o → h'.get? b = some o) : PairAt h' v k := by
  obtain ⟨a, t, u, e, o, ho, r⟩ := x
  exact ⟨a, t, u, e, o, K _ _ ho, r⟩
theorem lt_pair {v w' : Value} {k1 k2 : Int × Str} {Q : Value → Shared → Prop} (hl : PairAt s.heap v k1) (hb : PairAt s.heap w' k2) (hu : A.units < cLine)
    (h : Q (.bool (ltK k1 k2)) s) : wpAny (model prog w) A (compareOp .Lt v w') Q E s := by
  obtain ⟨a, t1, u1, rfl, ⟨cls, dd, data, sl⟩, ho, hc, n, hd⟩ := hl
  obtain ⟨b, t2, u2, rfl, ⟨cls2, dd2, data2, sl2⟩, ho2, hc2, n2, hd2⟩ := hb
  simp only at hc hd hc2 hd2
  subst hc hd hc2 hd2
  exact cmp_ofLt (richCompare_meets_room (op := .Lt) ⟨_, ho, rfl⟩ ⟨_, ho2, rfl⟩ F.slot_tuple_lt F.entry_tuple_lt (F.args_tuple_lt_2 _ _) (tuple_ltAt a b k1.1 k2.1 k1.2 k2.2 t1 t2 u1 u2 n n2 dd dd2 sl sl2)
    ⟨ho, ho2, show Value.bool (ltK k1 k2) ≠ Value.notImplemented ∧ Q (.bool (ltK k1 k2)) s from ⟨(fun x => nomatch x), h⟩⟩ hu)
end
end
-- M1
section
theorem reg_none_M1 : True := by
  w_top off
  k_with_none
  trivial
/-- the order of lists of texts -/
noncomputable def ltL : List Str → List Str → Bool
  | _, [] => false
  | [], _ :: _ => true
  | x :: xs, y :: ys => if x = y then ltL xs ys else decide (x.cps.toList < y.cps.toList)
/-- a list of texts lies at a -/
noncomputable def TxtsAt (h : Heap) (a : Addr) (xs : List Str) : Prop := ∃ l : List (Str × Tok), l.map (·.1) = xs ∧ ∃ o, h.get? a = some o ∧ o.cls = .type "list" ∧ ∃ n, o.data = .seq (strValues l).toArray n
theorem TxtsAt.keep {h h' : Heap} {a : Addr} {xs : List Str} (x : TxtsAt h a xs) (K : ∀ o, h.get? a = some o → h'.get? a = some o) : TxtsAt h' a xs := by
  obtain ⟨l, e, o, ho, r⟩ := x
  exact ⟨l, e, o, K _ ho, r⟩
theorem strv_get {l : List (Str × Tok)} {i : Nat} {p : Str × Tok} (h : l[i]? = some p) : (strValues l).toArray[((i : Nat) : Int).toNat]? = some (.str p.1 p.2) := by
  simp [strValues, h]
theorem strv_none {l : List (Str × Tok)} {i : Nat} (h : l.length ≤ i) : (strValues l).toArray[((i : Nat) : Int).toNat]? = none := by
  simp [strValues]; omega
theorem strv_size {l : List (Str × Tok)} : (strValues l).toArray.size = l.length := by simp [strValues]
theorem plain_eql : plainId "list.__eq__.loop" = true := by decide +kernel
theorem entry_eql : entryFor table "list.__eq__.loop" = some Builtin.«list.__eq__.loop» := entryFor_of_fast (by kernel_rfl)
theorem rgt_str {prog : Program} {w : World} {A : Around} {E : Value → Shared → Prop} {s : Shared} {x y : Str} {t u : Tok} {Q : Value → Shared → Prop} (h : Q (.bool (y.cps.toList < x.cps.toList)) s) : wpAny (model prog w) A (richCompare .Gt (.str x t) (.str y u)) Q E s := PySem.P.gt_str h
theorem map_drop {l : List (Str × Tok)} {i : Nat} {p : Str × Tok} (h : l[i]? = some p) : (l.map (·.1)).drop i = p.1 :: (l.map (·.1)).drop (i + 1) := by
  obtain ⟨hi, e⟩ := List.getElem?_eq_some_iff.mp h
  rw [List.drop_eq_getElem_cons (by simpa using hi)]
  simp [e]
theorem map_drop_nil {l : List (Str × Tok)} {i : Nat} (h : l.length ≤ i) : (l.map (·.1)).drop i = [] := by simpa using h
theorem ltL_nil (xs : List Str) : ltL xs [] = false := by cases xs <;> rfl
open SeqAt AutoSeq1 MeetsSeq MeetsSeq2 MeetsSeq3 SeqRoads2 in
theorem lt_loop (l b : Addr) (xs ys : List (Str × Tok)) (n n2 : Nat) (dd dd2 : Option Addr) (sl sl2 : Array (Option Value)) (k : Nat) :
    ∀ i : Nat, xs.length - i = k → i ≤ xs.length → i ≤ ys.length → Meets (Builtin.«list.__eq__.loop» ⟨[.ref l, .ref b, rawInt i, rawInt 0], []⟩)
      (fun _ R s => s.heap.get? l = some { cls := .type "list", dict := dd, data := .seq (strValues xs).toArray n, slots := sl } ∧ s.heap.get? b = some { cls := .type "list", dict := dd2, data := .seq (strValues ys).toArray n2, slots := sl2 } ∧
        R (.ok (.ret (.bool (ltL ((xs.map (·.1)).drop i) ((ys.map (·.1)).drop i))))) s) := by
  induction k with
  | zero =>
    intro i hk h1 h2 prog w A R s h
    obtain ⟨hp, g, d, tk, os⟩ := s; obtain ⟨hl, hb, h⟩ := h
    have hi : i = xs.length := by omega
    wp_walk using wpAny_loadPart' hl, wpAny_loadPart' hb
    have e1 := strv_none (l := xs) (i := i) (by omega)
    rw [map_drop_nil (l := xs) (by omega)] at h
    have fin : ltL [] ((ys.map (·.1)).drop i) = decide (xs.length < ys.length) := by
      cases e : (ys.map (·.1)).drop i with
      | nil => have := congrArg List.length e; simp at this; simp [ltL]; omega
      | cons a r => have := congrArg List.length e; simp at this; simp [ltL]; omega
    rw [fin] at h
    rw [e1]
    rcases Option.eq_none_or_eq_some (strValues ys).toArray[((i : Nat) : Int).toNat]? with e2 | ⟨v2, e2⟩ <;> rw [e2]
    all_goals
      wp_walk using wpAny_loadPart' hl, wpAny_loadPart' hb
      show R (.ok (.ret (.bool (decide ((strValues xs).toArray.size < (strValues ys).toArray.size))))) _
      rw [strv_size, strv_size]
      exact h
  | succ k ih =>
    intro i hk h1 h2 prog w A R s h
    obtain ⟨hp, g, d, tk, os⟩ := s; obtain ⟨hl, hb, h⟩ := h
    wp_walk using wpAny_loadPart' hl, wpAny_loadPart' hb
    have hlt : i < xs.length := by omega
    obtain ⟨p, hp1⟩ : ∃ p, xs[i]? = some p := ⟨_, List.getElem?_eq_getElem hlt⟩
    rw [strv_get hp1]
    rw [map_drop hp1] at h
    by_cases hlt2 : i < ys.length
    · obtain ⟨q, hq1⟩ : ∃ q, ys[i]? = some q := ⟨_, List.getElem?_eq_getElem hlt2⟩
      rw [strv_get hq1]
      rw [map_drop hq1] at h
      have hc : ((i : Int) + 1) = ((i + 1 : Nat) : Int) := by push_cast; rfl
      refine wpAny_bind (eqb_str2 ⟨fun he => ?_, fun he => ?_⟩)
      · rw [ltL, if_pos he] at h
        wp_walk
        rw [hc]
        exact ⟨plainId_quiet plain_eql _, codeAny_builtin entry_eql (by
          rw [Around.under_plainId plain_eql _]
          exact ih (i + 1) (by omega) (by omega) (by omega) prog w A R _ ⟨hl, hb, h⟩)⟩
      · rw [ltL, if_neg he] at h
        wp_walk using wpAny_loadPart' hl, wpAny_loadPart' hb
        rw [strv_get hp1, strv_get hq1]
        dsimp only
        wp_walk using rlt_str
        exact h
    · rw [strv_none (l := ys) (by omega)]
      rw [map_drop_nil (l := ys) (by omega), ltL_nil] at h
      wp_walk using wpAny_loadPart' hl, wpAny_loadPart' hb
      show R (.ok (.ret (.bool (decide ((strValues xs).toArray.size < (strValues ys).toArray.size))))) _
      rw [strv_size, strv_size]
      have : decide (xs.length < ys.length) = false := by simp; omega
      rw [this]
      exact h
open SeqAt AutoSeq1 MeetsSeq MeetsSeq2 MeetsSeq3 SeqRoads2 in
theorem list_ltAt (l b : Addr) (xs ys : List (Str × Tok)) (n n2 : Nat) (dd dd2 : Option Addr) (sl sl2 : Array (Option Value)) :
    Meets (Builtin.«list.__lt__» ⟨[.ref l, .ref b], []⟩)
      (fun _ R s => s.heap.get? l = some { cls := .type "list", dict := dd, data := .seq (strValues xs).toArray n, slots := sl } ∧ s.heap.get? b = some { cls := .type "list", dict := dd2, data := .seq (strValues ys).toArray n2, slots := sl2 } ∧
        R (.ok (.ret (.bool (ltL (xs.map (·.1)) (ys.map (·.1)))))) s) := by
  intro prog w A R s h
  obtain ⟨hp, g, d, tk, os⟩ := s; obtain ⟨hl, hb, h⟩ := h
  have f3 := AutoSeq1.sub_list_list
  wp_walk using wpAny_loadPart' hl, wpAny_loadPart' hb
  exact ⟨plainId_quiet plain_eql _, codeAny_builtin entry_eql (by
    rw [Around.under_plainId plain_eql _]
    exact lt_loop l b xs ys n n2 dd dd2 sl sl2 _ 0 rfl (Nat.zero_le _) (Nat.zero_le _) prog w A R _ ⟨hl, hb, by simpa using h⟩)⟩
theorem lt_txts {prog : Program} {w : World} {A : Around} {E : Value → Shared → Prop} {s : Shared} {l b : Addr} {xs ys : List Str} {Q : Value → Shared → Prop} (hl : TxtsAt s.heap l xs) (hb : TxtsAt s.heap b ys) (hu : A.units < cLine)
    (h : Q (.bool (ltL xs ys)) s) : wpAny (model prog w) A (richCompare .Lt (.ref l) (.ref b)) Q E s := by
  obtain ⟨lx, rfl, ⟨cls, dd, data, sl⟩, ho, hc, n, hd⟩ := hl
  obtain ⟨ly, rfl, ⟨cls2, dd2, data2, sl2⟩, ho2, hc2, n2, hd2⟩ := hb
  simp only at hc hd hc2 hd2
  subst hc hd hc2 hd2
  exact richCompare_meets_room (op := .Lt) ⟨_, ho, rfl⟩ ⟨_, ho2, rfl⟩ F.slot_list_lt F.entry_list_lt (F.args_list_lt_2 _ _) (list_ltAt l b lx ly n n2 dd dd2 sl sl2)
    ⟨ho, ho2, show Value.bool (ltL _ _) ≠ Value.notImplemented ∧ Q (.bool (ltL _ _)) s from ⟨(fun x => nomatch x), h⟩⟩ hu
open SeqAt AutoSeq1 MeetsSeq MeetsSeq2 MeetsSeq3 SeqRoads2 in
theorem gt_loop (l b : Addr) (xs ys : List (Str × Tok)) (n n2 : Nat) (dd dd2 : Option Addr) (sl sl2 : Array (Option Value)) (k : Nat) :
    ∀ i : Nat, ys.length - i = k → i ≤ xs.length → i ≤ ys.length → Meets (Builtin.«list.__eq__.loop» ⟨[.ref l, .ref b, rawInt i, rawInt 4], []⟩)
      (fun _ R s => s.heap.get? l = some { cls := .type "list", dict := dd, data := .seq (strValues xs).toArray n, slots := sl } ∧ s.heap.get? b = some { cls := .type "list", dict := dd2, data := .seq (strValues ys).toArray n2, slots := sl2 } ∧
        R (.ok (.ret (.bool (ltL ((ys.map (·.1)).drop i) ((xs.map (·.1)).drop i))))) s) := by
  induction k with
  | zero =>
    intro i hk h1 h2 prog w A R s h
    obtain ⟨hp, g, d, tk, os⟩ := s; obtain ⟨hl, hb, h⟩ := h
    have hi : i = ys.length := by omega
    wp_walk using wpAny_loadPart' hl, wpAny_loadPart' hb
    have e1 := strv_none (l := ys) (i := i) (by omega)
    rw [map_drop_nil (l := ys) (by omega)] at h
    have fin : ltL [] ((xs.map (·.1)).drop i) = decide (ys.length < xs.length) := by
      cases e : (xs.map (·.1)).drop i with
      | nil => have := congrArg List.length e; simp at this; simp [ltL]; omega
      | cons a r => have := congrArg List.length e; simp at this; simp [ltL]; omega
    rw [fin] at h
    rw [e1]
    rcases Option.eq_none_or_eq_some (strValues xs).toArray[((i : Nat) : Int).toNat]? with e2 | ⟨v2, e2⟩ <;> rw [e2]
    all_goals
      wp_walk using wpAny_loadPart' hl, wpAny_loadPart' hb
      show R (.ok (.ret (.bool (decide ((strValues xs).toArray.size > (strValues ys).toArray.size))))) _
      rw [strv_size, strv_size]
      exact h
  | succ k ih =>
    intro i hk h1 h2 prog w A R s h
    obtain ⟨hp, g, d, tk, os⟩ := s; obtain ⟨hl, hb, h⟩ := h
    wp_walk using wpAny_loadPart' hl, wpAny_loadPart' hb
    have hlt : i < ys.length := by omega
    obtain ⟨p, hp1⟩ : ∃ p, ys[i]? = some p := ⟨_, List.getElem?_eq_getElem hlt⟩
    rw [strv_get hp1]
    rw [map_drop hp1] at h
    by_cases hlt2 : i < xs.length
    · obtain ⟨q, hq1⟩ : ∃ q, xs[i]? = some q := ⟨_, List.getElem?_eq_getElem hlt2⟩
      rw [strv_get hq1]
      rw [map_drop hq1] at h
      have hc : ((i : Int) + 1) = ((i + 1 : Nat) : Int) := by push_cast; rfl
      refine wpAny_bind (eqb_str2 ⟨fun he => ?_, fun he => ?_⟩)
      · rw [ltL, if_pos he.symm] at h
        wp_walk
        rw [hc]
        exact ⟨plainId_quiet plain_eql _, codeAny_builtin entry_eql (by
          rw [Around.under_plainId plain_eql _]
          exact ih (i + 1) (by omega) (by omega) (by omega) prog w A R _ ⟨hl, hb, h⟩)⟩
      · rw [ltL, if_neg (fun q => he q.symm)] at h
        wp_walk using wpAny_loadPart' hl, wpAny_loadPart' hb
        rw [strv_get hp1, strv_get hq1]
        dsimp only
        wp_walk using rgt_str
        exact h
    · rw [strv_none (l := xs) (by omega)]
      rw [map_drop_nil (l := xs) (by omega), ltL_nil] at h
      wp_walk using wpAny_loadPart' hl, wpAny_loadPart' hb
      show R (.ok (.ret (.bool (decide ((strValues xs).toArray.size > (strValues ys).toArray.size))))) _
      rw [strv_size, strv_size]
      have : decide (ys.length < xs.length) = false := by simp; omega
      rw [this]
      exact h
open SeqAt AutoSeq1 MeetsSeq MeetsSeq2 MeetsSeq3 SeqRoads2 in
theorem list_gtAt (l b : Addr) (xs ys : List (Str × Tok)) (n n2 : Nat) (dd dd2 : Option Addr) (sl sl2 : Array (Option Value)) :
    Meets (Builtin.«list.__gt__» ⟨[.ref l, .ref b], []⟩)
      (fun _ R s => s.heap.get? l = some { cls := .type "list", dict := dd, data := .seq (strValues xs).toArray n, slots := sl } ∧ s.heap.get? b = some { cls := .type "list", dict := dd2, data := .seq (strValues ys).toArray n2, slots := sl2 } ∧
        R (.ok (.ret (.bool (ltL (ys.map (·.1)) (xs.map (·.1)))))) s) := by
  intro prog w A R s h
  obtain ⟨hp, g, d, tk, os⟩ := s; obtain ⟨hl, hb, h⟩ := h
  have f3 := AutoSeq1.sub_list_list
  wp_walk using wpAny_loadPart' hl, wpAny_loadPart' hb
  exact ⟨plainId_quiet plain_eql _, codeAny_builtin entry_eql (by
    rw [Around.under_plainId plain_eql _]
    exact gt_loop l b xs ys n n2 dd dd2 sl sl2 _ 0 rfl (Nat.zero_le _) (Nat.zero_le _) prog w A R _ ⟨hl, hb, by simpa using h⟩)⟩
theorem gt_txts {prog : Program} {w : World} {A : Around} {E : Value → Shared → Prop} {s : Shared} {l b : Addr} {xs ys : List Str} {Q : Value → Shared → Prop} (hl : TxtsAt s.heap l xs) (hb : TxtsAt s.heap b ys) (hu : A.units < cLine)
    (h : Q (.bool (ltL ys xs)) s) : wpAny (model prog w) A (richCompare .Gt (.ref l) (.ref b)) Q E s := by
  obtain ⟨lx, rfl, ⟨cls, dd, data, sl⟩, ho, hc, n, hd⟩ := hl
  obtain ⟨ly, rfl, ⟨cls2, dd2, data2, sl2⟩, ho2, hc2, n2, hd2⟩ := hb
  simp only at hc hd hc2 hd2
  subst hc hd hc2 hd2
  exact richCompare_meets_room (op := .Gt) ⟨_, ho, rfl⟩ ⟨_, ho2, rfl⟩ F.slot_list_gt F.entry_list_gt (F.args_list_gt_2 _ _) (list_gtAt l b lx ly n n2 dd dd2 sl sl2)
    ⟨ho, ho2, show Value.bool (ltL _ _) ≠ Value.notImplemented ∧ Q (.bool (ltL _ _)) s from ⟨(fun x => nomatch x), h⟩⟩ hu
/-- min | max of a list of two lists of texts -/
theorem call_min_txts {prog : Program} {w : World} {A : Around} {E : Value → Shared → Prop} {s : Shared} {D a b : Addr} {xs ys : List Str} {Q : Value → Shared → Prop} (hh : A.handled = none)
    (hD : s.heap.IsList D #[.ref a, .ref b]) (ha : TxtsAt s.heap a xs) (hb : TxtsAt s.heap b ys) (hu : A.in1.units < cLine)
    (h : ∀ h' tk, (∀ c o, s.heap.get? c = some o → h'.get? c = some o) → Q (.ref (if ltL ys xs = true then b else a)) { s with heap := h', toks := tk }) :
    wpAny (model prog w) A (call (.builtin "min") [.ref D]) Q E s := by
  have hname : (toString "min" ++ toString ".loop" : String) = "min.loop" := by decide
  refine call_function_tree F.kind_min F.plain_min F.entry_min (F.args_min1 _) ?_
  show wpAny _ A.in1 (Builtin.Builtins.bindParams "min" ["key", "default"] 0 ⟨[], []⟩ >>= _) _ _ s
  refine wpAny_bind (wpAny_of_eq (show Builtin.Builtins.bindParams "min" ["key", "default"] 0 ⟨[], []⟩ = pure [none, none] from rfl) ?_)
  refine wpAny_bind (wpAny_pure ?_)
  refine wpAny_bind (wpAny_pyIter_list hD ?_)
  refine wpAny_bind (wpAny_newObj_type ?_)
  rw [hname]
  have k0 : ∀ c o, s.heap.get? c = some o → ((s.heap.push { cls := .type "list_iterator", data := .fields #[.ref D, .int 0 0] }).push { cls := .type "list", data := .seq #[] }).get? c = some o := fun c o e => Heap.get?_push_of_some _ (Heap.get?_push_of_some _ e)
  have hI0 : s.heap.objs.size < (s.heap.push { cls := .type "list_iterator", data := .fields #[.ref D, .int 0 0] }).objs.size := by rw [Heap.size_push]; exact Nat.lt_succ_self _
  have hS0 : ((s.heap.push { cls := .type "list_iterator", data := .fields #[.ref D, .int 0 0] }).push { cls := .type "list", data := .seq #[] }).get? (s.heap.push { cls := .type "list_iterator", data := .fields #[.ref D, .int 0 0] }).objs.size = some { cls := .type "list", dict := none, data := .seq #[] 0, slots := #[] } := Heap.get?_push_size _ rfl
  have st0 : ((s.heap.push { cls := .type "list_iterator", data := .fields #[.ref D, .int 0 0] }).push { cls := .type "list", data := .seq #[] }).IsListIter s.heap.objs.size D 0 := ⟨_, Heap.get?_push_of_some _ (Heap.get?_push_size _ rfl), rfl, rfl⟩
  have hne : D ≠ s.heap.objs.size := by obtain ⟨_, e, _⟩ := hD; exact Nat.ne_of_lt (Heap.lt_size e)
  have old : ∀ c o, s.heap.get? c = some o → c ≠ s.heap.objs.size ∧ c ≠ (s.heap.push { cls := .type "list_iterator", data := .fields #[.ref D, .int 0 0] }).objs.size := fun c o e => ⟨Nat.ne_of_lt (Heap.lt_size e), Nat.ne_of_lt (Nat.lt_trans (Heap.lt_size e) hI0)⟩
  generalize (s.heap.push { cls := .type "list_iterator", data := .fields #[.ref D, .int 0 0] }).objs.size = S at *
  generalize ((s.heap.push { cls := .type "list_iterator", data := .fields #[.ref D, .int 0 0] }).push { cls := .type "list", data := .seq #[] }) = g₀ at *
  have hSI : S ≠ s.heap.objs.size := Nat.ne_of_gt hI0
  generalize s.heap.objs.size = I at *
  have W := Walks.list (prog := prog) (w := w) (A := A.in1) hh I D hne #[.ref a, .ref b]
  -- turn 1
  refine wpAny_pure ⟨plainId_quiet F.plain_min_loop _, codeAny_builtin F.entry_min_loop ?_⟩
  rw [Around.under_plainId F.plain_min_loop _]
  show wpAny _ A.in1 (seqItems? (.ref S) >>= _) _ _ _
  refine wpAny_bind (wpAny_seqItems hS0 rfl ?_)
  show wpAny _ A.in1 (tryCatch (pyNext (.ref I)) _ >>= _) _ _ _
  refine wpAny_bind (wpAny_tryCatch (W.item 0 _ _ _ (Nat.zero_lt_succ _) ⟨st0, hD.at (k0 _)⟩ fun v h1 tk1 hP st1 k1 => ?_))
  obtain rfl : v = .ref a := (Option.some.inj hP).symm
  have nS : S ∉ [I] := by simpa using hSI
  have hS1 := k1 S _ nS hS0
  show wpAny _ A.in1 (updateSeq S (fun _ => #[.ref a, .ref a]) >>= _) _ _ _
  refine wpAny_bind (wpAny_updateSeq hS1 rfl ?_)
  rw [hname]
  have u1 : ∀ c o, s.heap.get? c = some o → (h1.update S (Obj.mapSeq fun _ => #[.ref a, .ref a])).get? c = some o := fun c o e => (Heap.get?_update_other _ _ (Ne.symm (old c o e).2)).trans (k1 c o (by simpa using (old c o e).1) (k0 c o e))
  have hS1' := Heap.get?_update_self (Obj.mapSeq fun _ => #[Value.ref a, Value.ref a]) hS1 rfl
  have st1' := W.frame _ _ (h1.update S (Obj.mapSeq fun _ => #[.ref a, .ref a])) st1 fun c hc o e => (Heap.get?_update_other _ _ (by
    rintro rfl
    rcases List.mem_cons.mp hc with q | q
    · exact hSI q
    · obtain ⟨_, e2, _⟩ := hD
      exact (old _ _ e2).2 (List.mem_singleton.mp q).symm)).trans e
  generalize (h1.update S (Obj.mapSeq fun _ => #[.ref a, .ref a])) = g₁ at *
  clear k1 hS1 st1
  -- turn 2
  refine wpAny_pure ⟨plainId_quiet F.plain_min_loop _, codeAny_builtin F.entry_min_loop ?_⟩
  rw [Around.under_plainId F.plain_min_loop _]
  show wpAny _ A.in1 (seqItems? (.ref S) >>= _) _ _ _
  refine wpAny_bind (wpAny_seqItems hS1' rfl ?_)
  show wpAny _ A.in1 (tryCatch (pyNext (.ref I)) _ >>= _) _ _ _
  refine wpAny_bind (wpAny_tryCatch (W.item 1 _ _ _ (Nat.lt_succ_self _) st1' fun v h2 tk2 hP st2 k2 => ?_))
  obtain rfl : v = .ref b := (Option.some.inj hP).symm
  have hS2 := k2 S _ nS hS1'
  show wpAny _ A.in1 (tryCatch (holding [.ref b, .ref b] (richCompare .Lt (.ref b) (.ref a) >>= _)) _ >>= _) _ _ _
  refine wpAny_bind (wpAny_tryCatch (wpAny_holding (wpAny_bind (lt_txts (hb.keep fun o e => k2 _ o (by simpa using (old _ o e).1) (u1 _ o e)) (ha.keep fun o e => k2 _ o (by simpa using (old _ o e).1) (u1 _ o e)) hu ?_))))
  refine wpAny_bind (wpAny_holding (wpAny_truthy_bool ?_))
  refine wpAny_bind (wpAny_letGo (wpAny_pure ?_))
  cases hlt : ltL ys xs with
  | true =>
    rw [hlt] at h
    simp only [if_true] at h ⊢
    refine wpAny_bind (wpAny_updateSeq hS2 rfl (wpAny_bind (wpAny_letGo ?_)))
    rw [hname]
    have hS3 := Heap.get?_update_self (Obj.mapSeq fun _ => #[Value.ref b, Value.ref b]) hS2 rfl
    have u2 : ∀ c o, s.heap.get? c = some o → (h2.update S (Obj.mapSeq fun _ => #[.ref b, .ref b])).get? c = some o := fun c o e => (Heap.get?_update_other _ _ (Ne.symm (old c o e).2)).trans (k2 c o (by simpa using (old c o e).1) (u1 c o e))
    have st3 := W.frame _ _ (h2.update S (Obj.mapSeq fun _ => #[.ref b, .ref b])) st2 fun c hc o e => (Heap.get?_update_other _ _ (by
      rintro rfl
      rcases List.mem_cons.mp hc with q | q
      · exact hSI q
      · obtain ⟨_, e2, _⟩ := hD
        exact (old _ _ e2).2 (List.mem_singleton.mp q).symm)).trans e
    generalize (h2.update S (Obj.mapSeq fun _ => #[.ref b, .ref b])) = g₂ at *
    refine wpAny_pure ⟨plainId_quiet F.plain_min_loop _, codeAny_builtin F.entry_min_loop ?_⟩
    rw [Around.under_plainId F.plain_min_loop _]
    show wpAny _ A.in1 (seqItems? (.ref S) >>= _) _ _ _
    refine wpAny_bind (wpAny_seqItems hS3 rfl ?_)
    show wpAny _ A.in1 (tryCatch (pyNext (.ref I)) _ >>= _) _ _ _
    refine wpAny_bind (wpAny_tryCatch (W.done _ _ _ st3 fun h4 tk4 k4 => ?_))
    show wpAny _ A.in1 (updateSeq S (fun _ => #[]) >>= _) _ _ _
    refine wpAny_bind (wpAny_updateSeq (k4 S _ nS hS3) rfl (wpAny_bind (wpAny_letGo (wpAny_pure ?_))))
    exact h _ tk4 fun c o e => (Heap.get?_update_other _ _ (Ne.symm (old c o e).2)).trans (k4 c o (by simpa using (old c o e).1) (u2 c o e))
  | false =>
    rw [hlt] at h
    simp only [Bool.false_eq_true, if_false] at h ⊢
    refine wpAny_bind (wpAny_letGo ?_)
    rw [hname]
    refine wpAny_pure ⟨plainId_quiet F.plain_min_loop _, codeAny_builtin F.entry_min_loop ?_⟩
    rw [Around.under_plainId F.plain_min_loop _]
    show wpAny _ A.in1 (seqItems? (.ref S) >>= _) _ _ _
    refine wpAny_bind (wpAny_seqItems hS2 rfl ?_)
    show wpAny _ A.in1 (tryCatch (pyNext (.ref I)) _ >>= _) _ _ _
    refine wpAny_bind (wpAny_tryCatch (W.done _ _ _ st2 fun h4 tk4 k4 => ?_))
    show wpAny _ A.in1 (updateSeq S (fun _ => #[]) >>= _) _ _ _
    refine wpAny_bind (wpAny_updateSeq (k4 S _ nS hS2) rfl (wpAny_bind (wpAny_letGo (wpAny_pure ?_))))
    exact h _ tk4 fun c o e => (Heap.get?_update_other _ _ (Ne.symm (old c o e).2)).trans (k4 c o (by simpa using (old c o e).1) (k2 c o (by simpa using (old c o e).1) (u1 c o e)))
/-- min | max of a list of two lists of texts -/
theorem call_max_txts {prog : Program} {w : World} {A : Around} {E : Value → Shared → Prop} {s : Shared} {D a b : Addr} {xs ys : List Str} {Q : Value → Shared → Prop} (hh : A.handled = none)
    (hD : s.heap.IsList D #[.ref a, .ref b]) (ha : TxtsAt s.heap a xs) (hb : TxtsAt s.heap b ys) (hu : A.in1.units < cLine)
    (h : ∀ h' tk, (∀ c o, s.heap.get? c = some o → h'.get? c = some o) → Q (.ref (if ltL xs ys = true then b else a)) { s with heap := h', toks := tk }) :
    wpAny (model prog w) A (call (.builtin "max") [.ref D]) Q E s := by
  have hname : (toString "max" ++ toString ".loop" : String) = "max.loop" := by decide
  refine call_function_tree F.kind_max F.plain_max F.entry_max (F.args_max1 _) ?_
  show wpAny _ A.in1 (Builtin.Builtins.bindParams "max" ["key", "default"] 0 ⟨[], []⟩ >>= _) _ _ s
  refine wpAny_bind (wpAny_of_eq (show Builtin.Builtins.bindParams "max" ["key", "default"] 0 ⟨[], []⟩ = pure [none, none] from rfl) ?_)
  refine wpAny_bind (wpAny_pure ?_)
  refine wpAny_bind (wpAny_pyIter_list hD ?_)
  refine wpAny_bind (wpAny_newObj_type ?_)
  rw [hname]
  have k0 : ∀ c o, s.heap.get? c = some o → ((s.heap.push { cls := .type "list_iterator", data := .fields #[.ref D, .int 0 0] }).push { cls := .type "list", data := .seq #[] }).get? c = some o := fun c o e => Heap.get?_push_of_some _ (Heap.get?_push_of_some _ e)
  have hI0 : s.heap.objs.size < (s.heap.push { cls := .type "list_iterator", data := .fields #[.ref D, .int 0 0] }).objs.size := by rw [Heap.size_push]; exact Nat.lt_succ_self _
  have hS0 : ((s.heap.push { cls := .type "list_iterator", data := .fields #[.ref D, .int 0 0] }).push { cls := .type "list", data := .seq #[] }).get? (s.heap.push { cls := .type "list_iterator", data := .fields #[.ref D, .int 0 0] }).objs.size = some { cls := .type "list", dict := none, data := .seq #[] 0, slots := #[] } := Heap.get?_push_size _ rfl
  have st0 : ((s.heap.push { cls := .type "list_iterator", data := .fields #[.ref D, .int 0 0] }).push { cls := .type "list", data := .seq #[] }).IsListIter s.heap.objs.size D 0 := ⟨_, Heap.get?_push_of_some _ (Heap.get?_push_size _ rfl), rfl, rfl⟩
  have hne : D ≠ s.heap.objs.size := by obtain ⟨_, e, _⟩ := hD; exact Nat.ne_of_lt (Heap.lt_size e)
  have old : ∀ c o, s.heap.get? c = some o → c ≠ s.heap.objs.size ∧ c ≠ (s.heap.push { cls := .type "list_iterator", data := .fields #[.ref D, .int 0 0] }).objs.size := fun c o e => ⟨Nat.ne_of_lt (Heap.lt_size e), Nat.ne_of_lt (Nat.lt_trans (Heap.lt_size e) hI0)⟩
  generalize (s.heap.push { cls := .type "list_iterator", data := .fields #[.ref D, .int 0 0] }).objs.size = S at *
  generalize ((s.heap.push { cls := .type "list_iterator", data := .fields #[.ref D, .int 0 0] }).push { cls := .type "list", data := .seq #[] }) = g₀ at *
  have hSI : S ≠ s.heap.objs.size := Nat.ne_of_gt hI0
  generalize s.heap.objs.size = I at *
  have W := Walks.list (prog := prog) (w := w) (A := A.in1) hh I D hne #[.ref a, .ref b]
  -- turn 1
  refine wpAny_pure ⟨plainId_quiet F.plain_max_loop _, codeAny_builtin F.entry_max_loop ?_⟩
  rw [Around.under_plainId F.plain_max_loop _]
  show wpAny _ A.in1 (seqItems? (.ref S) >>= _) _ _ _
  refine wpAny_bind (wpAny_seqItems hS0 rfl ?_)
  show wpAny _ A.in1 (tryCatch (pyNext (.ref I)) _ >>= _) _ _ _
  refine wpAny_bind (wpAny_tryCatch (W.item 0 _ _ _ (Nat.zero_lt_succ _) ⟨st0, hD.at (k0 _)⟩ fun v h1 tk1 hP st1 k1 => ?_))
  obtain rfl : v = .ref a := (Option.some.inj hP).symm
  have nS : S ∉ [I] := by simpa using hSI
  have hS1 := k1 S _ nS hS0
  show wpAny _ A.in1 (updateSeq S (fun _ => #[.ref a, .ref a]) >>= _) _ _ _
  refine wpAny_bind (wpAny_updateSeq hS1 rfl ?_)
  rw [hname]
  have u1 : ∀ c o, s.heap.get? c = some o → (h1.update S (Obj.mapSeq fun _ => #[.ref a, .ref a])).get? c = some o := fun c o e => (Heap.get?_update_other _ _ (Ne.symm (old c o e).2)).trans (k1 c o (by simpa using (old c o e).1) (k0 c o e))
  have hS1' := Heap.get?_update_self (Obj.mapSeq fun _ => #[Value.ref a, Value.ref a]) hS1 rfl
  have st1' := W.frame _ _ (h1.update S (Obj.mapSeq fun _ => #[.ref a, .ref a])) st1 fun c hc o e => (Heap.get?_update_other _ _ (by
    rintro rfl
    rcases List.mem_cons.mp hc with q | q
    · exact hSI q
    · obtain ⟨_, e2, _⟩ := hD
      exact (old _ _ e2).2 (List.mem_singleton.mp q).symm)).trans e
  generalize (h1.update S (Obj.mapSeq fun _ => #[.ref a, .ref a])) = g₁ at *
  clear k1 hS1 st1
  -- turn 2
  refine wpAny_pure ⟨plainId_quiet F.plain_max_loop _, codeAny_builtin F.entry_max_loop ?_⟩
  rw [Around.under_plainId F.plain_max_loop _]
  show wpAny _ A.in1 (seqItems? (.ref S) >>= _) _ _ _
  refine wpAny_bind (wpAny_seqItems hS1' rfl ?_)
  show wpAny _ A.in1 (tryCatch (pyNext (.ref I)) _ >>= _) _ _ _
  refine wpAny_bind (wpAny_tryCatch (W.item 1 _ _ _ (Nat.lt_succ_self _) st1' fun v h2 tk2 hP st2 k2 => ?_))
  obtain rfl : v = .ref b := (Option.some.inj hP).symm
  have hS2 := k2 S _ nS hS1'
  show wpAny _ A.in1 (tryCatch (holding [.ref b, .ref b] (richCompare .Gt (.ref b) (.ref a) >>= _)) _ >>= _) _ _ _
  refine wpAny_bind (wpAny_tryCatch (wpAny_holding (wpAny_bind (gt_txts (hb.keep fun o e => k2 _ o (by simpa using (old _ o e).1) (u1 _ o e)) (ha.keep fun o e => k2 _ o (by simpa using (old _ o e).1) (u1 _ o e)) hu ?_))))
  refine wpAny_bind (wpAny_holding (wpAny_truthy_bool ?_))
  refine wpAny_bind (wpAny_letGo (wpAny_pure ?_))
  cases hlt : ltL xs ys with
  | true =>
    rw [hlt] at h
    simp only [if_true] at h ⊢
    refine wpAny_bind (wpAny_updateSeq hS2 rfl (wpAny_bind (wpAny_letGo ?_)))
    rw [hname]
    have hS3 := Heap.get?_update_self (Obj.mapSeq fun _ => #[Value.ref b, Value.ref b]) hS2 rfl
    have u2 : ∀ c o, s.heap.get? c = some o → (h2.update S (Obj.mapSeq fun _ => #[.ref b, .ref b])).get? c = some o := fun c o e => (Heap.get?_update_other _ _ (Ne.symm (old c o e).2)).trans (k2 c o (by simpa using (old c o e).1) (u1 c o e))
    have st3 := W.frame _ _ (h2.update S (Obj.mapSeq fun _ => #[.ref b, .ref b])) st2 fun c hc o e => (Heap.get?_update_other _ _ (by
      rintro rfl
      rcases List.mem_cons.mp hc with q | q
      · exact hSI q
      · obtain ⟨_, e2, _⟩ := hD
        exact (old _ _ e2).2 (List.mem_singleton.mp q).symm)).trans e
    generalize (h2.update S (Obj.mapSeq fun _ => #[.ref b, .ref b])) = g₂ at *
    refine wpAny_pure ⟨plainId_quiet F.plain_max_loop _, codeAny_builtin F.entry_max_loop ?_⟩
    rw [Around.under_plainId F.plain_max_loop _]
    show wpAny _ A.in1 (seqItems? (.ref S) >>= _) _ _ _
    refine wpAny_bind (wpAny_seqItems hS3 rfl ?_)
    show wpAny _ A.in1 (tryCatch (pyNext (.ref I)) _ >>= _) _ _ _
    refine wpAny_bind (wpAny_tryCatch (W.done _ _ _ st3 fun h4 tk4 k4 => ?_))
    show wpAny _ A.in1 (updateSeq S (fun _ => #[]) >>= _) _ _ _
    refine wpAny_bind (wpAny_updateSeq (k4 S _ nS hS3) rfl (wpAny_bind (wpAny_letGo (wpAny_pure ?_))))
    exact h _ tk4 fun c o e => (Heap.get?_update_other _ _ (Ne.symm (old c o e).2)).trans (k4 c o (by simpa using (old c o e).1) (u2 c o e))
  | false =>
    rw [hlt] at h
    simp only [Bool.false_eq_true, if_false] at h ⊢
    refine wpAny_bind (wpAny_letGo ?_)
    rw [hname]
    refine wpAny_pure ⟨plainId_quiet F.plain_max_loop _, codeAny_builtin F.entry_max_loop ?_⟩
    rw [Around.under_plainId F.plain_max_loop _]
    show wpAny _ A.in1 (seqItems? (.ref S) >>= _) _ _ _
    refine wpAny_bind (wpAny_seqItems hS2 rfl ?_)
    show wpAny _ A.in1 (tryCatch (pyNext (.ref I)) _ >>= _) _ _ _
    refine wpAny_bind (wpAny_tryCatch (W.done _ _ _ st2 fun h4 tk4 k4 => ?_))
    show wpAny _ A.in1 (updateSeq S (fun _ => #[]) >>= _) _ _ _
    refine wpAny_bind (wpAny_updateSeq (k4 S _ nS hS2) rfl (wpAny_bind (wpAny_letGo (wpAny_pure ?_))))
    exact h _ tk4 fun c o e => (Heap.get?_update_other _ _ (Ne.symm (old c o e).2)).trans (k4 c o (by simpa using (old c o e).1) (k2 c o (by simpa using (old c o e).1) (u1 c o e)))
end
-- M2
section
theorem reg_none_M2 : True := by
  w_top off
  k_with_none
  trivial
theorem slot_map_next : Slot "map" "__next__" "map.__next__" :=
  .of (owner := "map") (n := "__next__") (by rw [typeLookup_type, builtinLookup_eq_fast]; kernel_rfl) (by decide +kernel) (by decide +kernel) (by decide +kernel)
    (by first | exact .inl (by decide +kernel) | exact .inr (by decide +kernel)) (by rw [isSubtype_type]; kernel_rfl)
theorem slot_map_iter : Slot "map" "__iter__" "map.__iter__" :=
  .of (owner := "map") (n := "__iter__") (by rw [typeLookup_type, builtinLookup_eq_fast]; kernel_rfl) (by decide +kernel) (by decide +kernel) (by decide +kernel)
    (by first | exact .inl (by decide +kernel) | exact .inr (by decide +kernel)) (by rw [isSubtype_type]; kernel_rfl)
theorem slot_map_init : Slot "map" "__init__" "object.__init__" :=
  .of (owner := "object") (n := "__init__") (by rw [typeLookup_type, builtinLookup_eq_fast]; kernel_rfl) (by decide +kernel) (by decide +kernel) (by decide +kernel)
    (by first | exact .inl (by decide +kernel) | exact .inr (by decide +kernel)) (by rw [isSubtype_type]; kernel_rfl)
theorem entry_map_next : entryFor table "map.__next__" = some Builtin.«map.__next__» := entryFor_of_fast (by kernel_rfl)
theorem entry_map_iter : entryFor table "map.__iter__" = some Builtin.«dict_keyiterator.__iter__» :=
  entryFor_alias (id' := "dict_keyiterator.__iter__") (by kernel_rfl) (by first | rfl | decide +kernel | (unfold String.splitOn; simp +decide [String.splitOnAux])) (by decide +kernel) (by kernel_rfl)
theorem entry_map_new : entryFor table "map.__new__" = some Builtin.«map.__new__» := entryFor_of_fast (by kernel_rfl)
theorem args_map_next (a : Value) : argsOk "map.__next__" ⟨[a], []⟩ := by unfold argsOk; kernel_rfl
theorem args_map_iter (a : Value) : argsOk "map.__iter__" ⟨[a], []⟩ := by unfold argsOk; kernel_rfl
theorem mro_map : mroOf (.type "map") = pure [.type "map", .type "object"] := by rw [mroOf_type]; kernel_rfl
theorem lookup_map_new : typeLookup (.type "map") "__new__" = pure (some (.builtin "map.__new__")) := by rw [typeLookup_type, builtinLookup_eq_fast]; kernel_rfl
theorem called_map : TypeCalled "map" "map.__new__" "object.__init__" :=
  ⟨by decide +kernel, by decide +kernel, ⟨_, _, mro_map⟩, madeBy_type mro_map lookup_map_new (by decide +kernel), by decide +kernel, by rw [isSubtype_type]; kernel_rfl, slot_map_init⟩
theorem typeCall_map_2 (a b : Value) : checkTypeCall "map" ⟨[a, b], []⟩ = pure () := by kernel_rfl
theorem newCall_map_2 (a b : Value) : checkBuiltinCall "map.__new__" ⟨[.type "map", a, b], []⟩ = pure () := by kernel_rfl
theorem args_oinit_3 (o a b : Value) : argsOk "object.__init__" ⟨[o, a, b], []⟩ := by unfold argsOk; kernel_rfl
theorem map_no_len : typeLookup (.type "map") "__len__" = pure none := by rw [typeLookup_type, builtinLookup_eq_fast]; kernel_rfl
theorem map_no_hint : typeLookup (.type "map") "__length_hint__" = pure none := by rw [typeLookup_type, builtinLookup_eq_fast]; kernel_rfl
theorem sub_map : isSubtype (.type "map") (.type "map") = pure true := by rw [isSubtype_type]; kernel_rfl
/-- what map(f, l) makes: its tuple T of iterators I, itself -/
noncomputable def mapObj (T : Addr) (f : Value) : Obj := { cls := .type "map", data := .fields #[.ref T, f] }
theorem meets_map_new (l : Addr) (f : Value) (items : Array Value) (n : Nat) (dct : Option Addr) (sl : Array (Option Value)) :
    Meets (Builtin.«map.__new__» ⟨[.type "map", f, .ref l], []⟩) (fun _ R s => s.heap.get? l = some { cls := .type "list", dict := dct, data := .seq items n, slots := sl } ∧
      R (.ok (.ret (.ref ((s.heap.push { cls := .type "list_iterator", data := .fields #[.ref l, .int 0 0] }).push { cls := .type "tuple", data := .seq #[.ref s.heap.objs.size] }).objs.size)))
        { s with heap := ((s.heap.push { cls := .type "list_iterator", data := .fields #[.ref l, .int 0 0] }).push { cls := .type "tuple", data := .seq #[.ref s.heap.objs.size] }).push (mapObj (s.heap.push { cls := .type "list_iterator", data := .fields #[.ref l, .int 0 0] }).objs.size f) }) :=
  .of_wp fun prog w A R s h => by
    obtain ⟨hp, g, d, tk, os⟩ := s; obtain ⟨hl, h⟩ := h
    have hsub := sub_map
    have hL : Heap.IsList (Shared.heap ⟨hp, g, d, tk, os⟩) l items := ⟨_, hl, rfl, n, rfl⟩
    wp_walk using wpAny_loadPart' hl, wpAny_pyIter_list hL
    exact ⟨_, rfl, h⟩
section
variable {prog : Program} {w : World} {A : Around} {E : Value → Shared → Prop} {s : Shared}
theorem call_map {l : Addr} {f : Value} {items : Array Value} {Q : Value → Shared → Prop} (hL : s.heap.IsList l items)
    (h : ∀ I T M h', h'.get? I = some { cls := .type "list_iterator", data := .fields #[.ref l, .int 0 0] } → h'.get? T = some { cls := .type "tuple", data := .seq #[.ref I] } → h'.get? M = some (mapObj T f) → (∀ b o, s.heap.get? b = some o → h'.get? b = some o) → s.heap.objs.size ≤ M →
      s.heap.objs.size ≤ I → s.heap.objs.size ≤ T → I ≠ M → I ≠ T → T ≠ M → Q (.ref M) { s with heap := h' }) :
    wpAny (model prog w) A (call (.type "map") [f, .ref l]) Q E s := by
  obtain ⟨⟨c, dct, dt, sl⟩, hl, hc, n, hd⟩ := hL
  replace hc : c = .type "list" := hc
  replace hd : dt = .seq items n := hd
  subst hc hd
  refine callType_new called_map (by decide) (typeCall_map_2 _ _) (newCall_map_2 _ _) (fun obj => args_oinit_3 obj _ _) entry_map_new
    (meets_map_new l f items n dct sl) ⟨hl, ?_⟩
  have z1 : (s.heap.push { cls := .type "list_iterator", data := .fields #[.ref l, .int 0 0] }).objs.size = s.heap.objs.size + 1 := Heap.size_push ..
  have z2 : ((s.heap.push { cls := .type "list_iterator", data := .fields #[.ref l, .int 0 0] }).push { cls := .type "tuple", data := .seq #[.ref s.heap.objs.size] }).objs.size = s.heap.objs.size + 2 := by rw [Heap.size_push, z1]
  refine ⟨⟨_, Heap.get?_push_size _ rfl, rfl⟩, h s.heap.objs.size _ _ _ (Heap.get?_push_of_some _ (Heap.get?_push_of_some _ (Heap.get?_push_size _ rfl))) (Heap.get?_push_of_some _ (Heap.get?_push_size _ rfl)) (Heap.get?_push_size _ rfl)
    (fun b o x => Heap.get?_push_of_some _ (Heap.get?_push_of_some _ (Heap.get?_push_of_some _ x))) ?_ ?_ ?_ ?_ ?_ ?_⟩ <;> (try simp only [z1, z2]) <;> (first | exact Nat.ne_of_lt (by omega) | omega)
/-- the walk's state: all of g but the iterator I stands -/
noncomputable def MapSt (g : Heap) (I l : Addr) (i : Nat) (h : Heap) : Prop := (∀ b o, b ≠ I → g.get? b = some o → h.get? b = some o) ∧ h.IsListIter I l i
/-- a function that gives back what it is handed -/
noncomputable def Hands (prog : Program) (w : World) (A : Around) (f : Value) (P : Value → Prop) (s : Shared) (g : Heap) (I : Addr) : Prop :=
  ∀ v h tk (Q E : Value → Shared → Prop), P v → (∀ b o, b ≠ I → g.get? b = some o → h.get? b = some o) → (∀ h' tk', (∀ b o, h.get? b = some o → h'.get? b = some o) → Q v { s with heap := h', toks := tk' }) →
    wpAny (model prog w) A (call f [v]) Q E { s with heap := h, toks := tk }
theorem map_next {g : Heap} {I T M l : Addr} {f : Value} {items : Array Value} {P : Value → Prop} {i : Nat} {v : Value} {h : Heap} {tk : Nat} {Q : Option Value → Shared → Prop}
    (hI : I ≠ l) (hIM : I ≠ M) (hIT : I ≠ T) (hl : g.IsList l items) (hT : g.get? T = some { cls := .type "tuple", data := .seq #[.ref I] }) (hM : g.get? M = some (mapObj T f)) (hf : Hands prog w A.in1 f P s g I) (st : MapSt g I l i h) (hv : items[i]? = some v) (hP : P v)
    (hQ : ∀ h' tk', MapSt g I l (i + 1) h' → (∀ b o, b ≠ I → h.get? b = some o → h'.get? b = some o) → Q (some v) { s with heap := h', toks := tk' }) :
    wpAny (model prog w) A (pyNext (.ref M)) Q E { s with heap := h, toks := tk } := by
  have hM1 := st.1 M _ (Ne.symm hIM) hM
  have hT1 := st.1 T _ (Ne.symm hIT) hT
  have hl1 : h.IsList l items := hl.at fun o e => st.1 l o (Ne.symm hI) e
  have hTy : ({ s with heap := h, toks := tk } : Shared).TypeIs (.ref M) "map" := ⟨_, hM1, rfl⟩
  unfold pyNext
  refine wpAny_bind (wpAny_attempt (wpAny_callSpecial?_slot (name := Str.ofString "__next__") hTy slot_map_next
    (wpAny_call_entry slot_map_next hTy entry_map_next ?_ (args_map_next _))))
  show wpAny _ _ (field (.ref M) 0 >>= _) _ _ _
  refine wpAny_bind (wpAny_field hM1 rfl (x := .ref T) rfl ?_)
  show wpAny _ _ (seqItems? (.ref T) >>= _) _ _ _
  refine wpAny_bind (wpAny_seqItems hT1 rfl ?_)
  dsimp only
  refine wpAny_bind (wpAny_arrayLoop ?_)
  rw [List.forIn_cons]
  refine wpAny_bind (wpAny_bind (wpAny_holding (wpAny_nextOf_list_item st.2 hl1 hv fun h1 it1 sb1 => wpAny_pure ?_)))
  dsimp only
  rw [List.forIn_nil]
  refine wpAny_pure ?_
  show wpAny _ _ (field (.ref M) 1 >>= _) _ _ _
  have k1 : ∀ b o, b ≠ I → h.get? b = some o → h1.get? b = some o := fun b o hb e => sb1.extBut b o hb e
  refine wpAny_bind (wpAny_field (k1 M _ (Ne.symm hIM) hM1) rfl (x := f) rfl ?_)
  refine wpAny_bind (wpAny_holding ?_)
  refine hf v h1 tk _ _ hP (fun b o hb e => k1 b o hb (st.1 b o hb e)) fun h2 tk2 k2 => ?_
  refine wpAny_bind (wpAny_letGo ?_)
  refine wpAny_pure ⟨_, rfl, wpAny_pure (hQ h2 tk2 ⟨fun b o hb e => k2 b o (k1 b o hb (st.1 b o hb e)), it1.at fun o e => k2 I o e⟩ fun b o hb e => k2 b o (k1 b o hb e))⟩
theorem map_done {g : Heap} {I T M l : Addr} {f : Value} {items : Array Value} {h : Heap} {tk : Nat} {Q : Option Value → Shared → Prop} (hh : A.handled = none)
    (hI : I ≠ l) (hIM : I ≠ M) (hIT : I ≠ T) (hl : g.IsList l items) (hT : g.get? T = some { cls := .type "tuple", data := .seq #[.ref I] }) (hM : g.get? M = some (mapObj T f)) (st : MapSt g I l items.size h)
    (hQ : ∀ h', (∀ b o, b ≠ I → h.get? b = some o → h'.get? b = some o) → Q none { s with heap := h', toks := tk }) :
    wpAny (model prog w) A (pyNext (.ref M)) Q E { s with heap := h, toks := tk } := by
  have hM1 := st.1 M _ (Ne.symm hIM) hM
  have hT1 := st.1 T _ (Ne.symm hIT) hT
  have hl1 : h.IsList l items := hl.at fun o e => st.1 l o (Ne.symm hI) e
  have hTy : ({ s with heap := h, toks := tk } : Shared).TypeIs (.ref M) "map" := ⟨_, hM1, rfl⟩
  unfold pyNext
  refine wpAny_bind (wpAny_attempt (wpAny_callSpecial?_slot (name := Str.ofString "__next__") hTy slot_map_next
    (wpAny_call_entry slot_map_next hTy entry_map_next ?_ (args_map_next _))))
  show wpAny _ _ (field (.ref M) 0 >>= _) _ _ _
  refine wpAny_bind (wpAny_field hM1 rfl (x := .ref T) rfl ?_)
  show wpAny _ _ (seqItems? (.ref T) >>= _) _ _ _
  refine wpAny_bind (wpAny_seqItems hT1 rfl ?_)
  dsimp only
  refine wpAny_bind (wpAny_arrayLoop ?_)
  rw [List.forIn_cons]
  refine wpAny_bind (wpAny_bind (wpAny_holding (wpAny_nextOf_list_end hh st.2 hl1 (by simp) fun h' x he' hx' => ?_)))
  obtain ⟨o, ho, hc⟩ := hx'
  refine wpAny_bind (wpAny_isInstance (T := "StopIteration") (b := true) ⟨o, ho, hc⟩ isSubtype_stop ?_)
  exact wpAny_pure (hQ _ fun b o hb e => he' b o hb e)
theorem map_loop {g : Heap} {I T M l S : Addr} {f res : Value} {items : Array Value} {P : Value → Prop} {R : Result → Shared → Prop} (hh : A.handled = none)
    (hI : I ≠ l) (hIM : I ≠ M) (hIT : I ≠ T) (hl : g.IsList l items) (hT : g.get? T = some { cls := .type "tuple", data := .seq #[.ref I] }) (hM : g.get? M = some (mapObj T f)) (hf : Hands prog w A.in1.in1 f P s g I) (hall : ∀ v ∈ items, P v)
    (hS : g.get? S = none) (hSI : S ≠ I) (hn : items.size ≤ sizeLine) :
    ∀ (k i : Nat) (h : Heap) (tk : Nat) (acc : Array Value) (c : Nat), items.size - i = k → i ≤ items.size → MapSt g I l i h → h.get? S = some { cls := .type "list", dict := none, data := .seq acc c, slots := #[] } → acc.toList = items.toList.take i →
    (∀ h' tk' c', (∀ b o, b ≠ I → g.get? b = some o → h'.get? b = some o) → h'.get? S = some { cls := .type "list", dict := none, data := .seq items c', slots := #[] } → R (.ok (.ret res)) { s with heap := h', toks := tk' }) →
    codeAny (model prog w) A (.builtin "list.extend.loop" ⟨[.ref S, .ref M, res], []⟩) R { s with heap := h, toks := tk } := by
  intro k
  induction k with
  | zero =>
    intro i h tk acc c hk hi st hS1 hacc hR
    have hin : i = items.size := by omega
    subst hin
    refine codeAny_builtin F.entry_extend_loop ?_
    rw [Around.under_plainId F.plain_extend_loop _]
    show wpAny _ A.in1 (pyNext (.ref M) >>= _) _ _ _
    refine wpAny_bind (map_done (A := A.in1) hh hI hIM hIT hl hT hM st fun h' k' => ?_)
    have e : acc = items := Array.toList_inj.mp (by rw [hacc]; exact List.take_of_length_le (by simp))
    exact wpAny_pure (hR h' tk c (fun b o hb e => k' b o hb (st.1 b o hb e)) (e ▸ k' S _ hSI hS1))
  | succ k ih =>
    intro i h tk acc c hk hi st hS1 hacc hR
    have hlt : i < items.size := by omega
    have hsz : acc.size = i := by have := congrArg List.length hacc; simp at this; omega
    refine codeAny_builtin F.entry_extend_loop ?_
    rw [Around.under_plainId F.plain_extend_loop _]
    show wpAny _ A.in1 (pyNext (.ref M) >>= _) _ _ _
    refine wpAny_bind (map_next (A := A.in1) hI hIM hIT hl hT hM hf st (Array.getElem?_eq_getElem hlt) (hall _ (Array.getElem_mem hlt)) fun h' tk' st' k' => ?_)
    have hS' := k' S _ hSI hS1
    show wpAny _ A.in1 (updateSeq S (·.push items[i]) >>= _) _ _ _
    refine wpAny_bind ?_
    refine wpAny_updateSeq hS' rfl (wpAny_pure ⟨plainId_quiet F.plain_extend_loop _, ih (i + 1) _ tk' (acc.push items[i]) _ (by omega) hlt ⟨fun b o hb e => ?_, ?_⟩ (Heap.get?_update_self _ hS' rfl) ?_ hR⟩)
      (by rw [hsz]; omega) (by show (acc.push items[i]).size ≤ sizeLine + 1; rw [Array.size_push, hsz]; omega)
    · exact (Heap.get?_update_other _ _ (fun q : S = b => by rw [q, e] at hS; cases hS)).trans (st'.1 b o hb e)
    · exact st'.2.at fun o e => (Heap.get?_update_other _ _ hSI).trans e
    · rw [Array.toList_push, hacc, List.take_add_one]
      congr 1
      simp [hlt]
theorem collect_map {g : Heap} {I T M l : Addr} {f : Value} {items : Array Value} {P : Value → Prop} {Q : List Value → Shared → Prop} (hh : A.handled = none)
    (hI : I ≠ l) (hIM : I ≠ M) (hIT : I ≠ T) (hl : g.IsList l items) (hT : g.get? T = some { cls := .type "tuple", data := .seq #[.ref I] }) (hM : g.get? M = some (mapObj T f)) (hf : Hands prog w A.in1.in1 f P s g I) (hall : ∀ v ∈ items, P v)
    (hg : s.heap = g) (hit : g.IsListIter I l 0) (hn : items.size ≤ sizeLine)
    (hQ : ∀ h' tk', (∀ b o, b ≠ I → g.get? b = some o → h'.get? b = some o) → Q items.toList { s with heap := h', toks := tk' }) : wpAny (model prog w) A (collect (.ref M)) Q E s := by
  subst hg
  have hMlt := Heap.lt_size hM
  have hSM : s.heap.objs.size ≠ M := Nat.ne_of_gt hMlt
  have hSI : s.heap.objs.size ≠ I := by obtain ⟨o, e, _⟩ := hit; exact Nat.ne_of_gt (Heap.lt_size e)
  unfold collect
  refine wpAny_bind (wpAny_runValue (codeAny_builtin F.entry_proto_collect ?_))
  rw [Around.under_plainId F.plain_proto_collect _]
  show wpAny _ A.in1 (newList [] >>= fun l => again (.builtin "list.__iadd__" ⟨[l, .ref M], []⟩)) _ _ s
  refine wpAny_bind (wpAny_newObj_type ?_)
  refine wpAny_pure ⟨plainId_quiet F.plain_list_iadd _, codeAny_builtin F.entry_list_iadd ?_⟩
  rw [Around.under_plainId F.plain_list_iadd _]
  have up : ∀ b o, s.heap.get? b = some o → (s.heap.push { cls := .type "list", data := .seq ([] : List Value).toArray }).get? b = some o := fun b o e => Heap.get?_push_of_some _ e
  have hTy : ({ s with heap := s.heap.push { cls := .type "list", data := .seq ([] : List Value).toArray } } : Shared).TypeIs (.ref M) "map" := ⟨_, up _ _ hM, rfl⟩
  show wpAny _ A.in1 (Builtin.List.listExtendWith (.ref s.heap.objs.size) (.ref M) (.ref s.heap.objs.size)) _ _ _
  unfold Builtin.List.listExtendWith
  refine wpAny_bind (wpAny_typeOf hTy ?_)
  have h1 : Builtin.List.listSameRef (.ref s.heap.objs.size) (.ref M) = false := by simp [Builtin.List.listSameRef, hSM]
  have h2 : (Value.type "map" == Value.type "list") = false := by decide
  have h3 : (Value.type "map" == Value.type "tuple") = false := by decide
  simp only [h1, h2, h3, Bool.or_false, Bool.false_eq_true, if_false]
  refine wpAny_bind (wpAny_pyIter_slot hTy slot_map_iter (wpAny_call_entry slot_map_iter hTy entry_map_iter ?_ (args_map_iter _)))
  show wpAny _ _ (ret (.ref M)) _ _ _
  refine wpAny_pure ⟨_, rfl, "map", _, hTy, slot_map_next.lookup, ?_⟩
  refine wpAny_bind (wpAny_holding ?_)
  unfold Builtin.List.listLengthHint
  refine wpAny_bind (wpAny_specialOf hTy map_no_len ?_)
  show wpAny _ A.in1 (specialOf (Value.ref M) (Str.ofString "__length_hint__") >>= _) _ _ _
  refine wpAny_bind (wpAny_specialOf hTy map_no_hint ?_)
  refine wpAny_pure ?_
  show wpAny _ A.in1 (rule "list.extend.makes-room" >>= fun _ => Builtin.List.listTouch (.ref s.heap.objs.size) >>= fun _ =>
    again (.builtin "list.extend.loop" ⟨[.ref s.heap.objs.size, .ref M, .ref s.heap.objs.size], []⟩)) _ _ _
  refine wpAny_bind (wpAny_rule ?_)
  have hS₁ : (s.heap.push { cls := .type "list", data := .seq ([] : List Value).toArray }).get? s.heap.objs.size = some { cls := .type "list", data := .seq ([] : List Value).toArray } := Heap.get?_push_size _ rfl
  refine wpAny_bind ?_
  show wpAny _ A.in1 (updateSeq s.heap.objs.size (·.push .none) >>= fun _ => updateSeq s.heap.objs.size (·.pop)) _ _ _
  refine wpAny_bind (wpAny_updateSeq hS₁ rfl ?_)
  have hS₂ := Heap.get?_update_self (Obj.mapSeq (·.push Value.none)) hS₁ rfl
  refine wpAny_updateSeq hS₂ rfl ?_
  have hS₃ := Heap.get?_update_self (Obj.mapSeq (·.pop)) hS₂ rfl
  have oth : ∀ b o, s.heap.get? b = some o →
      (((s.heap.push { cls := .type "list", data := .seq ([] : List Value).toArray }).update s.heap.objs.size (Obj.mapSeq (·.push Value.none))).update s.heap.objs.size (Obj.mapSeq (·.pop))).get? b = some o :=
    fun b o e => have hb : s.heap.objs.size ≠ b := Nat.ne_of_gt (Heap.lt_size e); (Heap.get?_update_other _ _ hb).trans ((Heap.get?_update_other _ _ hb).trans (up b o e))
  have hnone : s.heap.get? s.heap.objs.size = none := Heap.get?_none_of_le (Nat.le_refl _)
  refine wpAny_pure ⟨plainId_quiet F.plain_extend_loop _, map_loop (A := A) (s := s) hh hI hIM hIT hl hT hM hf hall hnone hSI hn items.size 0 _ _ _ _ rfl (Nat.zero_le _) ⟨fun b o _ e => oth b o e, hit.at fun o e => oth I o e⟩ hS₃ rfl fun h' tk' c' k' hS' => ?_⟩
  show wpAny _ A (load s.heap.objs.size >>= _) _ _ _
  refine wpAny_bind (wpAny_load hS' ?_)
  exact wpAny_pure (hQ h' tk' k')
theorem tuple_map {I T M l : Addr} {f : Value} {items : Array Value} {P : Value → Prop} {Q : Value → Shared → Prop} (hh : A.handled = none)
    (hI : I ≠ l) (hIM : I ≠ M) (hIT : I ≠ T) (hl : s.heap.IsList l items) (hT : s.heap.get? T = some { cls := .type "tuple", data := .seq #[.ref I] }) (hM : s.heap.get? M = some (mapObj T f)) (hf : Hands prog w A.in1.in1.in1.in1 f P s s.heap I) (hall : ∀ v ∈ items, P v)
    (hit : s.heap.IsListIter I l 0) (hn : items.size ≤ sizeLine)
    (hQ : ∀ D h' tk', (∀ b o, b ≠ I → s.heap.get? b = some o → h'.get? b = some o) → h'.get? D = some { cls := .type "tuple", data := .seq items } → (∀ b o, b ≠ I → s.heap.get? b = some o → b < D) → Q (.ref D) { s with heap := h', toks := tk' }) :
    wpAny (model prog w) A (call (.type "tuple") [.ref M]) Q E s := by
  have hTy : s.TypeIs (.ref M) "map" := ⟨_, hM, rfl⟩
  refine callType_codes (Q₁ := fun obj s₁ => s₁.TypeIs obj "tuple" ∧ Q obj s₁) F.called_tuple (F.typeCall_tuple_1 _) F.entry_object_init ?_ fun obj s₁ h₁ => 
    ⟨h₁.1, F.args_object_init_2 obj _, object_init_meets F.called_tuple.init.lookup F.called_tuple.made (by decide) prog w A.in1 _ s₁ ⟨h₁.1, rfl, h₁.2⟩⟩
  refine codeAny_of_tree ?_
  show wpAny _ A.in1.in1 (do checkBuiltinCall "tuple.__new__" ⟨[.type "tuple", .ref M], []⟩; again (.builtin "tuple.__new__" ⟨[.type "tuple", .ref M], []⟩)) _ _ s
  refine wpAny_bind (wpAny_of_eq (F.newCall_tuple_1 _) (wpAny_pure ⟨plainId_quiet F.plain_tuple_new _, codeAny_builtin F.entry_tuple_new ?_⟩))
  rw [Around.under_plainId F.plain_tuple_new _]
  have hsub := sub_tuple_self
  have hinit := init_tuple_lookup
  have hmh := madeHere_tuple
  wp_walk using wpAny_typeOf hTy, collect_map (A := A.in1.in1) hh hI hIM hIT hl hT hM hf hall rfl hit hn
  intro h' tk' k'
  show wpAny _ _ (Builtin.Tuple.tupleExact items.toList.toArray >>= fun v => ret v) _ _ _
  unfold Builtin.Tuple.tupleExact
  have e : items.toList.toArray = items := by simp
  rw [e]
  refine wpAny_bind (wpAny_newObj_type ?_ (by show items.size ≤ sizeLine; exact hn))
  refine wpAny_pure ?_
  refine ⟨⟨_, Heap.get?_push_size _ rfl, rfl⟩, hQ _ _ _ (fun b o hb e => Heap.get?_push_of_some _ (k' b o hb e)) (Heap.get?_push_size _ rfl) (fun b o hb e => Heap.lt_size (k' b o hb e))⟩
end
end
-- P2
section
theorem reg_none_P2 : True := by
  w_top off
  k_with_none
  trivial
noncomputable def minL (X Y : List Str) : List Str := if ltL Y X = true then Y else X
noncomputable def maxL (X Y : List Str) : List Str := if ltL X Y = true then Y else X
/-- the longest common start -/
noncomputable def lcpL {α : Type} [DecidableEq α] : List α → List α → List α
  | x :: xs, y :: ys => if x = y then x :: lcpL xs ys else []
  | _, _ => []
theorem lcpL_comm {α : Type} [DecidableEq α] : ∀ (X Y : List α), lcpL X Y = lcpL Y X
  | [], [] => rfl
  | [], _ :: _ => rfl
  | _ :: _, [] => rfl
  | x :: X, y :: Y => by
    unfold lcpL
    by_cases h : x = y
    · subst h; simp [lcpL_comm X Y]
    · rw [if_neg h, if_neg (Ne.symm h)]
theorem lcpL_self {α : Type} [DecidableEq α] : ∀ (X : List α), lcpL X X = X
  | [] => rfl
  | x :: X => by unfold lcpL; simp [lcpL_self X]
/-- what stands of two lists with the first no greater than the other -/
inductive LeL : List Str → List Str → Prop
  | nil (Y : List Str) : LeL [] Y
  | cons (x : Str) {X Y : List Str} : LeL X Y → LeL (x :: X) (x :: Y)
  | ne {x y : Str} (X Y : List Str) : x ≠ y → LeL (x :: X) (y :: Y)
theorem leL_refl : ∀ X, LeL X X
  | [] => .nil _
  | x :: X => .cons x (leL_refl X)
theorem leL_of_lt : ∀ {X Y : List Str}, ltL X Y = true → LeL X Y
  | [], _, _ => .nil _
  | x :: X, [], h => by simp [ltL] at h
  | x :: X, y :: Y, h => by
    by_cases e : x = y
    · subst e
      rw [ltL, if_pos rfl] at h
      exact .cons x (leL_of_lt h)
    · exact .ne _ _ e
theorem str_total {x y : Str} (h : ¬ x.cps.toList < y.cps.toList) (h2 : ¬ y.cps.toList < x.cps.toList) : x = y := by
  have : x.cps.toList = y.cps.toList := List.le_antisymm h2 h
  exact Str.ext' (Array.toList_inj.mp this)
theorem ltL_asymm : ∀ {X Y : List Str}, ltL X Y = true → ltL Y X = false
  | _, [], h => by rw [ltL_nil] at h; cases h
  | [], _ :: _, _ => by simp [ltL]
  | x :: X, y :: Y, h => by
    rw [ltL] at h ⊢
    by_cases e : x = y
    · subst e; rw [if_pos rfl] at h ⊢; exact ltL_asymm h
    · rw [if_neg e] at h; rw [if_neg (Ne.symm e)]
      simp only [decide_eq_true_eq, decide_eq_false_iff_not] at h ⊢
      exact List.lt_asymm h
theorem ltL_total : ∀ {X Y : List Str}, ltL X Y = false → ltL Y X = false → X = Y
  | [], [], _, _ => rfl
  | [], _ :: _, h, _ => by simp [ltL] at h
  | _ :: _, [], _, h => by simp [ltL] at h
  | x :: X, y :: Y, h1, h2 => by
    rw [ltL] at h1 h2
    by_cases e : x = y
    · subst e; rw [if_pos rfl] at h1 h2; rw [ltL_total h1 h2]
    · rw [if_neg e] at h1; rw [if_neg (Ne.symm e)] at h2
      simp only [decide_eq_false_iff_not] at h1 h2
      exact absurd (str_total h1 h2) e
theorem minmax_le (X Y : List Str) : LeL (minL X Y) (maxL X Y) := by
  unfold minL maxL
  cases h1 : ltL Y X with
  | true => rw [ltL_asymm h1]; simpa using leL_of_lt h1
  | false =>
    cases h2 : ltL X Y with
    | true => simpa using leL_of_lt h2
    | false => simpa using leL_refl X
theorem minmax_lcp (X Y : List Str) : lcpL (minL X Y) (maxL X Y) = lcpL X Y := by
  unfold minL maxL
  cases h1 : ltL Y X with
  | true => rw [ltL_asymm h1]; simpa using lcpL_comm Y X
  | false =>
    cases h2 : ltL X Y with
    | true => simp
    | false => simp [ltL_total h2 h1]
theorem leL_get : ∀ {X Y : List Str} (_ : LeL X Y) {i : Nat} {c : Str}, X.take i = Y.take i → X[i]? = some c → ∃ d, Y[i]? = some d
  | _, _, .nil _, i, c, _, h => by simp at h
  | _, _, .cons x hl, 0, c, _, h => ⟨x, rfl⟩
  | _, _, .cons x hl, i + 1, c, e, h => by
    simp only [List.take_succ_cons, List.cons.injEq, true_and, List.getElem?_cons_succ] at e h ⊢
    exact leL_get hl e h
  | _, _, .ne (y := y) _ _ _, 0, c, _, h => ⟨y, rfl⟩
  | _, _, .ne _ _ hn, i + 1, c, e, h => by
    simp only [List.take_succ_cons, List.cons.injEq] at e
    exact absurd e.1 hn
theorem lcp_break {α : Type} [DecidableEq α] : ∀ {X Y : List α} {i : Nat} {c d : α}, X.take i = Y.take i → X[i]? = some c → Y[i]? = some d → c ≠ d → lcpL X Y = X.take i
  | [], _, i, c, d, _, h, _, _ => by simp at h
  | _ :: _, [], i, c, d, _, _, h, _ => by simp at h
  | x :: X, y :: Y, 0, c, d, _, h1, h2, hn => by
    simp only [List.getElem?_cons_zero, Option.some.injEq] at h1 h2
    subst h1 h2
    simp [lcpL, hn]
  | x :: X, y :: Y, i + 1, c, d, e, h1, h2, hn => by
    simp only [List.take_succ_cons, List.cons.injEq, List.getElem?_cons_succ] at e h1 h2
    obtain ⟨rfl, e⟩ := e
    simp [lcpL, lcp_break e h1 h2 hn]
theorem lcp_full {α : Type} [DecidableEq α] : ∀ {X Y : List α}, X.take X.length = Y.take X.length → lcpL X Y = X
  | [], _, _ => by simp [lcpL]
  | x :: X, [], h => by simp at h
  | x :: X, y :: Y, h => by
    simp only [List.length_cons, List.take_succ_cons, List.cons.injEq] at h
    obtain ⟨rfl, h⟩ := h
    simp [lcpL, lcp_full h]
theorem take_next {α : Type} {X Y : List α} {i : Nat} {c : α} (h : X.take i = Y.take i) (h1 : X[i]? = some c) (h2 : Y[i]? = some c) : X.take (i + 1) = Y.take (i + 1) := by
  rw [List.take_add_one, List.take_add_one, h, h1, h2]
/-- vs are texts, these -/
noncomputable def StrsOf (vs : List Value) (xs : List Str) : Prop := ∃ l : List (Str × Tok), vs = strValues l ∧ l.map (·.1) = xs
theorem StrsOf.get {vs : List Value} {xs : List Str} (h : StrsOf vs xs) {i : Nat} {v : Value} (hv : vs[i]? = some v) : ∃ c t, v = .str c t ∧ xs[i]? = some c := by
  obtain ⟨l, rfl, rfl⟩ := h
  simp only [strValues, List.getElem?_map, Option.map_eq_some_iff] at hv
  obtain ⟨p, hp, rfl⟩ := hv
  exact ⟨p.1, p.2, rfl, by simp [hp]⟩
theorem StrsOf.at {vs : List Value} {xs : List Str} (h : StrsOf vs xs) {i : Nat} {c : Str} (hc : xs[i]? = some c) : ∃ t, vs[i]? = some (.str c t) := by
  obtain ⟨l, rfl, rfl⟩ := h
  simp only [List.getElem?_map, Option.map_eq_some_iff] at hc
  obtain ⟨p, hp, rfl⟩ := hc
  exact ⟨p.2, by simp [strValues, hp]⟩
theorem StrsOf.length {vs : List Value} {xs : List Str} (h : StrsOf vs xs) : vs.length = xs.length := by
  obtain ⟨l, rfl, rfl⟩ := h
  simp [strValues]
theorem StrsOf.take {vs : List Value} {xs : List Str} (h : StrsOf vs xs) (i : Nat) : StrsOf (vs.take i) (xs.take i) := by
  obtain ⟨l, rfl, rfl⟩ := h
  exact ⟨l.take i, by simp [strValues], by simp⟩
theorem StrsOf.txts {h₀ h : Heap} {L a : Addr} {news : List (Addr × Obj)} {vs : List Value} {xs : List Str} {n : Nat} (x : StrsOf vs xs) (N : News h₀ L h news) (hm : (a, ({ cls := .type "list", data := .seq vs.toArray n } : Obj)) ∈ news) : TxtsAt h a xs := by
  obtain ⟨l, rfl, rfl⟩ := x
  exact ⟨l, rfl, _, (N _ hm).1, rfl, _, rfl⟩
noncomputable def keepS (c : Str) : Bool := !(c.length == 0) && (c != Str.ofString ".")
noncomputable def compsOf (x : Str) : List Str := (Txt.split x (Str.ofString "/")).filter keepS
noncomputable def keepC : Value → Bool
  | .str c _ => !(c.length == 0) && (c != Str.ofString ".")
  | _ => false
theorem strs_filter {ys : List Value} {l : List (Str × Tok)} {x : Str} (h : ys = (strValues l).toArray.toList.filter keepC) (e : l.map (·.1) = Txt.split x (Str.ofString "/")) : StrsOf ys (compsOf x) := by
  refine ⟨l.filter (fun p => keepS p.1), ?_, ?_⟩
  · rw [h, List.toList_toArray]
    unfold strValues
    rw [List.filter_map]
    rfl
  · unfold compsOf
    rw [← e, List.filter_map]
    rfl
theorem len_join_ge {sep : Str} (hs : sep.length = 1) : ∀ l : List Str, l.length ≤ (Str.join sep l).length + 1
  | [] => by simp
  | [a] => by simp
  | a :: b :: r => by
    have e : Str.join sep (a :: b :: r) = a ++ sep ++ Str.join sep (b :: r) := by first | rfl | simp [Str.join]
    have := len_join_ge hs (b :: r)
    rw [e, Str.length_append, Str.length_append]
    simp only [List.length_cons] at this ⊢
    omega
theorem comps_len {x : Str} (hx : x.length ≤ 100) : (compsOf x).length ≤ 101 := by
  have h1 := len_join_ge (sep := Str.ofString "/") (by decide +kernel) (Txt.split x (Str.ofString "/"))
  rw [StrLaws.join_split] at h1
  have h2 := List.length_filter_le keepS (Txt.split x (Str.ofString "/"))
  unfold compsOf
  omega
theorem minL_len {X Y : List Str} {k : Nat} (h1 : X.length ≤ k) (h2 : Y.length ≤ k) : (minL X Y).length ≤ k := by unfold minL; split <;> assumption
theorem maxL_len {X Y : List Str} {k : Nat} (h1 : X.length ≤ k) (h2 : Y.length ≤ k) : (maxL X Y).length ≤ k := by unfold maxL; split <;> assumption
end
-- E1
section
theorem reg_none_E1 : True := by
  w_top off
  k_with_none
  trivial
noncomputable def EnumTurn (h₀ : Heap) (L : Addr) (m : Str → Option Value) (xi xc : Str) (led : List (Addr × Obj)) (P : Nat → Prop) (i : Nat) (s : Shared) (Qb : Shared → Prop) (f : Flow) (s' : Shared) : Prop :=
  match f with
  | .brk => Qb s'
  | .ret _ => False
  | _ => ∃ h' tk a b, s' = { s with heap := h', toks := tk } ∧ Fr h₀ L h' (fun y => if y = xc then a else if y = xi then b else m y) ∧ News h₀ L h' led ∧ P (i + 1)
theorem EnumTurn.next {h₀ h' : Heap} {L : Addr} {m : Str → Option Value} {xi xc : Str} {led : List (Addr × Obj)} {P : Nat → Prop} {i tk : Nat} {s : Shared} {Qb : Shared → Prop} {a b : Option Value}
    (F : Fr h₀ L h' (fun y => if y = xc then a else if y = xi then b else m y)) (N : News h₀ L h' led) (hP : P (i + 1)) : EnumTurn h₀ L m xi xc led P i s Qb .next { s with heap := h', toks := tk } := ⟨h', tk, a, b, rfl, F, N, hP⟩
theorem bind_two {m : Str → Option Value} {xi xc : Str} {a b v w : Option Value} : (fun y => if y = xc then v else if y = xi then w else (fun y => if y = xc then a else if y = xi then b else m y) y) = fun y => if y = xc then v else if y = xi then w else m y := by
  funext y
  by_cases h1 : y = xc
  · simp [h1]
  · by_cases h2 : y = xi
    · simp [h1, h2]
    · simp [h1, h2]
theorem news_swap {h₀ h : Heap} {L : Addr} {a b : List (Addr × Obj)} (x : News h₀ L h (a ++ b)) : News h₀ L h (b ++ a) := fun p hp => x p (by simpa [or_comm] using hp)
section
variable {prog : Program} {w : World} {A : Around} {s : Shared} {env : Env} {h₀ : Heap}
theorem enum_call {E : Value → Shared → Prop} {Q : Flow → Shared → Prop} {xi xc : Str} {body : List Stmt} {l : Addr} {items : Array Value} {m : Str → Option Value} {news : List (Addr × Obj)} (P : Nat → Prop) (hh : A.handled = none)
    (F : Fr h₀ env.locals s.heap m) (N : News h₀ env.locals s.heap news) (hl : s.heap.IsList l items) (hlL : l ≠ env.locals) (h0 : P 0)
    (step : ∀ i v ti h tk own, items[i]? = some v → P i → Fr h₀ env.locals h (fun y => if y = xc then some v else if y = xi then some (.int i ti) else m y) → News h₀ env.locals h (news ++ own) →
      wpAny (model prog w) A (execs body env) (EnumTurn h₀ env.locals m xi xc (news ++ own) P i s (Q .next)) E { s with heap := h, toks := tk })
    (fin : ∀ h' tk a b, Fr h₀ env.locals h' (fun y => if y = xc then a else if y = xi then b else m y) → News h₀ env.locals h' news → P items.size → Q .next { s with heap := h', toks := tk }) :
    wpAny (model prog w) A (call (.type "enumerate") [.ref l]) (fun xv s₁ => wpAny (model prog w) A (pyIter xv) (fun it s₂ => PairAt3 prog w A h₀ env xi xc body Q E it s₂) E s₁) E s := by
  refine call_enumerate_list hl fun h' he hit hz k => ?_
  refine wpAny_pyIter_enum he ?_
  have hll : l < s.heap.objs.size := by obtain ⟨o, e, _⟩ := hl; exact Heap.lt_size e
  have hLl : env.locals < s.heap.objs.size := F.ns.lt
  have F' := F.keeps k
  have N' := N.grown k
  have hle : l ≠ s.heap.objs.size := Nat.ne_of_lt hll
  have D := Draws.list (prog := prog) (w := w) (A := A.in1) hh s.heap.objs.size l hle items
  have fresh : ∀ b, s.heap.objs.size ≤ b → h₀.get? b = none := fun b hb => by
    cases q : h₀.get? b with
    | none => rfl
    | some o => exact absurd (Heap.lt_size (F.keep _ _ q)) (Nat.not_lt.mpr hb)
  refine ⟨s.heap.objs.size + 1, _, _, items.size, _, _, _, (fun i v0 v1 => ∃ t, v0 = .int i t ∧ items[i]? = some v1), m, news, (fun i m₁ news₁ => (∃ a b, m₁ = fun y => if y = xc then a else if y = xi then b else m y) ∧ news₁ = news ∧ P i), rfl,
    WalksT.enumerateD D (s.heap.objs.size + 1) (by simp) ?_ (by simp), ?_, ?_, ?_, ?_, ⟨⟨_, by simpa using he⟩, hit, hl.at fun o e => k _ o e⟩, F', N', ⟨⟨m xc, m xi, ?_⟩, rfl, h0⟩, ?_, ?_⟩
  · simp only [List.mem_cons, List.not_mem_nil, or_false, not_or]; exact ⟨by simp, fun e => Nat.ne_of_lt (Nat.lt_succ_of_lt hll) e.symm⟩
  · rintro i vals ⟨t, x, hPx, rfl⟩
    exact ⟨_, _, rfl, t, rfl, hPx⟩
  · simp only [List.mem_cons, List.not_mem_nil, or_false, not_or]
    exact ⟨Nat.ne_of_lt (Nat.lt_succ_of_lt hLl), Nat.ne_of_lt hLl, fun e => hlL e.symm⟩
  · intro b hb
    simp only [List.mem_cons, List.not_mem_nil, or_false] at hb
    rcases hb with rfl | rfl
    · exact fresh _ (Nat.le_succ _)
    · exact fresh _ (Nat.le_refl _)
  · intro p hp hb
    have := Heap.lt_size (N p hp).1
    simp only [List.mem_cons, List.not_mem_nil, or_false] at hb
    rcases hb with e | e
    · exact Nat.ne_of_lt (Nat.lt_succ_of_lt this) e
    · exact Nat.ne_of_lt this e
  · funext y
    by_cases h1 : y = xc
    · subst h1; simp
    · by_cases h2 : y = xi
      · subst h2; simp [h1]
      · simp [h1, h2]
  · rintro i v0 v1 m₁ news₁ s₁ own ⟨h₁, tk₁, rfl⟩ hi ⟨t, rfl, hv⟩ ⟨⟨a, b, rfl⟩, rfl, hP⟩ ha hsub F₁ N₁
    rw [bind_two] at F₁
    refine wpAny_mono (step i v1 t h₁ tk₁ own hv hP F₁ (news_swap N₁)) (fun f s₂ h => ?_) fun _ _ e => e
    cases f with
    | ret v => exact h.elim
    | brk => exact h
    | next =>
      obtain ⟨h', tk, a', b', rfl, F₂, N₂, hP'⟩ := h
      exact ⟨rfl, h', tk, _, news₁, rfl, F₂, news_swap N₂, rfl, ⟨a', b', rfl⟩, rfl, hP'⟩
    | cont =>
      obtain ⟨h', tk, a', b', rfl, F₂, N₂, hP'⟩ := h
      exact ⟨rfl, h', tk, _, news₁, rfl, F₂, news_swap N₂, rfl, ⟨a', b', rfl⟩, rfl, hP'⟩
  · rintro h₂ tk₂ m' news' F₂ N₂ ha ⟨⟨a, b, rfl⟩, rfl, hP⟩
    exact fin h₂ tk₂ a b F₂ N₂ hP
end
end
-- E2
section
theorem reg_none_E2 : True := by
  w_top off
  k_with_none
  trivial
section
variable {prog : Program} {w : World} {A : Around} {E : Value → Shared → Prop} {s : Shared} {h₀ : Heap} {L D a b : Addr} {m : Str → Option Value} {news : List (Addr × Obj)} {xs ys : List Value} {X Y : List Str} {Q : Value → Shared → Prop}
theorem min_led (hh : A.handled = none) (F : Fr h₀ L s.heap m) (N : News h₀ L s.heap news) (hD : (D, LCg.lst [.ref a, .ref b]) ∈ news) (ha : (a, LCg.lst xs) ∈ news) (hb : (b, LCg.lst ys) ∈ news) (hx : StrsOf xs X) (hy : StrsOf ys Y) (hu : A.in1.units < cLine)
    (h : ∀ p ps h' tk', (p, LCg.lst ps) ∈ news → StrsOf ps (minL X Y) → Fr h₀ L h' m → News h₀ L h' news → Q (.ref p) { s with heap := h', toks := tk' }) : wpAny (model prog w) A (call (.builtin "min") [.ref D]) Q E s := by
  refine call_min_txts hh ⟨_, N.get hD, rfl, _, rfl⟩ (hx.txts N ha) (hy.txts N hb) hu fun h' tk k => ?_
  have F' := F.keeps k
  have N' := N.grown k
  unfold minL at h
  cases e : ltL Y X with
  | true => rw [e] at h; exact h b ys h' tk hb (by simpa using hy) F' N'
  | false => rw [e] at h; exact h a xs h' tk ha (by simpa using hx) F' N'
theorem max_led (hh : A.handled = none) (F : Fr h₀ L s.heap m) (N : News h₀ L s.heap news) (hD : (D, LCg.lst [.ref a, .ref b]) ∈ news) (ha : (a, LCg.lst xs) ∈ news) (hb : (b, LCg.lst ys) ∈ news) (hx : StrsOf xs X) (hy : StrsOf ys Y) (hu : A.in1.units < cLine)
    (h : ∀ p ps h' tk', (p, LCg.lst ps) ∈ news → StrsOf ps (maxL X Y) → Fr h₀ L h' m → News h₀ L h' news → Q (.ref p) { s with heap := h', toks := tk' }) : wpAny (model prog w) A (call (.builtin "max") [.ref D]) Q E s := by
  refine call_max_txts hh ⟨_, N.get hD, rfl, _, rfl⟩ (hx.txts N ha) (hy.txts N hb) hu fun h' tk k => ?_
  have F' := F.keeps k
  have N' := N.grown k
  unfold maxL at h
  cases e : ltL X Y with
  | true => rw [e] at h; exact h b ys h' tk hb (by simpa using hy) F' N'
  | false => rw [e] at h; exact h a xs h' tk ha (by simpa using hx) F' N'
theorem lget_at {vs : List Value} {n : Nat} {i : Nat} {v : Value} {u : Tok} {value slice : PySem.Expr} (N : News h₀ L s.heap news) (hm : (D, ({ cls := .type "list", data := .seq vs.toArray n } : Obj)) ∈ news) (hx : vs[i]? = some v) (hfit : vs.length ≤ 100000) (h : Q v s)
    (hs : subscripted slice false (.ref D) (.int i u) = operate [.ref D, .int i u] (getItem (.ref D) (.int i u)) := by with_unfolding_all rfl) :
    wpAny (model prog w) A (subscriptTail value slice (.ref D) (.int i u)) Q E s := by
  have hi : i < vs.length := (List.getElem?_eq_some_iff.mp hx).1
  have hL : s.heap.IsList D vs.toArray := ⟨_, N.get hm, rfl, _, rfl⟩
  exact tail_any hL.typeIs slot_list_getitem.lookup (wpAny_getItem_list hL (by omega) (by omega) (by simpa using hx) h) hs
theorem slice_upto {vs : List Value} {l : Addr} {i : Nat} {ti : Tok} {value slice : PySem.Expr} (F : Fr h₀ L s.heap m) (N : News h₀ L s.heap news) (hl : s.heap.IsList l vs.toArray) (hfit : vs.length ≤ 100000)
    (h : ∀ D h', Fr h₀ L h' m → News h₀ L h' ((D, listOf (vs.take i).toArray 0) :: news) → (∀ p ∈ news, p.1 < D) → Q (.ref D) { s with heap := h' })
    (hs : subscripted slice false (.ref l) (.ref s.heap.objs.size) = operate [.ref s.heap.objs.size, .ref l] (getItem (.ref l) (.ref s.heap.objs.size))) (ht : ∀ r, letTemporaryGo value (.ref l) r = pure ()) :
    wpAny (model prog w) A (subscriptTail value slice (.ref l) (.ref s.heap.objs.size)) Q E { s with heap := s.heap.push { cls := .type "slice", data := .fields #[.none, .int i ti, .none] } } := by
  have e : sliceBounds none (some (i : Int)) none vs.toArray.size = (((0 : Nat) : Int), ((min i vs.toArray.size : Nat) : Int), 1) := by
    simp only [sliceBounds, Option.getD_none, show (1 : Int) > 0 by decide, if_true, if_neg (show ¬ ((i : Int) < 0) by omega)]
    congr 1
    congr 1
    omega
  refine kmk_slice (lo := none) (hi := some (i : Int)) F N hl (by first | exact rfl | exact .none | constructor) (by first | exact rfl | exact .int | constructor) (fun D h' F' N' l1 => h D h' F' ?_ l1) hs ht (by simp only [List.size_toArray]; rw [sizeLine_eq]; omega)
  rw [kmk_pick_nat _ e] at N'
  have e2 : (vs.drop 0).take (min i vs.toArray.size - 0) = vs.take i := by rw [List.drop_zero, Nat.sub_zero, List.size_toArray, kmk_take_min]
  have e3 : ((vs.toArray.toList.drop 0).take (min i vs.toArray.size - 0)).toArray = (vs.take i).toArray := by rw [List.toList_toArray, e2]
  rw [e3] at N'
  exact N'
end
noncomputable def CP (X Y : List Str) (i : Nat) : Prop := (minL X Y).take i = (maxL X Y).take i
theorem CP.zero (X Y : List Str) : CP X Y 0 := rfl
theorem cp_turn {X Y : List Str} {i : Nat} {v : Value} {ps qs : List Value} (hP : CP X Y i) (hv : ps.toArray[i]? = some v) (hs : StrsOf ps (minL X Y)) (ht : StrsOf qs (maxL X Y)) :
    ∃ c t d u, v = .str c t ∧ (minL X Y)[i]? = some c ∧ (maxL X Y)[i]? = some d ∧ qs[i]? = some (.str d u) := by
  obtain ⟨c, t, rfl, hc⟩ := hs.get (i := i) (v := v) (by simpa using hv)
  obtain ⟨d, hd⟩ := leL_get (minmax_le X Y) hP hc
  obtain ⟨u, hu⟩ := ht.at hd
  exact ⟨c, t, d, u, rfl, hc, hd, hu⟩
theorem cp_next {X Y : List Str} {i : Nat} {c d : Str} (hP : CP X Y i) (hc : (minL X Y)[i]? = some c) (hd : (maxL X Y)[i]? = some d) (hne : (c != d) = false) : CP X Y (i + 1) := by
  have : c = d := by simpa using hne
  subst this
  exact take_next hP hc hd
theorem cp_break {X Y : List Str} {i : Nat} {c d : Str} (hP : CP X Y i) (hc : (minL X Y)[i]? = some c) (hd : (maxL X Y)[i]? = some d) (hne : (c != d) = true) : (minL X Y).take i = lcpL X Y := by
  rw [← minmax_lcp, lcp_break hP hc hd (by simpa using hne)]
theorem cp_end {X Y : List Str} {ps : List Value} (hP : CP X Y ps.toArray.size) (hs : StrsOf ps (minL X Y)) : minL X Y = lcpL X Y := by
  rw [List.size_toArray, hs.length] at hP
  rw [← minmax_lcp, lcp_full hP]
theorem keepC_t {c : Str} {t : Tok} (h1 : ¬ (c.length : Int) = 0) (h2 : (c != Str.ofString ".") = true) : true = keepC (.str c t) := by
  simp only [keepC, h2, Bool.and_true]
  symm
  simpa using fun h => h1 (by rw [h]; rfl)
theorem keepC_f1 {c : Str} {t : Tok} (h2 : (c != Str.ofString ".") = false) : false = keepC (.str c t) := by simp only [keepC, h2, Bool.and_false]
theorem keepC_f2 {c : Str} {t : Tok} (h1 : (c.length : Int) = 0) : false = keepC (.str c t) := by
  have : c.length = 0 := by omega
  simp [keepC, this]
end
-- E3
section
theorem reg_none_E3 : True := by
  w_top off
  k_with_none
  trivial
theorem mem_lcp {α : Type} [DecidableEq α] : ∀ {X Y : List α} {c : α}, c ∈ lcpL X Y → c ∈ X
  | [], _, c, h => by simp [lcpL] at h
  | _ :: _, [], c, h => by simp [lcpL] at h
  | x :: X, y :: Y, c, h => by
    unfold lcpL at h
    split at h
    · rcases List.mem_cons.mp h with rfl | h
      · exact .head _
      · exact .tail _ (mem_lcp h)
    · simp at h
theorem lcp_len {α : Type} [DecidableEq α] : ∀ {X Y : List α}, (lcpL X Y).length ≤ X.length
  | [], _ => by simp [lcpL]
  | _ :: _, [] => by simp [lcpL]
  | x :: X, y :: Y => by
    unfold lcpL
    split
    · have := lcp_len (X := X) (Y := Y); simp; omega
    · simp
theorem sum_le {k : Nat} : ∀ {l : List Str}, (∀ c ∈ l, c.length ≤ k) → (l.map (·.length)).sum ≤ l.length * k
  | [], _ => by simp
  | a :: l, h => by
    have h1 := h a (.head _)
    have h2 := sum_le (l := l) fun c hc => h c (.tail _ hc)
    simp only [List.map_cons, List.sum_cons, List.length_cons, Nat.add_mul, Nat.one_mul]
    omega
theorem comps_mem {x c : Str} (hx : x.length ≤ 100) (h : c ∈ compsOf x) : c.length ≤ 100 := by
  have h1 := (List.mem_filter.mp h).1
  have h2 := len_join (sep := Str.ofString "/") h1
  rw [StrLaws.join_split] at h2
  omega
theorem lcp_weight {x : Str} {Y : List Str} (hx : x.length ≤ 100) : ((lcpL (compsOf x) Y).map (·.length)).sum + (lcpL (compsOf x) Y).length ≤ 10201 := by
  have h1 := sum_le (k := 100) (l := lcpL (compsOf x) Y) fun c hc => comps_mem hx (mem_lcp hc)
  have h2 := lcp_len (X := compsOf x) (Y := Y)
  have h3 := comps_len hx
  omega
theorem joinOk_lcp {x : Str} {Y : List Str} (hx : x.length ≤ 100) : JoinOk (Str.ofString "/") (lcpL (compsOf x) Y) = true :=
  joinOk_of_weight (by have := lcp_weight (Y := Y) hx; omega) (by decide +kernel)
theorem joinLen_lcp {x : Str} {Y : List Str} (hx : x.length ≤ 100) : (Txt.join (Str.ofString "/") (lcpL (compsOf x) Y)).length ≤ 100000 := by
  have h1 := lcp_weight (Y := Y) hx
  have h2 := StrLaws.join_length_le (Str.ofString "/") (lcpL (compsOf x) Y)
  have h3 : (Str.ofString "/").length = 1 := by decide +kernel
  rw [h3] at h2
  show (PySem.Builtin.Str.glued (Str.ofString "/") (lcpL (compsOf x) Y)).length ≤ 100000
  rw [StrLaws.glued_eq_join]
  omega
theorem news_ne {h₀ h : Heap} {L a : Addr} {o : Obj} {news : List (Addr × Obj)} (N : News h₀ L h news) (hm : (a, o) ∈ news) : a ≠ L := (N _ hm).2.1
theorem le_big {n k : Nat} (h : n = k) (h2 : k ≤ 101) : n ≤ 100000 := by omega
theorem cp_strs {X Y : List Str} {ps : List Value} {i : Nat} {c d : Str} (hs : StrsOf ps (minL X Y)) (hP : CP X Y i) (hc : (minL X Y)[i]? = some c) (hd : (maxL X Y)[i]? = some d) (hne : (c != d) = true) : StrsOf (ps.take i) (lcpL X Y) :=
  cp_break hP hc hd hne ▸ hs.take i
theorem join_of {prog : Program} {w : World} {A : Around} {E : Value → Shared → Prop} {s : Shared} {x : Str} {t : Tok} {Q : Value → Shared → Prop} {h₀ : Heap} {L D : Addr} {n : Nat} {vs : List Value} {xs : List Str} {news : List (Addr × Obj)}
    (N : News h₀ L s.heap news) (hm : (D, ({ cls := .type "list", data := .seq vs.toArray n } : Obj)) ∈ news) (hs : StrsOf vs xs) (hok : JoinOk x xs = true) (hq : ∀ t' k, Q (.str (Txt.join x xs) t') { s with toks := k }) :
    wpAny (model prog w) A (call (.builtin "str.join") [.str x t, .ref D]) Q E s := by
  obtain ⟨l, rfl, e⟩ := hs
  exact SC.join ⟨_, N.get hm, rfl, _, rfl⟩ e hok hq
end
-- C3
section
theorem reg_none_C3 : True := by
  w_top off
  k_with_none
  trivial
theorem reg_hdr_C3_1 : True := by
  k_with_none
  k_with "mine enter" => (refine wpAny_call ?_; k_dflt (refine' enterM ?k1 ?k2 ?k3 ?k4 ?k5 ?kA ?kF ?kK ?k6 ?k7 ?k8 ?k9 ?kB ?_ ?c2 ?c3 ?c4 ?c5; (case kA => exact rfl); (case kF => exact rfl); (case kK => exact rfl); (case k1 => k_asm); (case k2 => k_asm); (case k3 => k_asm); (case k4 => first | k_asm | exact News.nil); (case k5 => k_asm); (case k6 => k_is); (case k7 => k_is); (case k8 => ktr_room); (case k9 => exact BindsTo.of_eq rfl); (case c5 => decide); (case kB => exact locs rfl); (case c2 => exact rfl); (case c3 => exact rfl); (case c4 => exact rfl); k_whole); intro g' L' h' G' FG' F' N' B' X' T'; (try dsimp only); (try k_fold))
  k_with "mine back" => (intro h' tk' K'; (have F' := keep_fr (by k_asm) K'); (have N' := keep_news (by k_asm) K'); clear K'; (try dsimp only); (try k_sweep))
  k_with "mine args" => ((case k1 => k_asm); (case k2 => k_asm); (case k3 => k_asm); (case k4 => k_asm); (case kd => ktr_room); (case ku => ktr_units))
  k_with "mine enterC" => (refine wpAny_call ?_; k_dflt (refine' enterMC ?k1 ?k2 ?k3 ?k4 ?k5 ?kA ?kF ?kK ?k6 ?k7 ?k8 ?k9 ?kB ?kD ?_ ?c2 ?c3 ?c4; (case kA => exact rfl); (case kF => exact rfl); (case kK => exact rfl); (case k1 => k_asm); (case k2 => k_asm); (case k3 => k_asm); (case k4 => first | k_asm | exact News.nil); (case k5 => k_asm); (case k6 => k_is); (case k7 => k_is); (case k8 => ktr_room); (case k9 => exact BindsTo.of_eq rfl); (case kB => exact rfl); (case kD => decide +kernel); (case c2 => exact rfl); (case c3 => exact rfl); (case c4 => exact rfl); k_whole); intro g' L' h' tk' cells' G' FG' F' N' Y' B' X' T' l1; (try k_lt l1); k_cells Y'; (try simp only [List.cons_append, List.nil_append] at N'); (try dsimp only); (try k_fold))
  k_with "mine steps" => repeat' (first | (k_unfold; (try dsimp only)) | walk1 | (dsimp only; walk1) | (leave1; (try dsimp only)))
  trivial
theorem reg_hdr_C3_2 : True := by
  k_with "k_ne" => (refine neN ?_; (try dsimp only); first | with_reducible assumption | exact Ne.symm (by with_reducible assumption))
  k_with "FinE" => ((unfold LCg.FinE); intro D' h' tk' F' N' o1'; (try dsimp only [LCg.Off1] at o1'); (repeat (have h9' := o1'.1; replace o1' := o1'.2)); (try clear o1'); (try simp only [List.nil_append, List.cons_append] at N'); (try dsimp only))
  k_with "FinA" => ((unfold LCg.FinA); intro D' h' tk' F' N' o1'; (try dsimp only [LCg.Off1] at o1'); (repeat (have h9' := o1'.1; replace o1' := o1'.2)); (try clear o1'); (try simp only [List.nil_append, List.cons_append] at N'); (try dsimp only))
  k_with "CompRest" => (with_unfolding_all first | (refine LCg.CompRest.succ ?_; intro v' I' oI' C' oC' D' m' h' tk' E' hv' hC' hx' F' N' off' ne'; (first | lcg_open hv' | (obtain ⟨t9', hv9'⟩ := hv'; subst hv9')); (try dsimp only [LCg.Off3] at off'); (have h9' := ne'.1; have h9' := ne'.2.1; have h9' := ne'.2.2; clear ne'); (repeat (have h9' := off'.1.1; have h9' := off'.1.2.1; have h9' := off'.1.2.2; replace off' := off'.2)); (try clear off')) | refine LCg.CompRest.zero ?_)
  trivial

theorem reg_c3_1 : True := by
  k_with "call ref" => (k_here; (with_reducible show wpAny _ _ (call (Value.ref 122) [Value.str _ _]) _ _ _); k_dflt (refine' fspath_c ?k1 ?k2 ?k3 ?k4 ?kd ?ku ?_; walk_at "mine args"); walk_at "mine back")
  trivial
theorem IsList.to {g h : Heap} {l : Addr} {vs : Array Value} (h1 : h.IsList l vs) (G : ∀ b o, b ∉ ([] : List (Addr × Obj)).map (·.1) → h.get? b = some o → g.get? b = some o) : g.IsList l vs :=
  h1.at fun o e => G _ o (by simp) e
theorem IsList.up {g h : Heap} {l L : Addr} {vs : Array Value} {m : Str → Option Value} (h1 : g.IsList l vs) (F : Fr g L h m) : h.IsList l vs := h1.at fun o e => F.keep _ o e
theorem two_items {a b v : Value} {i : Nat} (h : (#[a, b] : Array Value)[i]? = some v) : v = a ∨ v = b := by
  match i, h with
  | 0, h => exact .inl (Option.some.inj h).symm
  | 1, h => exact .inr (Option.some.inj h).symm
  | n + 2, h => simp at h
theorem map_new {prog : Program} {w : World} {A : Around} {E : Value → Shared → Prop} {s : Shared} {h₀ : Heap} {L l : Addr} {m : Str → Option Value} {news : List (Addr × Obj)} {Q : Value → Shared → Prop} {items : Array Value}
  (F : Fr h₀ L s.heap m) (N : News h₀ L s.heap news) (hl : s.heap.IsList l items)
  (h : ∀ I T M h', Fr h₀ L h' m → News h₀ L h' ((M, mapObj T (.ref 122)) :: (T, { cls := .type "tuple", data := .seq #[.ref I] }) :: (I, { cls := .type "list_iterator", data := .fields #[.ref l, .int 0 0] }) :: news) → (@Ne Nat I M ∧ @Ne Nat I T ∧ @Ne Nat I l) → (∀ p ∈ news, p.1 < I) → Q (.ref M) {s with heap := h'}) :
  wpAny (model prog w) A (call (.type "map") [.ref 122, .ref l]) Q E s := by
  refine call_map hl fun I T M h' hI hT hM k zM zI zT n1 n2 n3 => h I T M h' (F.keeps k) (fun p hp => ?_) ⟨n1, n2, ?_⟩ (fun p hp => Nat.lt_of_lt_of_le (Heap.lt_size (N p hp).1) zI)
  · have f : ∀ b, s.heap.objs.size ≤ b → b ≠ L ∧ h₀.get? b = none := fun b hb => ⟨Nat.ne_of_gt (Nat.lt_of_lt_of_le F.ns.lt hb), by
      cases q : h₀.get? b with
      | none => rfl
      | some o => exact absurd (Heap.lt_size (F.keep _ _ q)) (Nat.not_lt.mpr hb)⟩
    rcases List.mem_cons.mp hp with rfl | hp
    · exact ⟨hM, f _ zM⟩
    rcases List.mem_cons.mp hp with rfl | hp
    · exact ⟨hT, f _ zT⟩
    rcases List.mem_cons.mp hp with rfl | hp
    · exact ⟨hI, f _ zI⟩
    · exact ⟨k _ _ (N p hp).1, (N p hp).2⟩
  · obtain ⟨o, e, _⟩ := hl
    exact Nat.ne_of_gt (Nat.lt_of_lt_of_le (Heap.lt_size e) zI)
theorem tup_map {prog : Program} {w : World} {A : Around} {E : Value → Shared → Prop} {s : Shared} {h₀ : Heap} {L l I T M : Addr} {m : Str → Option Value} {news : List (Addr × Obj)} {Q : Value → Shared → Prop} {items : Array Value} {P : Value → Prop} (hh : A.handled = none)
  (F : Fr h₀ L s.heap m) (N : News h₀ L s.heap ((M, mapObj T (.ref 122)) :: (T, { cls := .type "tuple", data := .seq #[.ref I] }) :: (I, { cls := .type "list_iterator", data := .fields #[.ref l, .int 0 0] }) :: news)) (hne : @Ne Nat I M ∧ @Ne Nat I T ∧ @Ne Nat I l) (hlt : ∀ p ∈ news, p.1 < I)
  (hl : s.heap.IsList l items) (hn : items.size ≤ sizeLine) (hall : ∀ v ∈ items, P v) (hf : Hands prog w A.in1.in1.in1.in1 (.ref 122) P s s.heap I)
   (h : ∀ D h' tk', Fr h₀ L h' m → News h₀ L h' ((D, { cls := .type "tuple", data := .seq items }) :: news) → (∀ p ∈ news, p.1 < D) → Q (.ref D) {s with heap := h', toks := tk'}) :
  wpAny (model prog w) A (call (.type "tuple") [.ref M]) Q E s := by
  have zM := N (M, mapObj T (.ref 122)) (.head _)
  have zT := N _ (.tail _ (.head _))
  have zI := N _ (.tail _ (.tail _ (.head _)))
  have zn : ∀ p ∈ news, s.heap.get? p.1 = some p.2 ∧ p.1 ≠ L ∧ h₀.get? p.1 = none := fun p hp => N p (.tail _ (.tail _ (.tail _ hp)))
  refine tuple_map hh hne.2.2 hne.1 hne.2.1 hl zT.1 zM.1 hf hall ⟨_, zI.1, rfl, rfl⟩ hn fun D h' tk' k hD lt => ?_
  have F' : Fr h₀ L h' m := ⟨F.ns.at fun o e => k L o (Ne.symm zI.2.1) e, fun b o e => k b o (fun q => by rw [q, zI.2.2] at e; cases e) (F.keep b o e), F.above⟩
  refine h D h' tk' F' (fun p hp => ?_) fun p hp => lt p.1 p.2 (Nat.ne_of_lt (hlt p hp)) (zn p hp).1
  rcases List.mem_cons.mp hp with rfl | hp
  · refine ⟨hD, ?_, ?_⟩
    · obtain ⟨oL, _, _, e, _⟩ := F.ns
      exact Nat.ne_of_gt (lt L oL (Ne.symm zI.2.1) e)
    · cases q : h₀.get? D with
      | none => rfl
      | some o => exact absurd (lt D o (fun e => by rw [e, zI.2.2] at q; cases q) (F.keep _ _ q)) (Nat.lt_irrefl _)
  · exact ⟨k _ _ (Nat.ne_of_lt (hlt p hp)) (zn p hp).1, (zn p hp).2⟩
theorem strs_two {x y : Str} {t1 t2 : Tok} : ∀ v ∈ (#[.str x t1, .str y t2] : Array Value), ∃ c t, v = .str c t := by
  intro v hv
  simp at hv
  rcases hv with rfl | rfl <;> exact ⟨_, _, rfl⟩
theorem reg_c3_2 : True := by
  k_with "exec Try" => ((with_reducible show wpAny _ _ (exec (Stmt.Try _ (_ :: _) _ [] _) _) _ _ _); refine wpAny_Try_except ?_)
  k_with "exec Assign cons ListComp" => (k_here; (with_reducible show wpAny _ _ (exec (Stmt.Assign _ (Expr.ListComp _ [⟨Expr.Name _ _, Expr.Name "paths" _, [], _⟩] _ _) _) _) _ _ _); k_dflt (refine Assign_comp_tup (by k_asm) (by rfl) (by with_unfolding_all rfl) (by rfl) (by decide) (by rfl) (by decide) (by rfl) (by rfl) (by rfl) ?_); walk_at "eval Name"; k_dflt (refine SrcTup.ledger (by rfl) (by k_asm) (by k_asm) (by k_mem) (by first | size_fits | exact Nat.le_of_ble_eq_true rfl) ?_); intro g'; lcg_lit)
  k_with "call builtin:str.split" => (k_here; (with_reducible show wpAny _ _ (call (Value.builtin "str.split") [Value.str _ _, Value.str _ _]) _ _ _); k_dflt (refine KSpl.split1 (by k_asm) (by k_asm) (by decide) ?_ (by size_fits)); intro D' l' h' k' e' a' F' N' l1; (try k_lt l1); (try k_sweep))
  k_with "assign Tuple" => (k_here; (with_reducible show wpAny _ _ (assign (Expr.Tuple [_] _ _) _ (Value.ref _)) _ _ _); k_dflt (refine' assign_setN ?k1 ?k2 ?k3 ?k4 ?k5 ?k6 ?_; (case k1 => k_asm); (case k2 => k_asm); (case k3 => k_mem); (case k4 => exact rfl); (case k5 => exact rfl); (case k6 => exact rfl)); intro h' F' N'; (try k_sweep))
  trivial
theorem str_of {l : List (Str × Tok)} {v : Value} (h : v ∈ (strValues l).toArray.toList) : ∃ c t, (c, t) ∈ l ∧ v = .str c t := by
  rw [List.toList_toArray] at h
  obtain ⟨p, hp, rfl⟩ := List.mem_map.mp h
  exact ⟨p.1, p.2, hp, rfl⟩
theorem reg_c3_3 : True := by
  k_with "Same" => exact Same.intro (by k_asm) (by k_asm)
  k_with "eval ListComp" => (k_here; (with_reducible show wpAny _ _ (eval (Expr.ListComp _ [⟨_, _, [_], _⟩] _ _) _) _ _ _); k_dflt (refine LCt.ListComp_T (F₀ := by k_asm) (by with_unfolding_all rfl) (by decide) (by rfl) (by decide) (by rfl) ?_); walk1; k_dflt (refine LCt.CompSrcT.ledger (by rfl) (by k_asm) (by k_asm) (by k_mem) (by first | size_fits | exact len_parts (by assumption) (by assumption)) ?_); intro g'; k_dflt (refine' compT_filter keepC ?hS ?_ ?_ ?_; (case hS => exact Or.inr ⟨_, by k_mem, rfl, _, rfl⟩)); all_goals (first | (intro v' I' oI' C' oC' D' ys' m' h' tk' E' hv' hkp' hC' hx' F' N' off' ne'; obtain ⟨c', t', hm', hv9⟩ := str_of hv'; subst hv9; clear off' ne') | (intro v' I' oI' C' oC' D' ys' m' h' tk' E' hv' hC' hx' F' N' off' ne'; obtain ⟨c', t', hm', hv9⟩ := str_of hv'; subst hv9; (have hc9 := part_len hm' (by assumption) (by assumption)); clear off' ne') | (intro ys' hys')))
  k_with "call type:map" => (k_here; k_dflt (refine' map_new ?k1 ?k2 ?k3 ?_; (case k1 => k_asm); (case k2 => k_asm); (case k3 => exact IsList.up (by assumption) (by k_asm))); intro I' T' M' h' F' N' ne' l1'; (try k_sweep))
  trivial
section
variable {w : World} {mean : ExcName → Option Value} {mg mb : Str → Option Value}
 {dp un : Nat} {gd : Option (List Code)} {cn : Str} {sn : List (Str × NameKind)} {sg sc : Bool} {sm : List (Str × Const)} {a : Addr} {ccd : Value} {cl : List (Str × Addr)} {outer : List Env} {A₀ : Around} {base h₀ : Heap} {L : Addr} {m : Str → Option Value} {s : Shared}
    {Q E : Value → Shared → Prop} (B : Below A₀ base outer h₀) (F : Fr h₀ L s.heap m) (X : (Mine.hd.heap_39 w.params).In h₀) (T : Top Mine.hd.view_39 (looseW Mine.hd.view_39 []) mean mg mb h₀)
include B F X T

theorem hands_fspath {news : List (Addr × Obj)} {I : Addr} {o : Obj} (N : News h₀ L s.heap news) (hI : (I, o) ∈ news)
    (hd : dp + 1 < recursionLimit) (hu : un + 12 < cLine) : Hands Challenge.rw_pd0139_01.row.prog w { handled := none, depth := dp, frames := some (envX cn ⟨.function, sn, sg, sc, sm⟩ L a ccd cl :: outer), guards := gd, units := un + 4 } (.ref 122) (fun v => ∃ c t, v = .str c t) s s.heap I := by
  rintro v h tk Q E ⟨c, t, rfl⟩ k hQ
  have zI := N _ hI
  have F' : Fr h₀ L h m := ⟨F.ns.at fun o e => k L o (Ne.symm zI.2.1) e, fun b o e => k b o (fun q => by rw [q, zI.2.2] at e; cases e) (F.keep b o e), F.above⟩
  exact fspath_c (s := { s with heap := h, toks := tk }) (un := un + 4) B F' X T hd (by omega) hQ
theorem reg_c3_4 : True := by
  k_with "call type:tuple" => (k_here; k_dflt (refine' tup_map rfl ?k1 ?k2 ?k3 ?k4 ?k5 ?k6 strs_two ?k7 ?_; (case k1 => k_asm); (case k2 => k_asm); (case k3 => assumption); (case k4 => assumption); (case k5 => exact IsList.up (by assumption) (by k_asm)); (case k6 => size_fits); (case k7 => exact hands_fspath (by k_asm) (by k_asm) (by k_asm) (by k_asm) (by k_asm) (by k_mem) (by ktr_room) (by ktr_units))); intro D' h' tk' F' N' l1; (try k_lt l1); (try k_sweep))
  k_with "CompSrc" => (k_here; k_dflt (refine LCg.CompSrc.ledger (by rfl) (by k_asm) (by k_asm) (by k_mem) (by first | size_fits | exact Nat.le_of_ble_eq_true rfl) ?_; intro g'; lcg_lit))
  k_with "call builtin:min" => (k_here; k_dflt (refine' min_led rfl ?k1 ?k2 ?k3 ?k4 ?k5 ?k6 ?k7 ?k8 ?_; (case k1 => k_asm); (case k2 => k_asm); (case k3 => k_mem); (case k4 => k_mem); (case k5 => k_mem); (case k6 => exact strs_filter (by assumption) (by assumption)); (case k7 => exact strs_filter (by assumption) (by assumption)); (case k8 => ktr_units)); intro p' ps' h' tk' hp' hs' F' N'; (try k_sweep))
  k_with "call builtin:max" => (k_here; k_dflt (refine' max_led rfl ?k1 ?k2 ?k3 ?k4 ?k5 ?k6 ?k7 ?k8 ?_; (case k1 => k_asm); (case k2 => k_asm); (case k3 => k_mem); (case k4 => k_mem); (case k5 => k_mem); (case k6 => exact strs_filter (by assumption) (by assumption)); (case k7 => exact strs_filter (by assumption) (by assumption)); (case k8 => ktr_units)); intro p' ps' h' tk' hp' hs' F' N'; (try k_sweep))
  k_with "subscriptTail" => (k_here; (with_reducible show wpAny _ _ (subscriptTail _ _ (Value.ref _) (Value.int (Nat.cast _) _)) _ _ _); k_dflt (refine' lget_at ?k1 ?k2 ?k3 ?k4 ?_ ?k5; (case k1 => k_asm); (case k3 => assumption); (case k2 => exact List.mem_append_left _ (by assumption)); (case k4 => assumption); (case k5 => with_unfolding_all rfl)))
  k_with "subscriptTail Name Name" => (k_here; (with_reducible show wpAny _ _ (subscriptTail _ _ (Value.ref _) (Value.int (Nat.cast _) _)) _ _ _); k_dflt (refine' lget_at ?k1 ?k2 ?k3 ?k4 ?_ ?k5; (case k1 => k_asm); (case k3 => assumption); (case k2 => exact List.mem_append_left _ (by assumption)); (case k4 => assumption); (case k5 => with_unfolding_all rfl)))
  k_with "subscriptTail Name Slice ref ref" => (k_here; k_dflt (refine' slice_upto ?zsF ?zsN ?zsl ?zsf ?_ ?zss ?zst; (case zsF => k_asm); (case zsN => k_asm); (case zsl => exact ⟨_, News.get (by k_asm) (by first | assumption | exact List.mem_append_left _ (by assumption)), rfl, _, rfl⟩); (case zsf => assumption); (case zss => with_unfolding_all rfl); (case zst => intro _; with_unfolding_all rfl)); intro D' h' F' N' l1; (clear l1); (try k_sweep))
  k_with "EnumTurn" => first | exact EnumTurn.next (by k_asm) (by k_asm) (cp_next (by assumption) (by assumption) (by assumption) (by assumption)) | ((unfold EnumTurn); (try dsimp only))
  k_with "call builtin:str.join" => (k_here; k_dflt (refine' join_of ?zjN ?zjhm ?zjhs ?zjhok ?_; (case zjN => k_asm); (case zjhm => first | k_mem | assumption | exact List.mem_append_left _ (by assumption)); (case zjhs => first | exact cp_strs (by assumption) (by assumption) (by assumption) (by assumption) (by assumption) | assumption); (case zjhok => exact joinOk_lcp (by assumption))); intro t' k')
  trivial
theorem commonpath_c {x y z : Str} {t1 t2 : Tok} {l : Addr} (hx : x.length ≤ 100) (hy : y.length ≤ 100) (hxs : Txt.startswith x (Str.ofString "/") = true) (hys : Txt.startswith y (Str.ofString "/") = true) (hl : s.heap.IsList l #[.str x t1, .str y t2])
    (hz : Str.ofString "/" ++ Txt.join (Str.ofString "/") (lcpL (compsOf x) (compsOf y)) = z) (hd : dp + 2 < recursionLimit) (hu : un + 40 < cLine) (hret : ∀ t h' tk', (∀ b o, s.heap.get? b = some o → h'.get? b = some o) → Q (.str z t) {s with heap := h', toks := tk'}) :
    wpAny (model Challenge.rw_pd0139_01.row.prog w) (ktrTop dp un gd cn ⟨.function, sn, sg, sc, sm⟩ L a ccd cl outer) (call (.ref 155) [.ref l]) Q E s := by
  revert X; k_fill; intro X
  (refine wpAny_call ?_); k_dflt (refine' enterMC (binds := [(Str.ofString "paths", .ref l)]) ?k1 ?k2 ?k3 ?k4 ?k5 ?kA ?kF ?kK ?k6 ?k7 ?k8 ?k9 ?kB ?kD ?_ ?c2 ?c3 ?c4; (case kA => exact rfl); (case kF => exact rfl); (case kK => exact rfl); (case k1 => k_asm); (case k2 => k_asm); (case k3 => k_asm); (case k4 => first | k_asm | exact News.nil); (case k5 => k_asm); (case k6 => k_is); (case k7 => k_is); (case k8 => ktr_room); (case k9 => exact BindsTo.of_eq rfl); (case kB => exact rfl); (case kD => decide +kernel); (case c2 => exact rfl); (case c3 => exact rfl); (case c4 => exact rfl); k_whole)
  intro g' L' h' tk' cells' G' FG' F' N' Y' B' X' T' l1
  (try k_lt l1); k_cells Y'; (try simp only [List.cons_append, List.nil_append] at N'); (try dsimp only); (try k_fold)
  replace F' : Fr g' L' h' (fun y => if y = Str.ofString "paths" then some (.ref l) else none) := by with_unfolding_all exact F'
  have hl' := IsList.to hl (by assumption)
  k_steps
  k_dflt (refine setcomp_true (by k_asm) (by rfl) (by decide) (by rfl) (by decide) (by rfl) ?_)
  walk_at "eval Name"
  k_dflt (refine ⟨_, _, _, rfl, rfl, by k_asm, by k_asm, .inr ⟨_, by k_mem, rfl, _, rfl⟩, by exact Nat.zero_lt_succ _, ?_, ?_⟩)
  · intro i' v' I' oI' C' oC' D' oD' m' h' tk' E' hv' hC' hx' F' N' off' ne'
    try simp only [LCg.Off3, and_true] at off'
    rcases two_items hv' with rfl | rfl
    all_goals k_steps
    all_goals first | (rw [hxs]; done) | (rw [hys]; done) | k_asm
  · intro D' h' tk' F' N' o1'
    try dsimp only [LCg.Off1] at o1'
    repeat (have h9' := o1'.1; replace o1' := o1'.2)
    try clear o1'
    walk_at "mine steps"
    all_goals (first | exact keepC_t (by assumption) (by assumption) | exact keepC_f1 (by assumption) | exact keepC_f2 (by assumption) | skip)
    rename StrsOf _ (minL _ _) => hsP
    rename StrsOf _ (maxL _ _) => hsQ
    have hP100 : (minL (compsOf x) (compsOf y)).length ≤ 101 := minL_len (comps_len hx) (comps_len hy)
    have hQ100 : (maxL (compsOf x) (compsOf y)).length ≤ 101 := maxL_len (comps_len hx) (comps_len hy)
    have hJ1 := joinLen_lcp (Y := compsOf y) hx
    have hP1 := le_big hsP.length hP100
    have hQ1 := le_big hsQ.length hQ100
    k_dflt (refine' enum_call (CP (compsOf x) (compsOf y)) rfl ?k1 ?k2 ?k3 ?k4 (CP.zero _ _) ?_ ?_; (case k1 => k_asm); (case k2 => k_asm); (case k3 => exact ⟨_, News.get (by k_asm) (by assumption), rfl, _, rfl⟩); (case k4 => exact news_ne (by k_asm) (by assumption)))
    · intro i' v' ti' h' tk' own' hv' hP' F' N'
      obtain ⟨c', t', d', u', rfl, hc', hd', hu'⟩ := cp_turn hP' hv' hsP hsQ
      try k_sweep
      walk_at "mine steps"
      rw [hz]
      exact hret _ _ _ (kept0 (by assumption) (by assumption))
    · intro h' tk' a' b' F' N' hP'
      rw [cp_end hP' hsP] at hsP
      walk_at "mine steps"
      rw [hz]
      exact hret _ _ _ (kept0 (by assumption) (by assumption))
end
end
-- L1
section
theorem reg_none_L1 : True := by
  w_top off
  k_with_none
  trivial
/-- a while's turn, with break and continue -/
noncomputable def WhTurn (h₀ : Heap) (L : Addr) (s : Shared) (J : Nat → (Str → Option Value) → List (Addr × Obj) → Prop) (n : Nat) (Q : Flow → Shared → Prop) (f : Flow) (s' : Shared) : Prop :=
  match f with
  | .brk => Q .next s'
  | .ret v => Q (.ret v) s'
  | _ => ∃ h' tk m₂ news₂ n', s' = { s with heap := h', toks := tk } ∧ Fr h₀ L h' m₂ ∧ News h₀ L h' news₂ ∧ n' < n ∧ J n' m₂ news₂
theorem WhTurn.go {h₀ h' : Heap} {L : Addr} {s : Shared} {J : Nat → (Str → Option Value) → List (Addr × Obj) → Prop} {n n' tk : Nat} {Q : Flow → Shared → Prop} {m₂ : Str → Option Value} {news₂ : List (Addr × Obj)} {f : Flow} (hf : f = .next ∨ f = .cont)
    (F : Fr h₀ L h' m₂) (N : News h₀ L h' news₂) (hn : n' < n) (hJ : J n' m₂ news₂) : WhTurn h₀ L s J n Q f { s with heap := h', toks := tk } := by
  rcases hf with rfl | rfl <;> exact ⟨h', tk, m₂, news₂, n', rfl, F, N, hn, hJ⟩
section
variable {prog : Program} {w : World} {A : Around} {E : Value → Shared → Prop} {Q : Flow → Shared → Prop} {s : Shared} {env : Env} {h₀ : Heap} {L : Addr}
theorem While_J {test : Expr} {body : List Stmt} {pos : Pos} {m : Str → Option Value} {news : List (Addr × Obj)} (J : Nat → (Str → Option Value) → List (Addr × Obj) → Prop) {n₀ : Nat}
    (F : Fr h₀ L s.heap m) (N : News h₀ L s.heap news) (hJ : J n₀ m news)
    (turn : ∀ n m₁ news₁ h₁ tk₁, Fr h₀ L h₁ m₁ → News h₀ L h₁ news₁ → J n m₁ news₁ →
      wpAny (model prog w) A (isTrue test env (eval test env)) (fun b s₂ =>
        if b = true then wpAny (model prog w) A (execs body env) (WhTurn h₀ L s J n Q) E s₂ else Q .next s₂) E { s with heap := h₁, toks := tk₁ })
    (hE : PassesOwn (model prog w) A env E := by passes_own) :
    wpAny (model prog w) A (exec (.While test body [] pos) env) Q E s := by
  refine wpAny_While (codeAny_whileLoop (fun n s' => ∃ h₁ tk₁ m₁ news₁, s' = { s with heap := h₁, toks := tk₁ } ∧ Fr h₀ L h₁ m₁ ∧ News h₀ L h₁ news₁ ∧ J n m₁ news₁) ?_ n₀ ⟨s.heap, s.toks, m, news, rfl, F, N, hJ⟩)
  rintro n s' ⟨h₁, tk₁, m₁, news₁, rfl, F₁, N₁, J₁⟩
  refine wpAny_mono (turn n m₁ news₁ h₁ tk₁ F₁ N₁ J₁) (fun b s₂ h₂ => ?_) hE
  cases b with
  | false =>
    simp only [Bool.false_eq_true, if_false] at h₂ ⊢
    exact wpAny_execs_nil h₂
  | true =>
    simp only [if_true] at h₂ ⊢
    refine wpAny_mono h₂ (fun f s₃ h₃ => ?_) hE
    cases f with
    | brk => exact h₃
    | ret v => exact h₃
    | next =>
      obtain ⟨h', tk, m₂, news₂, n', rfl, F₂, N₂, hn, J₂⟩ := h₃
      exact ⟨n', hn, h', tk, m₂, news₂, rfl, F₂, N₂, J₂⟩
    | cont =>
      obtain ⟨h', tk, m₂, news₂, n', rfl, F₂, N₂, hn, J₂⟩ := h₃
      exact ⟨n', hn, h', tk, m₂, news₂, rfl, F₂, N₂, J₂⟩
end
theorem bind_start3 {m : Str → Option Value} {a b c : Str} : m = fun y => if y = a then m a else if y = b then m b else if y = c then m c else m y := by
  funext y
  by_cases h1 : y = a
  · rw [if_pos h1, h1]
  · by_cases h2 : y = b
    · rw [if_neg h1, if_pos h2, h2]
    · by_cases h3 : y = c
      · rw [if_neg h1, if_neg h2, if_pos h3, h3]
      · rw [if_neg h1, if_neg h2, if_neg h3]
/-- a while's turn in which three names change -/
noncomputable def Wh3 (h₀ : Heap) (L : Addr) (m : Str → Option Value) (a b c : Str) (s : Shared) (P : Nat → Option Value → Option Value → Option Value → List (Addr × Obj) → Prop) (n : Nat) (Q : Flow → Shared → Prop) (f : Flow) (s' : Shared) : Prop :=
  match f with
  | .brk => Q .next s'
  | .ret v => Q (.ret v) s'
  | _ => ∃ h' tk A B C news₂ n', s' = { s with heap := h', toks := tk } ∧ Fr h₀ L h' (fun y => if y = a then A else if y = b then B else if y = c then C else m y) ∧ News h₀ L h' news₂ ∧ n' < n ∧ P n' A B C news₂
theorem Wh3.go {h₀ h' : Heap} {L : Addr} {m m' : Str → Option Value} {a b c : Str} {s : Shared} {P : Nat → Option Value → Option Value → Option Value → List (Addr × Obj) → Prop} {n n' tk : Nat} {Q : Flow → Shared → Prop} {A B C : Option Value} {news₂ : List (Addr × Obj)} {f : Flow} (hf : f = .next ∨ f = .cont)
    (F : Fr h₀ L h' m') (N : News h₀ L h' news₂) (hm : m' = fun y => if y = a then A else if y = b then B else if y = c then C else m y) (hn : n' < n) (hP : P n' A B C news₂) : Wh3 h₀ L m a b c s P n Q f { s with heap := h', toks := tk } := by
  subst hm
  rcases hf with rfl | rfl <;> exact ⟨h', tk, A, B, C, news₂, n', rfl, F, N, hn, hP⟩
section
variable {prog : Program} {w : World} {A : Around} {E : Value → Shared → Prop} {Q : Flow → Shared → Prop} {s : Shared} {env : Env} {h₀ : Heap} {L : Addr}
theorem While_3 {test : Expr} {body : List Stmt} {pos : Pos} {m : Str → Option Value} {news : List (Addr × Obj)} (a b c : Str) (P : Nat → Option Value → Option Value → Option Value → List (Addr × Obj) → Prop) (n₀ : Nat)
    (F : Fr h₀ L s.heap m) (N : News h₀ L s.heap news) (h0 : P n₀ (m a) (m b) (m c) news)
    (turn : ∀ n A₁ B₁ C₁ news₁ h₁ tk₁, P n A₁ B₁ C₁ news₁ → Fr h₀ L h₁ (fun y => if y = a then A₁ else if y = b then B₁ else if y = c then C₁ else m y) → News h₀ L h₁ news₁ →
      wpAny (model prog w) A (isTrue test env (eval test env)) (fun b' s₂ =>
        if b' = true then wpAny (model prog w) A (execs body env) (Wh3 h₀ L m a b c s P n Q) E s₂ else Q .next s₂) E { s with heap := h₁, toks := tk₁ })
    (hE : PassesOwn (model prog w) A env E := by passes_own) :
    wpAny (model prog w) A (exec (.While test body [] pos) env) Q E s := by
  refine While_J (fun n m₁ news₁ => ∃ A₁ B₁ C₁, m₁ = (fun y => if y = a then A₁ else if y = b then B₁ else if y = c then C₁ else m y) ∧ P n A₁ B₁ C₁ news₁) (n₀ := n₀) F N ⟨m a, m b, m c, bind_start3, h0⟩ ?_ hE
  rintro n m₁ news₁ h₁ tk₁ F₁ N₁ ⟨A₁, B₁, C₁, rfl, hP⟩
  refine wpAny_mono (turn n A₁ B₁ C₁ news₁ h₁ tk₁ hP F₁ N₁) (fun b' s₂ h₂ => ?_) fun _ _ e => e
  cases b' with
  | false => exact h₂
  | true =>
    simp only [if_true] at h₂ ⊢
    refine wpAny_mono h₂ (fun f s₃ h₃ => ?_) fun _ _ e => e
    cases f with
    | brk => exact h₃
    | ret v => exact h₃
    | next =>
      obtain ⟨h', tk, A', B', C', news₂, n', rfl, F₂, N₂, hn, hP'⟩ := h₃
      exact ⟨h', tk, _, news₂, n', rfl, F₂, N₂, hn, A', B', C', rfl, hP'⟩
    | cont =>
      obtain ⟨h', tk, A', B', C', news₂, n', rfl, F₂, N₂, hn, hP'⟩ := h₃
      exact ⟨h', tk, _, news₂, n', rfl, F₂, N₂, hn, A', B', C', rfl, hP'⟩
end
/-- a for's turn that changes one object -/
noncomputable def OneTurn {S : Type} (h₀ : Heap) (L : Addr) (m : Str → Option Value) (x : Str) (D : Addr) (ob : S → Obj) (led : List (Addr × Obj)) (R : Nat → S → Prop) (i : Nat) (s : Shared) (f : Flow) (s' : Shared) : Prop :=
  f = .next ∧ ∃ σ h' tk v, s' = { s with heap := h', toks := tk } ∧ Fr h₀ L h' (fun y => if y = x then v else m y) ∧ News h₀ L h' ((D, ob σ) :: led) ∧ R (i + 1) σ
theorem OneTurn.go {S : Type} {h₀ h' : Heap} {L : Addr} {m : Str → Option Value} {x : Str} {D : Addr} {ob : S → Obj} {led : List (Addr × Obj)} {R : Nat → S → Prop} {i tk : Nat} {s : Shared} {v : Option Value} (σ : S)
    (F : Fr h₀ L h' (fun y => if y = x then v else m y)) (N : News h₀ L h' ((D, ob σ) :: led)) (hR : R (i + 1) σ) : OneTurn h₀ L m x D ob led R i s .next { s with heap := h', toks := tk } := ⟨rfl, σ, h', tk, v, rfl, F, N, hR⟩
theorem bind_one {m : Str → Option Value} {x : Str} {a b : Option Value} : (fun y => if y = x then a else (fun y => if y = x then b else m y) y) = fun y => if y = x then a else m y := by
  funext y
  by_cases h : y = x <;> simp [h]
section
variable {prog : Program} {w : World} {A : Around} {E : Value → Shared → Prop} {Q : Flow → Shared → Prop} {s : Shared} {env : Env} {h₀ : Heap}
end
end
-- L2
section
theorem reg_none_L2 : True := by
  w_top off
  k_with_none
  trivial
/-- a for's turn that changes the ledger -/
noncomputable def LedTurn (h₀ : Heap) (L : Addr) (m : Str → Option Value) (x : Str) (I : Addr) (oI : Obj) (J : List (Addr × Obj) → Prop) (s : Shared) (f : Flow) (s' : Shared) : Prop :=
  (f = .next ∨ f = .cont) ∧ ∃ news₂ h' tk v, s' = { s with heap := h', toks := tk } ∧ Fr h₀ L h' (fun y => if y = x then v else m y) ∧ News h₀ L h' ((I, oI) :: news₂) ∧ (∀ p ∈ news₂, p.1 ≠ I) ∧ J news₂
theorem LedTurn.go {h₀ h' : Heap} {L : Addr} {m : Str → Option Value} {x : Str} {I : Addr} {oI : Obj} {J : List (Addr × Obj) → Prop} {s : Shared} {tk : Nat} {v : Option Value} {f : Flow} {news₂ : List (Addr × Obj)} (hf : f = .next ∨ f = .cont)
    (F : Fr h₀ L h' (fun y => if y = x then v else m y)) (N : News h₀ L h' ((I, oI) :: news₂)) (hI : ∀ p ∈ news₂, p.1 ≠ I) (hJ : J news₂) : LedTurn h₀ L m x I oI J s f { s with heap := h', toks := tk } := ⟨hf, news₂, h', tk, v, rfl, F, N, hI, hJ⟩
section
variable {prog : Program} {w : World} {A : Around} {E : Value → Shared → Prop} {Q : Flow → Shared → Prop} {s : Shared} {env : Env} {h₀ : Heap}
theorem for_led {x : Str} {body : List Stmt} {I : Addr} {fp : List Addr} {n : Nat} {P : Nat → Value → Prop} {St : Nat → Heap → Prop} {m : Str → Option Value} {news : List (Addr × Obj)} (J : Nat → List (Addr × Obj) → Prop)
    (W : Walks prog w A I fp [I] n P St) (hIf : I ∈ fp) (hfp : ∀ b ∈ fp, b = I ∨ (∃ o, h₀.get? b = some o) ∨ ∃ o, ∀ i news, J i news → (b, o) ∈ news) (hstI : ∀ i h, St i h → ∃ o, h.get? I = some o) (hst : St 0 s.heap) (hL : env.locals ∉ fp) (hI : h₀.get? I = none) (hnI : ∀ p ∈ news, p.1 ≠ I)
    (F : Fr h₀ env.locals s.heap m) (N : News h₀ env.locals s.heap news) (hJ : J 0 news)
    (step : ∀ i v news₁ h tk oI, i < n → P i v → J i news₁ → (∀ p ∈ news₁, p.1 ≠ I) → Fr h₀ env.locals h (fun y => if y = x then some v else m y) → News h₀ env.locals h ((I, oI) :: news₁) →
      wpAny (model prog w) A (execs body env) (LedTurn h₀ env.locals m x I oI (J (i + 1)) s) E { s with heap := h, toks := tk })
    (fin : ∀ news₂ h' tk v, J n news₂ → Fr h₀ env.locals h' (fun y => if y = x then v else m y) → News h₀ env.locals h' news₂ → Q .next { s with heap := h', toks := tk }) :
    LoopAtV prog w A h₀ env x body Q E (.ref I) s := by
  refine ⟨I, fp, [I], n, P, St, m, news, (fun i m₁ news₁ => ∃ v, m₁ = (fun y => if y = x then v else m y) ∧ J i news₁), rfl, W, hL, ?_, ?_, hst, F, N, ⟨m x, ?_, hJ⟩, ?_, ?_⟩
  · intro b hb; rw [List.mem_singleton.mp hb]; exact hI
  · intro p hp hb; exact hnI p hp (List.mem_singleton.mp hb)
  · funext y; by_cases h : y = x <;> simp [h]
  · rintro i v m₁ news₁ s₁ own ⟨h₁, tk₁, rfl⟩ hi hP ⟨u, rfl, hJi⟩ hnw hof hog hfo hst₁ F₁ N₁
    rw [bind_one] at F₁
    obtain ⟨oI, hoI⟩ := hstI _ _ hst₁
    have hmem := hfo I hIf hI oI hoI
    have N₂ : News h₀ env.locals h₁ ((I, oI) :: news₁) := fun p hp => N₁ p (by
      rcases List.mem_cons.mp hp with rfl | hp
      · exact List.mem_append_left _ hmem
      · exact List.mem_append_right _ hp)
    refine wpAny_mono (step i v news₁ h₁ tk₁ oI hi hP hJi (fun p hp e => hnw p hp (List.mem_singleton.mpr e)) F₁ N₂) (fun f s₂ h => ?_) fun _ _ e => e
    obtain ⟨hf, news₂, h', tk, v', rfl, F', N', hI', hJ'⟩ := h
    have core : LoopStepU h₀ env.locals [I] own (fun m₁ news₁ => ∃ v, m₁ = (fun y => if y = x then v else m y) ∧ J (i + 1) news₁) { s with heap := h₁, toks := tk₁ } .next { s with heap := h', toks := tk } := by
      refine ⟨rfl, h', tk, _, news₂, rfl, F', fun p hp => ?_, fun p hp hb => hI' p hp (List.mem_singleton.mp hb), v', rfl, hJ'⟩
      rcases List.mem_append.mp hp with hp | hp
      · have hq := hog p hp
        have hnp := N₁ p (List.mem_append_left _ hp)
        rcases hfp _ (hof p hp) with e | ⟨o, e⟩ | ⟨o, hk⟩
        · have e2 : p = (I, oI) := Prod.ext e (by rw [e, hoI] at hq; exact (Option.some.inj hq).symm)
          rw [e2]; exact N' _ (.head _)
        · rw [hnp.2.2] at e; cases e
        · have e1 := (N₁ _ (List.mem_append_right _ (hk _ _ hJi))).1
          have e2 : p = (p.1, o) := Prod.ext rfl (by rw [hq] at e1; exact Option.some.inj e1)
          rw [e2]; exact N' _ (.tail _ (hk _ _ hJ'))
      · exact N' _ (.tail _ hp)
    rcases hf with rfl | rfl
    · exact .next core
    · exact .cont core
  · rintro h' tk m' news' F' N' _ ⟨v, rfl, hJn⟩
    exact fin news' h' tk v hJn F' N'
/-- over range -/
theorem range_led {x : Str} {body : List Stmt} {r : Addr} {a b : Int} {t u v : Tok} {n : Nat} {m : Str → Option Value} {news : List (Addr × Obj)} (J : Nat → List (Addr × Obj) → Prop)
    (hh : A.handled = none) (hr : IsRange s.heap r a b 1 t u v) (hsmall : Builtin.Range.small a b 1 = true) (hn : Builtin.Range.rangeSize a b 1 = (n : Int))
    (F : Fr h₀ env.locals s.heap m) (N : News h₀ env.locals s.heap news) (hJ : J 0 news)
    (step : ∀ i t news₁ h tk I oI, i < n → J i news₁ → (∀ p ∈ news₁, p.1 ≠ I) → Fr h₀ env.locals h (fun y => if y = x then some (.int (a + (i : Int)) t) else m y) → News h₀ env.locals h ((I, oI) :: news₁) →
      wpAny (model prog w) A (execs body env) (LedTurn h₀ env.locals m x I oI (J (i + 1)) s) E { s with heap := h, toks := tk })
    (fin : ∀ news₂ h' tk v, J n news₂ → Fr h₀ env.locals h' (fun y => if y = x then v else m y) → News h₀ env.locals h' news₂ → Q .next { s with heap := h', toks := tk }) :
    wpAny (model prog w) A (pyIter (.ref r)) (fun it s₂ => LoopAtV prog w A h₀ env x body Q E it s₂) E s := by
  refine wpAny_pyIter_range hr hsmall ?_
  refine for_led J (Walks.range hh _ a 1 n) (.head _) (fun b hb => Or.inl (List.mem_singleton.mp hb)) (fun i h st => ⟨_, st⟩) (by show IsRangeIter _ _ _ _ _; rw [hn]; simpa using Heap.get?_push_size _ rfl) (fun hb => Nat.ne_of_lt F.ns.lt (List.mem_singleton.mp hb)) (next_is_new F) (fun p hp => Nat.ne_of_lt (Heap.lt_size (N p hp).1)) (F.push _) (fun p hp => ⟨Heap.get?_push_of_some _ (N p hp).1, (N p hp).2⟩) hJ ?_ fin
  rintro i v news₁ h tk oI hi ⟨t', rfl⟩ hJi hne F₁ N₁
  rw [Int.mul_one] at F₁
  exact step i t' news₁ h tk _ oI hi hJi hne F₁ N₁
/-- over a list, one of the ground or of the ledger -/
theorem list_led {x : Str} {body : List Stmt} {l : Addr} {items : List Value} {m : Str → Option Value} {news : List (Addr × Obj)} (J : Nat → List (Addr × Obj) → Prop)
    (hh : A.handled = none) (hl : s.heap.IsList l items.toArray) (hlL : l ≠ env.locals) (hfp : (∃ o, h₀.get? l = some o) ∨ ∃ o, ∀ i news, J i news → (l, o) ∈ news)
    (F : Fr h₀ env.locals s.heap m) (N : News h₀ env.locals s.heap news) (hJ : J 0 news)
    (step : ∀ i news₁ h tk I oI, i < items.length → J i news₁ → (∀ p ∈ news₁, p.1 ≠ I) → Fr h₀ env.locals h (fun y => if y = x then some (items.getD i .none) else m y) → News h₀ env.locals h ((I, oI) :: news₁) →
      wpAny (model prog w) A (execs body env) (LedTurn h₀ env.locals m x I oI (J (i + 1)) s) E { s with heap := h, toks := tk })
    (fin : ∀ news₂ h' tk v, J items.length news₂ → Fr h₀ env.locals h' (fun y => if y = x then v else m y) → News h₀ env.locals h' news₂ → Q .next { s with heap := h', toks := tk }) :
    wpAny (model prog w) A (pyIter (.ref l)) (fun it s₂ => LoopAtV prog w A h₀ env x body Q E it s₂) E s := by
  have hlt : l < s.heap.objs.size := by obtain ⟨o, e, _⟩ := hl; exact Heap.lt_size e
  refine wpAny_pyIter_list hl ?_
  refine for_led J (Walks.list hh _ l (Nat.ne_of_lt hlt) items.toArray) (.head _) (fun b hb => ?_) (fun i h st => ?_) ⟨⟨_, Heap.get?_push_size _ rfl, rfl, rfl⟩, hl.at fun o e => Heap.get?_push_of_some _ e⟩ ?_ (next_is_new F) (fun p hp => Nat.ne_of_lt (Heap.lt_size (N p hp).1)) (F.push _) (fun p hp => ⟨Heap.get?_push_of_some _ (N p hp).1, (N p hp).2⟩) hJ ?_ ?_
  · rcases List.mem_cons.mp hb with e | hb
    · exact .inl e
    · exact .inr (List.mem_singleton.mp hb ▸ hfp)
  · obtain ⟨⟨o, e, _⟩, _⟩ := st; exact ⟨o, e⟩
  · intro hb
    rcases List.mem_cons.mp hb with e | hb
    · exact Nat.ne_of_lt F.ns.lt e
    · exact hlL (List.mem_singleton.mp hb).symm
  · rintro i v news₁ h tk oI hi hv hJi hne F₁ N₁
    have hi' : i < items.length := by simpa using hi
    have e : v = items.getD i .none := by
      have h1 : items[i]? = some v := by simpa using hv
      rw [List.getD_eq_getElem?_getD, h1]; rfl
    subst e
    exact step i news₁ h tk _ oI hi' hJi hne F₁ N₁
  · intro news₂ h' tk v hj F' N'
    rw [List.size_toArray] at hj
    exact fin news₂ h' tk v hj F' N'
end
end
-- LX
section
theorem reg_none_LX : True := by
  w_top off
  k_with_none
  trivial
/-- a while's turn in which no name changes -/
noncomputable def WhL (h₀ : Heap) (L : Addr) (m : Str → Option Value) (s : Shared) (P : Nat → List (Addr × Obj) → Prop) (n : Nat) (Q : Flow → Shared → Prop) (f : Flow) (s' : Shared) : Prop :=
  match f with
  | .brk => Q .next s'
  | .ret v => Q (.ret v) s'
  | _ => ∃ h' tk news₂ n', s' = { s with heap := h', toks := tk } ∧ Fr h₀ L h' m ∧ News h₀ L h' news₂ ∧ n' < n ∧ P n' news₂
theorem WhL.go {h₀ h' : Heap} {L : Addr} {m : Str → Option Value} {s : Shared} {P : Nat → List (Addr × Obj) → Prop} {n n' tk : Nat} {Q : Flow → Shared → Prop} {news₂ : List (Addr × Obj)} {f : Flow} (hf : f = .next ∨ f = .cont)
    (F : Fr h₀ L h' m) (N : News h₀ L h' news₂) (hn : n' < n) (hP : P n' news₂) : WhL h₀ L m s P n Q f { s with heap := h', toks := tk } := by
  rcases hf with rfl | rfl <;> exact ⟨h', tk, news₂, n', rfl, F, N, hn, hP⟩
section
variable {prog : Program} {w : World} {A : Around} {E : Value → Shared → Prop} {Q : Flow → Shared → Prop} {s : Shared} {env : Env} {h₀ : Heap} {L : Addr}
theorem While_L {test : Expr} {body : List Stmt} {pos : Pos} {m : Str → Option Value} {news : List (Addr × Obj)} (P : Nat → List (Addr × Obj) → Prop) (n₀ : Nat)
    (F : Fr h₀ L s.heap m) (N : News h₀ L s.heap news) (h0 : P n₀ news)
    (turn : ∀ n news₁ h₁ tk₁, P n news₁ → Fr h₀ L h₁ m → News h₀ L h₁ news₁ →
      wpAny (model prog w) A (isTrue test env (eval test env)) (fun b' s₂ =>
        if b' = true then wpAny (model prog w) A (execs body env) (WhL h₀ L m s P n Q) E s₂ else Q .next s₂) E { s with heap := h₁, toks := tk₁ })
    (hE : PassesOwn (model prog w) A env E := by passes_own) :
    wpAny (model prog w) A (exec (.While test body [] pos) env) Q E s := by
  refine While_J (fun n m₁ news₁ => m₁ = m ∧ P n news₁) (n₀ := n₀) F N ⟨rfl, h0⟩ ?_ hE
  rintro n m₁ news₁ h₁ tk₁ F₁ N₁ ⟨rfl, hP⟩
  refine wpAny_mono (turn n news₁ h₁ tk₁ hP F₁ N₁) (fun b' s₂ h₂ => ?_) fun _ _ e => e
  cases b' with
  | false => exact h₂
  | true =>
    simp only [if_true] at h₂ ⊢
    refine wpAny_mono h₂ (fun f s₃ h₃ => ?_) fun _ _ e => e
    cases f with
    | brk => exact h₃
    | ret v => exact h₃
    | next =>
      obtain ⟨h', tk, news₂, n', rfl, F₂, N₂, hn, hP'⟩ := h₃
      exact ⟨h', tk, _, news₂, n', rfl, F₂, N₂, hn, rfl, hP'⟩
    | cont =>
      obtain ⟨h', tk, news₂, n', rfl, F₂, N₂, hn, hP'⟩ := h₃
      exact ⟨h', tk, _, news₂, n', rfl, F₂, N₂, hn, rfl, hP'⟩
end
section
variable {prog : Program} {w : World} {A : Around} {E : Value → Shared → Prop} {s : Shared} {h₀ : Heap} {L D : Addr} {news : List (Addr × Obj)} {ws : List Value} {y : Value} {n : Nat} {u : Tok}
theorem lget_last {value slice : PySem.Expr} {Q : Value → Shared → Prop} (N : News h₀ L s.heap news) (hm : (D, W.listOf (ws ++ [y]).toArray n) ∈ news) (h : Q y s)
    (hs : subscripted slice false (.ref D) (.int (-1) u) = operate [.ref D, .int (-1) u] (getItem (.ref D) (.int (-1) u)) := by with_unfolding_all rfl) :
    wpAny (model prog w) A (subscriptTail value slice (.ref D) (.int (-1) u)) Q E s := by
  have hl : s.heap.IsList D (ws ++ [y]).toArray := PySem.IsL.isList (n := n) (N _ hm).1
  have hz : (ws ++ [y]).toArray.size = ws.length + 1 := by simp
  refine tail_any hl.typeIs slot_list_getitem.lookup (wpAny_getItem_list_neg hl (by decide) (by rw [hz]; omega) (by decide) ?_ h) hs
  have e : ((-1 : Int) + ((ws ++ [y]).toArray.size : Nat)).toNat = ws.length := by rw [hz]; omega
  rw [e]
  simp
end
end
-- R2
section
theorem reg_none_R2 : True := by
  w_top off
  k_with_none
  trivial
theorem getD_some {vs : List Value} {k : Nat} (h : k < vs.length) : vs[k]? = some (vs.getD k .none) := by
  rw [List.getElem?_eq_getElem h, List.getD_eq_getElem?_getD, List.getElem?_eq_getElem h]; rfl
theorem getD_mem {vs : List Value} {k : Nat} (h : k < vs.length) : vs.getD k .none ∈ vs := List.mem_of_getElem? (getD_some h)
section
variable {prog : Program} {w : World} {A : Around} {E : Value → Shared → Prop} {s : Shared} {h₀ : Heap} {L D : Addr} {m : Str → Option Value} {news news' : List (Addr × Obj)} {vs : List Value} {n : Nat} {k : Int} {t u : Tok} {v : Value}
theorem lget_g {Q : Value → Shared → Prop} (N : News h₀ L s.heap news) (hm : (D, listOf vs.toArray n) ∈ news) (h0 : 0 ≤ k) (h1 : k < vs.length) (hfit : vs.length ≤ 100000) (h : Q (vs.getD k.toNat .none) s) :
    wpAny (model prog w) A (getItem (.ref D) (.int k u)) Q E s :=
  wpAny_getItem_list (PySem.IsL.isList (n := n) (N _ hm).1) h0 (by omega) (by simpa using getD_some (by omega)) h
theorem lget_s {value slice : PySem.Expr} {Q : Value → Shared → Prop} (N : News h₀ L s.heap news) (hm : (D, listOf vs.toArray n) ∈ news) (h0 : 0 ≤ k) (h1 : k < vs.length) (hfit : vs.length ≤ 100000) (h : Q (vs.getD k.toNat .none) s)
    (hs : subscripted slice false (.ref D) (.int k u) = operate [.ref D, .int k u] (getItem (.ref D) (.int k u)) := by with_unfolding_all rfl) :
    wpAny (model prog w) A (subscriptTail value slice (.ref D) (.int k u)) Q E s :=
  tail_any (PySem.IsL.isList (n := n) (N _ hm).1).typeIs slot_list_getitem.lookup (lget_g N hm h0 h1 hfit h) hs
theorem lset_g {Q : Unit → Shared → Prop} (F : Fr h₀ L s.heap m) (N : News h₀ L s.heap news) (U : Upd D (listOf vs.toArray n) (listOf (vs.set k.toNat v).toArray n) news news') (h0 : 0 ≤ k) (h1 : k < vs.length) (hfit : vs.length ≤ 100000)
    (h : ∀ h', Fr h₀ L h' m → News h₀ L h' news' → Q () { s with heap := h' }) :
    wpAny (model prog w) A (setItem (.ref D) (.int k t) v) Q E s := by
  obtain ⟨pre, post, rfl, rfl, a, b⟩ := U.split
  have z := N (D, listOf vs.toArray n) (List.mem_append.mpr (.inr (.head _)))
  refine ki_setAt z.1 h0 (by omega) (by simpa using h1) (h _ (F.change (Heap.SameBut.update ..) z.2.1 z.2.2) (ki_turn _ N a b ?_ ?_))
  · apply Array.toList_inj.mp
    simp
  · simp
end
end
-- H0
section
theorem reg_none_H0 : True := by
  w_top off
  k_with_none
  trivial
/-- heapq's _siftdown from 0, its new item handed -/
noncomputable def sdn (key : Value → Int × Str) (new : Value) : Nat → List Value → Nat → List Value
  | 0, vs, pos => vs.set pos new
  | k + 1, vs, pos => if pos = 0 then vs.set pos new else
      if ltK (key new) (key (vs.getD ((pos - 1) / 2) .none)) = true then sdn key new k (vs.set pos (vs.getD ((pos - 1) / 2) .none)) ((pos - 1) / 2) else vs.set pos new
theorem bind_p3 {m : Str → Option Value} {a b c : Str} {A0 B0 C0 A B C : Option Value} :
    (fun y => if y = a then A else if y = b then B else if y = c then C else if y = a then A0 else if y = b then B0 else if y = c then C0 else m y) = fun y => if y = a then A else if y = b then B else if y = c then C else m y := by
  funext y
  by_cases h1 : y = a
  · simp [h1]
  · by_cases h2 : y = b
    · simp [h1, h2]
    · by_cases h3 : y = c <;> simp [h1, h2, h3]
theorem but_of {g₀ g h' : Heap} {D L' : Addr} {o : Obj} {m' : Str → Option Value} (G : ∀ b o', b ∉ [(D, o)].map (·.1) → g₀.get? b = some o' → g.get? b = some o') (F : Fr g L' h' m') : But [D] g₀ h' :=
  fun b o' hb e => F.keep b o' (G b o' (by simpa using hb) e)
theorem pairs_to {h g : Heap} {D : Addr} {o : Obj} {vs : List Value} {key : Value → Int × Str} (G : ∀ b o', b ∉ [(D, o)].map (·.1) → h.get? b = some o' → g.get? b = some o') (hall : ∀ v ∈ vs, PairAt h v (key v)) (hD : h.get? D = some o) (hl : o.cls = .type "list") : ∀ v ∈ vs, PairAt g v (key v) := by
  intro v hv
  obtain ⟨a, t, u, e, o', ho', hc, r⟩ := hall v hv
  refine ⟨a, t, u, e, o', G a o' ?_ ho', hc, r⟩
  simp only [List.map_cons, List.map_nil, List.mem_singleton]
  rintro rfl
  rw [hD] at ho'
  cases ho'
  rw [hl] at hc
  exact absurd (Value.type.inj hc) (by decide)
theorem set_all {vs : List Value} {P : Value → Prop} {i : Nat} {v : Value} (h : ∀ x ∈ vs, P x) (hv : P v) : ∀ x ∈ vs.set i v, P x := fun x hx => (List.mem_or_eq_of_mem_set hx).elim (h x) fun e => e ▸ hv
theorem rsh_half {prog : Program} {w : World} {A : Around} {E : Value → Shared → Prop} {s : Shared} {p : Nat} {t u : Tok} {Q : Value → Shared → Prop} (ha : 0 < p) (h : ∀ t' tk', Q (.int (((p - 1) / 2 : Nat) : Int) t') { s with toks := tk' }) :
    wpAny (model prog w) A (binaryOp .RShift (.int ((p : Int) - 1) t) (.int 1 u)) Q E s := by
  refine rshift_int (by decide) ?_
  have e : ((p : Int) - 1).fdiv (2 ^ Int.toNat 1) = (((p - 1) / 2 : Nat) : Int) := by
    show ((p : Int) - 1).fdiv 2 = _
    rw [Int.fdiv_eq_ediv_of_nonneg _ (by decide)]
    omega
  rw [e]
  exact h _ _
theorem lookup_ite {y a : Str} {v : Value} {l : List (Str × Value)} : List.lookup y ((a, v) :: l) = if y = a then some v else List.lookup y l := by
  rw [List.lookup_cons]
  by_cases h : y = a
  · simp [h]
  · have : (y == a) = false := by simpa using h
    simp [h, this]
theorem sdn_go {key : Value → Int × Str} {new : Value} {vs : List Value} {p fu : Nat} (h : p ≠ 0) (hf : p ≤ fu) (hlt : ltK (key new) (key (vs.getD ((p - 1) / 2) .none)) = true) :
    ∃ f, (p - 1) / 2 ≤ f ∧ sdn key new f (vs.set p (vs.getD ((p - 1) / 2) .none)) ((p - 1) / 2) = sdn key new fu vs p := by
  match fu, hf with
  | 0, hf => omega
  | f + 1, hf => exact ⟨f, by omega, by conv => rhs; rw [sdn, if_neg h, if_pos hlt]⟩
theorem sdn_stop {key : Value → Int × Str} {new : Value} {vs : List Value} {p fu : Nat} (hlt : ltK (key new) (key (vs.getD ((p - 1) / 2) .none)) = false) : sdn key new fu vs p = vs.set p new := by
  match fu with
  | 0 => rfl
  | f + 1 => rw [sdn]; by_cases h : p = 0
             · rw [if_pos h, h]
             · rw [if_neg h, if_neg (by rw [hlt]; decide)]
theorem sdn_zero {key : Value → Int × Str} {new : Value} {vs : List Value} {fu : Nat} : sdn key new fu vs 0 = vs.set 0 new := by
  match fu with
  | 0 => rfl
  | f + 1 => rw [sdn, if_pos rfl]
section
variable {prog : Program} {w : World} {A : Around} {E : Value → Shared → Prop} {s : Shared} {h₀ g : Heap} {L D : Addr} {m m' : Str → Option Value} {news : List (Addr × Obj)} {vs : List Value} {n i j : Nat} {t u : Tok} {v v' : Value} {key : Value → Int × Str}
theorem lget_n {value slice : PySem.Expr} {Q : Value → Shared → Prop} (N : News h₀ L s.heap [(D, listOf vs.toArray n)]) (h1 : i < vs.length) (hfit : vs.length ≤ 1000) (h : Q (vs.getD i .none) s)
    (hs : subscripted slice false (.ref D) (.int i u) = operate [.ref D, .int i u] (getItem (.ref D) (.int i u))) : wpAny (model prog w) A (subscriptTail value slice (.ref D) (.int i u)) Q E s := by
  have hL : s.heap.IsList D vs.toArray := ⟨_, N.get (.head _), rfl, _, rfl⟩
  exact tail_any hL.typeIs slot_list_getitem.lookup (wpAny_getItem_list hL (by omega) (by omega) (by simpa using getD_some h1) h) hs
theorem len_n {Q : Value → Shared → Prop} (N : News h₀ L s.heap [(D, listOf vs.toArray n)]) (hfit : vs.length ≤ 1000) (h : ∀ t tk, Q (.int (vs.length : Nat) t) { s with toks := tk }) : wpAny (model prog w) A (call (.builtin "len") [.ref D]) Q E s := by
  refine len_list (items := vs.toArray) ⟨_, N.get (.head _), rfl, _, rfl⟩ (by rw [List.size_toArray]; omega) ?_
  rw [List.size_toArray]
  exact h _ _
theorem lset_n {Q : Unit → Shared → Prop} (F : Fr h₀ L s.heap m) (N : News h₀ L s.heap [(D, listOf vs.toArray n)]) (h1 : i < vs.length) (hfit : vs.length ≤ 1000)
    (h : ∀ h', Fr h₀ L h' m → News h₀ L h' [(D, listOf (vs.set i v).toArray n)] → Q () { s with heap := h' }) : wpAny (model prog w) A (setItem (.ref D) (.int i t) v) Q E s := by
  refine lset_g F N (Upd.head (fun _ hp => nomatch hp)) (by omega) (by omega) (by omega) fun h' F' N' => h h' F' ?_
  rw [Int.toNat_natCast] at N'
  exact N'
/-- the pair at v lies in g, which stands in the heap at hand -/
theorem lt_in {Q : Value → Shared → Prop} (F : Fr g L s.heap m') (hl : PairAt g v (key v)) (hb : PairAt g v' (key v')) (hu : A.units < cLine) (h : Q (.bool (ltK (key v) (key v'))) s) : wpAny (model prog w) A (compareOp .Lt v v') Q E s :=
  lt_pair (hl.keep F.keep) (hb.keep F.keep) hu h
end
/-- what holds between the turns of _siftdown's loop -/
noncomputable def SdP (g : Heap) (D : Addr) (n len : Nat) (key : Value → Int × Str) (new : Value) (tgt : List Value) (p : Nat) (a _b _c : Option Value) (news : List (Addr × Obj)) : Prop :=
  ∃ (fu : Nat) (vs : List Value) (tp : Tok), a = some (.int (p : Int) tp) ∧ news = [(D, listOf vs.toArray n)] ∧ p ≤ fu ∧ p < len ∧ vs.length = len ∧ (∀ v ∈ vs, PairAt g v (key v)) ∧ sdn key new fu vs p = tgt
theorem half_lt {p k : Nat} (h : p < k) : (p - 1) / 2 < k := by omega
theorem half_lt' {p : Nat} (h : 0 < p) : (p - 1) / 2 < p := by omega
theorem SdP.next {g : Heap} {D : Addr} {n len : Nat} {key : Value → Int × Str} {new : Value} {tgt vs : List Value} {p fu : Nat} {t : Tok} {b c : Option Value} (h0 : 0 < p) (hf : p ≤ fu) (hp : p < len) (hl : vs.length = len) (ha : ∀ v ∈ vs, PairAt g v (key v))
    (ht : sdn key new fu vs p = tgt) (hlt : ltK (key new) (key (vs.getD ((p - 1) / 2) .none)) = true) : SdP g D n len key new tgt ((p - 1) / 2) (some (.int ((p - 1) / 2 : Nat) t)) b c [(D, listOf (vs.set p (vs.getD ((p - 1) / 2) .none)).toArray n)] := by
  obtain ⟨f, hf1, hf2⟩ := sdn_go (key := key) (new := new) (vs := vs) (p := p) (fu := fu) (Nat.ne_of_gt h0) hf hlt
  exact ⟨f, _, t, rfl, rfl, hf1, half_lt hp, (List.length_set ..).trans hl, set_all ha (ha _ (getD_mem (by rw [hl]; exact half_lt hp))), hf2.trans ht⟩
end
-- H1
section
theorem reg_none_H1 : True := by
  w_top off
  k_with_none
  trivial
/-- the child that _siftup takes -/
noncomputable def kid (key : Value → Int × Str) (vs : List Value) (p : Nat) : Nat := if 2 * p + 2 < vs.length ∧ ltK (key (vs.getD (2 * p + 1) .none)) (key (vs.getD (2 * p + 2) .none)) = false then 2 * p + 2 else 2 * p + 1
/-- _siftup's loop -/
noncomputable def sup (key : Value → Int × Str) : Nat → List Value → Nat → List Value × Nat
  | 0, vs, p => (vs, p)
  | f + 1, vs, p => if 2 * p + 1 < vs.length then sup key f (vs.set p (vs.getD (kid key vs p) .none)) (kid key vs p) else (vs, p)
theorem sup_stop {key : Value → Int × Str} {vs : List Value} {p fu : Nat} (h : ¬ 2 * p + 1 < vs.length) : sup key fu vs p = (vs, p) := by
  match fu with
  | 0 => rfl
  | f + 1 => rw [sup, if_neg h]
theorem kid_gt {key : Value → Int × Str} {vs : List Value} {p : Nat} : p < kid key vs p := by unfold kid; split <;> omega
theorem kid_lt {key : Value → Int × Str} {vs : List Value} {p : Nat} (h : 2 * p + 1 < vs.length) : kid key vs p < vs.length := by unfold kid; split <;> omega
noncomputable def SuP (g : Heap) (D : Addr) (n len : Nat) (key : Value → Int × Str) (tgt : List Value × Nat) (nn : Nat) (a b _c : Option Value) (news : List (Addr × Obj)) : Prop :=
  ∃ (p fu : Nat) (vs : List Value) (ci pi : Int) (tc tp : Tok), ci = ((2 * p + 1 : Nat) : Int) ∧ pi = (p : Int) ∧ a = some (.int ci tc) ∧ b = some (.int pi tp) ∧ news = [(D, listOf vs.toArray n)] ∧ p < len ∧ len ≤ p + fu ∧ vs.length = len ∧ (∀ v ∈ vs, PairAt g v (key v)) ∧ sup key fu vs p = tgt ∧ nn = len - p
@[elab_as_elim] theorem SuP.elim {g : Heap} {D : Addr} {n len : Nat} {key : Value → Int × Str} {tgt : List Value × Nat} {nn : Nat} {a b c : Option Value} {news : List (Addr × Obj)} {K : Option Value → Option Value → List (Addr × Obj) → Prop} (h : SuP g D n len key tgt nn a b c news)
    (go : ∀ (p fu : Nat) (vs : List Value) (ci pi : Int) (tc tp : Tok), ci = ((2 * p + 1 : Nat) : Int) → pi = (p : Int) → p < len → len ≤ p + fu → vs.length = len → (∀ v ∈ vs, PairAt g v (key v)) → sup key fu vs p = tgt → nn = len - p → K (some (.int ci tc)) (some (.int pi tp)) [(D, listOf vs.toArray n)]) : K a b news := by
  obtain ⟨p, fu, vs, ci, pi, tc, tp, h1, h2, rfl, rfl, rfl, h3, h4, h5, h6, h7, h8⟩ := h
  exact go p fu vs ci pi tc tp h1 h2 h3 h4 h5 h6 h7 h8
theorem SuP.next {g : Heap} {D : Addr} {n len : Nat} {key : Value → Int × Str} {tgt : List Value × Nat} {vs : List Value} {p fu c : Nat} {ci : Int} {tc tp : Tok} {x : Option Value} (hp : p < len) (hf : len ≤ p + fu) (hl : vs.length = len) (ha : ∀ v ∈ vs, PairAt g v (key v)) (ht : sup key fu vs p = tgt)
    (h1 : 2 * p + 1 < vs.length) (hc : kid key vs p = c) (hci : ci = (c : Int)) : SuP g D n len key tgt (len - c) (some (.int (2 * ci + 1) tc)) (some (.int ci tp)) x [(D, listOf (vs.set p (vs.getD c .none)).toArray n)] := by
  subst hc
  match fu, hf with
  | 0, hf => omega
  | f + 1, hf =>
    have g1 := kid_gt (key := key) (vs := vs) (p := p)
    have g2 := kid_lt (key := key) h1
    rw [sup, if_pos h1] at ht
    exact ⟨kid key vs p, f, _, _, _, tc, tp, by rw [hci]; push_cast; rfl, hci, rfl, rfl, rfl, hl ▸ g2, by omega, (List.length_set ..).trans hl, set_all ha (ha _ (getD_mem g2)), ht, rfl⟩
theorem bind_swap {m : Str → Option Value} {a b : Str} {v : Option Value} (h : a ≠ b) : (fun y => if y = b then v else m y) = fun y => if y = a then m a else if y = b then v else m y := by
  funext y
  by_cases h1 : y = a
  · rw [if_pos h1, h1, if_neg h]
  · rw [if_neg h1]
theorem bind_p4 {m : Str → Option Value} {a b c : Str} {A0 B0 C0 A B C A1 : Option Value} :
    (fun y => if y = a then A else if y = b then B else if y = a then A1 else if y = c then C else if y = a then A0 else if y = b then B0 else if y = c then C0 else m y) = fun y => if y = a then A else if y = b then B else if y = c then C else m y := by
  funext y
  by_cases h1 : y = a
  · simp only [if_pos h1]
  · by_cases h2 : y = b
    · simp only [if_neg h1, if_pos h2]
    · by_cases h3 : y = c
      · simp only [if_neg h1, if_neg h2, if_pos h3]
      · simp only [if_neg h1, if_neg h2, if_neg h3]
/-- where the two ways of _siftup's test meet -/
noncomputable def SuJ (g : Heap) (L D : Addr) (m : Str → Option Value) (a c : Str) (C : Option Value) (n : Nat) (key : Value → Int × Str) (vs : List Value) (p : Nat) (s : Shared) (f : Flow) (s' : Shared) : Prop :=
  f = .next ∧ ∃ h' tk ci tc, s' = { s with heap := h', toks := tk } ∧ Fr g L h' (fun y => if y = a then some (.int ci tc) else if y = c then C else m y) ∧ News g L h' [(D, listOf vs.toArray n)] ∧ ci = ((kid key vs p : Nat) : Int)
theorem kid_0 {key : Value → Int × Str} {vs : List Value} {p : Nat} (h : ¬ 2 * p + 2 < vs.length) : kid key vs p = 2 * p + 1 := if_neg fun q => h q.1
theorem kid_1 {key : Value → Int × Str} {vs : List Value} {p : Nat} (h : ltK (key (vs.getD (2 * p + 1) .none)) (key (vs.getD (2 * p + 2) .none)) = true) : kid key vs p = 2 * p + 1 := if_neg fun q => by rw [h] at q; exact nomatch q.2
theorem kid_2 {key : Value → Int × Str} {vs : List Value} {p : Nat} (h1 : 2 * p + 2 < vs.length) (h : ltK (key (vs.getD (2 * p + 1) .none)) (key (vs.getD (2 * p + 2) .none)) = false) : kid key vs p = 2 * p + 2 := if_pos ⟨h1, h⟩
section
variable {prog : Program} {w : World} {A : Around} {E : Value → Shared → Prop} {s : Shared} {h₀ : Heap} {L D : Addr} {m : Str → Option Value} {vs : List Value} {n i : Nat} {ki : Int} {t u : Tok} {v : Value}
theorem lget_e {value slice : PySem.Expr} {Q : Value → Shared → Prop} (e : ki = (i : Int)) (N : News h₀ L s.heap [(D, listOf vs.toArray n)]) (h1 : i < vs.length) (hfit : vs.length ≤ 1000) (h : Q (vs.getD i .none) s)
    (hs : subscripted slice false (.ref D) (.int ki u) = operate [.ref D, .int ki u] (getItem (.ref D) (.int ki u))) : wpAny (model prog w) A (subscriptTail value slice (.ref D) (.int ki u)) Q E s := by
  subst e; exact lget_n N h1 hfit h hs
theorem lset_e {Q : Unit → Shared → Prop} (e : ki = (i : Int)) (F : Fr h₀ L s.heap m) (N : News h₀ L s.heap [(D, listOf vs.toArray n)]) (h1 : i < vs.length) (hfit : vs.length ≤ 1000)
    (h : ∀ h', Fr h₀ L h' m → News h₀ L h' [(D, listOf (vs.set i v).toArray n)] → Q () { s with heap := h' }) : wpAny (model prog w) A (setItem (.ref D) (.int ki t) v) Q E s := by
  subst e; exact lset_n F N h1 hfit h
theorem su_join {Q : Flow → Shared → Prop} {g : Heap} {c : Str} {C : Option Value} {t : Sem Flow} (a : Str) (key : Value → Int × Str) (p : Nat) (_F : Fr g L s.heap (fun y => if y = c then C else m y)) (_N : News g L s.heap [(D, listOf vs.toArray n)])
    (h1 : wpAny (model prog w) A t (SuJ g L D m a c C n key vs p s) E s)
    (h2 : ∀ h' tk ci tc, Fr g L h' (fun y => if y = a then some (.int ci tc) else if y = c then C else m y) → News g L h' [(D, listOf vs.toArray n)] → ci = ((kid key vs p : Nat) : Int) → Q .next { s with heap := h', toks := tk }) : wpAny (model prog w) A t Q E s :=
  wpAny_mono h1 (fun f s' hj => by obtain ⟨rfl, h', tk, ci, tc, rfl, F', N', e⟩ := hj; exact h2 h' tk ci tc F' N' e) fun _ _ e => e
theorem su_same {g h' : Heap} {tk : Nat} {a c : Str} {C : Option Value} {key : Value → Int × Str} {p : Nat} {ci : Int} {tc : Tok} (F : Fr g L h' (fun y => if y = c then C else m y)) (N : News g L h' [(D, listOf vs.toArray n)]) (hne : a ≠ c) (hm : m a = some (.int ci tc)) (e : ci = ((kid key vs p : Nat) : Int)) :
    SuJ g L D m a c C n key vs p s .next { s with heap := h', toks := tk } := by
  rw [bind_swap hne, hm] at F
  exact ⟨rfl, h', tk, ci, tc, rfl, F, N, e⟩
theorem su_right {g h' : Heap} {tk : Nat} {a c : Str} {C : Option Value} {key : Value → Int × Str} {p : Nat} {ci : Int} {tc : Tok} (F : Fr g L h' (fun y => if y = a then some (.int ci tc) else if y = c then C else m y)) (N : News g L h' [(D, listOf vs.toArray n)]) (e : ci = ((kid key vs p : Nat) : Int)) :
    SuJ g L D m a c C n key vs p s .next { s with heap := h', toks := tk } := ⟨rfl, h', tk, ci, tc, rfl, F, N, e⟩
theorem set_getD {vs : List Value} {p : Nat} {new : Value} (h : p < vs.length) : (vs.set p new).getD p .none = new := by simp [List.getD_eq_getElem?_getD, h]
/-- but one place, a ledger of one object -/
theorem led_but {h h' : Heap} {o o' : Obj} (N : News h₀ L h [(D, o)]) (e : h'.get? D = some o') : News h₀ L h' [(D, o')] := fun p hp => by
  rw [List.mem_singleton.mp hp]; exact ⟨e, (N _ (.head _)).2⟩
theorem led_ne {o : Obj} {h : Heap} (N : News h₀ L h [(D, o)]) : D ≠ L := (N _ (.head _)).2.1
theorem fr_but {h h' : Heap} {o : Obj} (k : But [D] h h') (F : Fr h₀ L h m) (N : News h₀ L h [(D, o)]) : Fr h₀ L h' m := by
  have z := N _ (.head _)
  have k' : ∀ b o, b ≠ D → h.get? b = some o → h'.get? b = some o := fun b o hb e => k b o (by simpa using hb) e
  exact ⟨F.ns.at fun o e => k' L o (Ne.symm z.2.1) e, fun b o e => k' b o (fun q => by rw [q, z.2.2] at e; cases e) (F.keep b o e), F.above⟩
end
end
-- H2
section
theorem reg_none_H2 : True := by
  w_top off
  k_with_none
  trivial
theorem erase_last {ws : List Value} {y : Value} : (ws ++ [y]).toArray.eraseIdxIfInBounds ((ws ++ [y]).toArray.size - 1) = ws.toArray := by
  apply Array.toList_inj.mp
  simp [Array.eraseIdxIfInBounds, List.eraseIdx_append_of_length_le]
section
variable {prog : Program} {w : World} {A : Around} {E : Value → Shared → Prop} {s : Shared} {h₀ : Heap} {L D : Addr} {m : Str → Option Value} {ws : List Value} {y : Value} {n : Nat} {news news' : List (Addr × Obj)}
theorem pop_led {Q : Value → Shared → Prop} (Fx : Fr h₀ L s.heap m) (N : News h₀ L s.heap news) (U : Upd D (listOf (ws ++ [y]).toArray n) (listOf ws.toArray (n + 1)) news news') (hfit : ws.length ≤ 1000)
    (h : ∀ h', Fr h₀ L h' m → News h₀ L h' news' → Q y { s with heap := h' }) : wpAny (model prog w) A (call (.builtin "list.pop") [.ref D]) Q E s := by
  obtain ⟨pre, post, rfl, rfl, a, b⟩ := U.split
  have z := N (D, listOf (ws ++ [y]).toArray n) (List.mem_append.mpr (.inr (.head _)))
  refine call_meets F.slot_list_pop ⟨_, z.1, rfl⟩ F.entry_list_pop (F.args_list_pop_1 _) (MeetsSeq.list_pop_last D (ws ++ [y]).toArray n y (by simp) (by simp only [List.size_toArray, List.length_append, List.length_singleton]; rw [sizeLine_eq]; omega)) ⟨z.1, ?_⟩
  refine h _ (Fx.change (Heap.SameBut.update ..) z.2.1 z.2.2) (ki_turn _ N a b ?_ ?_)
  · exact erase_last
  · rw [if_neg]; simp
theorem pop_n {Q : Value → Shared → Prop} (Fx : Fr h₀ L s.heap m) (N : News h₀ L s.heap [(D, listOf (ws ++ [y]).toArray n)]) (hfit : ws.length ≤ 1000) (h : ∀ h', Fr h₀ L h' m → News h₀ L h' [(D, listOf ws.toArray (n + 1))] → Q y { s with heap := h' }) : wpAny (model prog w) A (call (.builtin "list.pop") [.ref D]) Q E s :=
  pop_led Fx N (Upd.head (fun _ hp => nomatch hp)) hfit h
theorem truthy_n {Q : Bool → Shared → Prop} (N : News h₀ L s.heap news) (hm : (D, listOf ws.toArray n) ∈ news) (hfit : ws.length ≤ 1000) (h : ∀ tk, Q (!ws.isEmpty) { s with toks := tk }) : wpAny (model prog w) A (truthy (.ref D)) Q E s := by
  have hL : s.heap.IsList D ws.toArray := ⟨_, N.get hm, rfl, _, rfl⟩
  refine wpAny_truthy_list hL (by rw [List.size_toArray]; omega) ?_
  have e : ws.toArray.isEmpty = ws.isEmpty := by simp
  rw [e]
  exact h _
end
end
-- U0
section
theorem reg_none_U0 : True := by
  w_top off
  k_with_none
  trivial
theorem strs_eq {ys : List Value} {Y : List Str} {x : Str} {t : Tok} (h : StrsOf ys Y) : ∀ y, y ∈ ys.toArray → MeetsSeq.EqGives y (.str x t) (match y with | .str c _ => c == x | _ => false) := by
  obtain ⟨l, rfl, _⟩ := h
  intro y hy
  rw [List.mem_toArray] at hy
  obtain ⟨p, _, rfl⟩ := List.mem_map.mp hy
  exact eqGives_str _ _ _ _
theorem map_er {α β : Type} (f : α → β) : ∀ (l : List α) (i : Nat), (l.eraseIdx i).map f = (l.map f).eraseIdx i
  | [], _ => rfl
  | _ :: _, 0 => rfl
  | a :: l, i + 1 => congrArg (f a :: ·) (map_er f l i)
theorem strs_hit {ys : List Value} {Y : List Str} {x : Str} (h : StrsOf ys Y) (hx : x ∈ Y) : ∃ j, ∃ hj : j < ys.toArray.size, (match ys.toArray[j] with | .str c _ => c == x | _ => false) = true ∧ (∀ k (hk : k < ys.toArray.size), k < j → (match ys.toArray[k] with | .str c _ => c == x | _ => false) = false) ∧ StrsOf (ys.eraseIdx j) (Y.erase x) := by
  obtain ⟨l, rfl, rfl⟩ := h
  have hsz : (strValues l).toArray.size = (l.map (·.1)).length := by simp [strValues]
  have hlt : (l.map (·.1)).idxOf x < (l.map (·.1)).length := List.idxOf_lt_length_iff.mpr hx
  have get : ∀ k (hk : k < (strValues l).toArray.size), (match (strValues l).toArray[k] with | .str c _ => c == x | _ => false) = ((l.map (·.1))[k]'(hsz ▸ hk) == x) := by
    intro k hk
    simp [strValues]
  refine ⟨(l.map (·.1)).idxOf x, hsz ▸ hlt, ?_, ?_, ?_⟩
  · rw [get, List.getElem_idxOf hlt]; simp
  · intro k hk hkj
    rw [get]
    exact List.not_of_lt_findIdx hkj |> fun h => by simpa using h
  · refine ⟨l.eraseIdx ((l.map (·.1)).idxOf x), ?_, ?_⟩
    · exact (map_er _ _ _).symm
    · rw [map_er, List.erase_eq_eraseIdx_of_idxOf rfl]
section
variable {prog : Program} {w : World} {A : Around} {E : Value → Shared → Prop} {s : Shared} {h₀ : Heap} {L D : Addr} {m : Str → Option Value} {ys : List Value} {Y : List Str} {x : Str} {t : Tok} {n : Nat} {pre post : List (Addr × Obj)}
theorem rem_hit {Q : Value → Shared → Prop} (Fx : Fr h₀ L s.heap m) (N : News h₀ L s.heap (pre ++ (D, listOf ys.toArray n) :: post)) (a : ∀ p ∈ pre, p.1 ≠ D) (b : ∀ p ∈ post, p.1 ≠ D) (hs : StrsOf ys Y) (hx : x ∈ Y) (hfit : Y.length ≤ 1000)
    (h : ∀ h' ys', Fr h₀ L h' m → StrsOf ys' (Y.erase x) → News h₀ L h' (pre ++ (D, listOf ys'.toArray (n + 1)) :: post) → Q .none { s with heap := h' }) : wpAny (model prog w) A (call (.builtin "list.remove") [.ref D, .str x t]) Q E s := by
  have z := N (D, listOf ys.toArray n) (List.mem_append.mpr (.inr (.head _)))
  obtain ⟨j, hj, h1, h2, h3⟩ := strs_hit hs hx
  refine call_meets F.slot_list_remove ⟨_, z.1, rfl⟩ F.entry_list_remove (F.args_list_remove_2 _ _) (MeetsSeq.list_remove D ys.toArray n (.str x t) _ (strs_eq hs) j hj h1 h2 (by rw [List.size_toArray, hs.length, sizeLine_eq]; omega)) ⟨z.1, ?_⟩
  refine h _ _ (Fx.change (Heap.SameBut.update ..) z.2.1 z.2.2) h3 (ki_turn _ N a b ?_ ?_)
  · have hj' : j < ys.length := by simpa using hj
    apply Array.toList_inj.mp
    simp [Array.eraseIdxIfInBounds, hj']
  · have hj' : j < ys.length := by simpa using hj
    rw [if_neg]
    simp only [List.size_toArray, List.length_eraseIdx, if_pos hj', beq_iff_eq]
    omega
theorem rem_miss {Q : Value → Shared → Prop} (hh : A.handled = none) (N : News h₀ L s.heap (pre ++ (D, listOf ys.toArray n) :: post)) (hs : StrsOf ys Y) (hx : ¬ x ∈ Y)
    (h : ∀ h' tk e, Heap.NewExc s.heap h' e "ValueError" → E (.ref e) { s with heap := h', toks := tk }) : wpAny (model prog w) A (call (.builtin "list.remove") [.ref D, .str x t]) Q E s := by
  have z := N (D, listOf ys.toArray n) (List.mem_append.mpr (.inr (.head _)))
  refine call_meets F.slot_list_remove ⟨_, z.1, rfl⟩ F.entry_list_remove (F.args_list_remove_2 _ _) (MeetsSeq.list_remove_none D ys.toArray n (.str x t) _ (strs_eq hs) ?_) ⟨z.1, hh, h⟩
  obtain ⟨l, rfl, rfl⟩ := hs
  intro k hk
  have hk' : k < l.length := by simpa [strValues] using hk
  simp only [strValues, List.getElem_toArray, List.getElem_map]
  simp only [beq_eq_false_iff_ne]
  rintro rfl
  exact hx (List.mem_map.mpr ⟨_, List.getElem_mem hk', rfl⟩)
theorem rem_both {M D1 : Addr} {o1 o2 : Obj} {Q : Value → Shared → Prop} (hh : A.handled = none) (Fx : Fr h₀ L s.heap m) (N : News h₀ L s.heap [(M, o1), (D1, o2), (D, listOf ys.toArray n)]) (a : @Ne Nat M D) (b : @Ne Nat D1 D) (hs : StrsOf ys Y) (hfit : Y.length ≤ 1000)
    (h1 : x ∈ Y → ∀ h' ys', Fr h₀ L h' m → StrsOf ys' (Y.erase x) → News h₀ L h' [(M, o1), (D1, o2), (D, listOf ys'.toArray (n + 1))] → Q .none { s with heap := h' })
    (h2 : ¬ x ∈ Y → ∀ h' tk e, Heap.NewExc s.heap h' e "ValueError" → E (.ref e) { s with heap := h', toks := tk }) : wpAny (model prog w) A (call (.builtin "list.remove") [.ref D, .str x t]) Q E s := by
  by_cases hx : x ∈ Y
  · exact rem_hit (pre := [(M, o1), (D1, o2)]) (post := []) Fx N (fun p hp => by
      rcases List.mem_cons.mp hp with rfl | hp
      · exact a
      · rw [List.mem_singleton.mp hp]; exact b) (fun _ hp => nomatch hp) hs hx hfit (h1 hx)
  · exact rem_miss (pre := [(M, o1), (D1, o2)]) (post := []) hh N hs hx (h2 hx)
end
theorem strs_snoc {ws : List Value} {y : Value} {Y : List Str} (h : StrsOf (ws ++ [y]) Y) : ∃ Y' x t, Y = Y' ++ [x] ∧ y = .str x t ∧ StrsOf ws Y' := by
  obtain ⟨l, e, rfl⟩ := h
  rcases List.eq_nil_or_concat l with rfl | ⟨l', p, rfl⟩
  · simp [strValues] at e
  · rw [List.concat_eq_append] at e ⊢
    simp only [strValues, List.map_append, List.map_cons, List.map_nil] at e
    obtain ⟨e1, e2⟩ := List.append_inj' e rfl
    exact ⟨l'.map (·.1), p.1, p.2, by simp, (List.cons.inj e2).1, l', e1, rfl⟩
theorem StrsOf.snoc {ws : List Value} {Y : List Str} {x : Str} {t : Tok} (h : StrsOf ws Y) : StrsOf (ws ++ [.str x t]) (Y ++ [x]) := by
  obtain ⟨l, rfl, rfl⟩ := h
  exact ⟨l ++ [(x, t)], by simp [strValues], by simp⟩
theorem bind_i {m : Str → Option Value} {a : Str} {v A1 B1 C1 : Option Value} : (fun y => if y = a then v else if y = a then A1 else if y = a then B1 else if y = a then C1 else m y) = fun y => if y = a then v else if y = a then B1 else if y = a then C1 else m y := by
  funext y
  by_cases h : y = a
  · simp only [if_pos h]
  · simp only [if_neg h]
end
-- U1
section
theorem reg_none_U1 : True := by
  w_top off
  k_with_none
  trivial
theorem StrsOf.getD {ws : List Value} {P : List Str} (h : StrsOf ws P) {k : Nat} (hk : k < P.length) : ∃ t, ws.getD k .none = .str (P.getD k (Str.ofString "")) t := by
  obtain ⟨l, rfl, rfl⟩ := h
  have hk' : k < l.length := by simpa using hk
  exact ⟨(l[k]).2, by simp [strValues, List.getD, hk']⟩
section
variable {prog : Program} {w : World} {A : Around} {E : Value → Shared → Prop} {s : Shared} {h₀ : Heap} {L D : Addr} {news : List (Addr × Obj)} {n : Nat} {ws : List Value} {P : List Str} {k : Int} {tk : Tok}
theorem lget_strs {value slice : PySem.Expr} {Q : Value → Shared → Prop} (N : News h₀ L s.heap news) (hm : (D, W.listOf ws.toArray n) ∈ news) (hs : StrsOf ws P) (h0 : 0 ≤ k) (h1 : k < P.length) (hfit : P.length ≤ 1000) (h : ∀ t, Q (.str (P.getD k.toNat (Str.ofString "")) t) s)
    (hq : subscripted slice false (.ref D) (.int k tk) = operate [.ref D, .int k tk] (getItem (.ref D) (.int k tk)) := by with_unfolding_all rfl) :
    wpAny (model prog w) A (subscriptTail value slice (.ref D) (.int k tk)) Q E s := by
  obtain ⟨t, e⟩ := hs.getD (k := k.toNat) (by omega)
  have hl := hs.length
  exact lget_s N hm h0 (by omega) (by omega) (by rw [e]; exact h t) hq
end
end
-- JN
section
theorem reg_none_JN : True := by
  w_top off
  k_with_none
  trivial
noncomputable def joinT (x y : Str) : Str := if Txt.endswith x (Str.ofString "/") = true then x ++ y else x ++ (Str.ofString "/" ++ y)
/-- the letter that the law's text gives -/
noncomputable def lett (k : Int) : Str := Txt.item (Str.ofString "dafcgbe") (k.fmod 7)
noncomputable def jn (us : List Int) (tn : Int) : Nat → List Str
  | 0 => [Str.ofString "/"]
  | i + 1 => jn us tn i ++ [joinT ((jn us tn i).getD (us.getD i 0).toNat (Str.ofString "")) (lett (i + tn))]
theorem jn_len (us : List Int) (tn : Int) : ∀ i, (jn us tn i).length = i + 1
  | 0 => rfl
  | i + 1 => by rw [jn, List.length_append, jn_len us tn i]; rfl
theorem len_app (x y : Str) : (x ++ y).length = x.length + y.length := by
  show (x.cps ++ y.cps).size = _
  rw [Array.size_append]; rfl
theorem joinT_len {x y : Str} (hy : y.length = 1) : x.length < (joinT x y).length ∧ (joinT x y).length ≤ x.length + 2 := by
  unfold joinT
  split
  · rw [len_app, hy]; omega
  · rw [len_app, len_app, hy]
    have : (Str.ofString "/").length = 1 := by decide +kernel
    omega
theorem jn_mem (us : List Int) (tn : Int) : ∀ i, (∀ j < i, 0 ≤ us.getD j 0 ∧ us.getD j 0 ≤ j) → ∀ x ∈ jn us tn i, 0 < x.length ∧ x.length ≤ 1 + 2 * i
  | 0, _, x, hx => by rw [List.mem_singleton.mp hx]; decide +kernel
  | i + 1, hb, x, hx => by
    have ih := jn_mem us tn i fun j hj => hb j (by omega)
    rcases List.mem_append.mp hx with hx | hx
    · have := ih x hx; omega
    · rw [List.mem_singleton.mp hx]
      have hk := hb i (by omega)
      have hlt : (us.getD i 0).toNat < (jn us tn i).length := by rw [jn_len]; omega
      have hm : (jn us tn i).getD (us.getD i 0).toNat (Str.ofString "") ∈ jn us tn i := by
        rw [List.getD_eq_getElem?_getD, List.getElem?_eq_getElem hlt]; exact List.getElem_mem hlt
      have h1 := ih _ hm
      have h2 := joinT_len (x := (jn us tn i).getD (us.getD i 0).toNat (Str.ofString "")) (y := lett (i + tn)) rfl
      omega
theorem jn_get {us : List Int} {tn : Int} {i : Nat} (hb : ∀ j < 7, 0 ≤ us.getD j 0 ∧ us.getD j 0 ≤ j) (hi : i < 7) : us.getD i 0 < ((jn us tn i).length : Int) ∧ ((jn us tn i).getD (us.getD i 0).toNat (Str.ofString "")).length ≤ 100 ∧ ((jn us tn i).getD (us.getD i 0).toNat (Str.ofString "")).length ≠ 0 := by
  have hk := hb i hi
  have hlt : (us.getD i 0).toNat < (jn us tn i).length := by rw [jn_len]; omega
  have hm : (jn us tn i).getD (us.getD i 0).toNat (Str.ofString "") ∈ jn us tn i := by
    rw [List.getD_eq_getElem?_getD, List.getElem?_eq_getElem hlt]; exact List.getElem_mem hlt
  have h1 := jn_mem us tn i (fun j hj => hb j (by omega)) _ hm
  have h2 := jn_len us tn i
  omega
theorem lett_cases (k : Int) : ∃ j : Nat, j < 7 ∧ k.fmod 7 = j := ⟨(k.fmod 7).toNat, by have := Int.fmod_nonneg_of_pos k (b := 7) (by omega); have := Int.fmod_lt_of_pos k (b := 7) (by omega); omega, by have := Int.fmod_nonneg_of_pos k (b := 7) (by omega); omega⟩
theorem lett_ne (k : Int) : Txt.startswith (lett k) (Str.ofString "/") = false := by
  obtain ⟨j, hj, e⟩ := lett_cases k
  unfold lett
  rw [e]
  have : ∀ j < 7, Txt.startswith (Txt.item (Str.ofString "dafcgbe") (j : Nat)) (Str.ofString "/") = false := by decide +kernel
  exact this j hj
end
-- LJ
section
theorem reg_none_LJ : True := by
  w_top off
  k_with_none
  trivial
theorem reg_hdr_LJ_1 : True := by
  k_with_none
  k_with "mine enter" => (refine wpAny_call ?_; k_dflt (refine' enterM ?k1 ?k2 ?k3 ?k4 ?k5 ?kA ?kF ?kK ?k6 ?k7 ?k8 ?k9 ?kB ?_ ?c2 ?c3 ?c4 ?c5; (case kA => exact rfl); (case kF => exact rfl); (case kK => exact rfl); (case k1 => k_asm); (case k2 => k_asm); (case k3 => k_asm); (case k4 => first | k_asm | exact News.nil); (case k5 => k_asm); (case k6 => k_is); (case k7 => k_is); (case k8 => ktr_room); (case k9 => exact BindsTo.of_eq rfl); (case c5 => decide); (case kB => exact locs rfl); (case c2 => exact rfl); (case c3 => exact rfl); (case c4 => exact rfl); k_whole); intro g' L' h' G' FG' F' N' B' X' T'; (try dsimp only); (try k_fold))
  k_with "mine back" => (intro h' tk' K'; (have F' := keep_fr (by k_asm) K'); (have N' := keep_news (by k_asm) K'); clear K'; (try dsimp only); (try k_sweep))
  k_with "mine args" => ((case k1 => k_asm); (case k2 => k_asm); (case k3 => k_asm); (case k4 => k_asm); (case kd => ktr_room); (case ku => ktr_units))
  k_with "mine enterC" => (refine wpAny_call ?_; k_dflt (refine' enterMC ?k1 ?k2 ?k3 ?k4 ?k5 ?kA ?kF ?kK ?k6 ?k7 ?k8 ?k9 ?kB ?kD ?_ ?c2 ?c3 ?c4; (case kA => exact rfl); (case kF => exact rfl); (case kK => exact rfl); (case k1 => k_asm); (case k2 => k_asm); (case k3 => k_asm); (case k4 => first | k_asm | exact News.nil); (case k5 => k_asm); (case k6 => k_is); (case k7 => k_is); (case k8 => ktr_room); (case k9 => exact BindsTo.of_eq rfl); (case kB => exact rfl); (case kD => decide +kernel); (case c2 => exact rfl); (case c3 => exact rfl); (case c4 => exact rfl); k_whole); intro g' L' h' tk' cells' G' FG' F' N' Y' B' X' T' l1; (try k_lt l1); k_cells Y'; (try simp only [List.cons_append, List.nil_append] at N'); (try dsimp only); (try k_fold))
  k_with "mine steps" => repeat' (first | (k_unfold; (try dsimp only)) | walk1 | (dsimp only; walk1) | (leave1; (try dsimp only)))
  trivial
theorem reg_hdr_LJ_2 : True := by
  k_with "k_ne" => (refine neN ?_; (try dsimp only); first | with_reducible assumption | exact Ne.symm (by with_reducible assumption))
  k_with "FinE" => ((unfold LCg.FinE); intro D' h' tk' F' N' o1'; (try dsimp only [LCg.Off1] at o1'); (repeat (have h9' := o1'.1; replace o1' := o1'.2)); (try clear o1'); (try simp only [List.nil_append, List.cons_append] at N'); (try dsimp only))
  k_with "FinA" => ((unfold LCg.FinA); intro D' h' tk' F' N' o1'; (try dsimp only [LCg.Off1] at o1'); (repeat (have h9' := o1'.1; replace o1' := o1'.2)); (try clear o1'); (try simp only [List.nil_append, List.cons_append] at N'); (try dsimp only))
  k_with "CompRest" => (with_unfolding_all first | (refine LCg.CompRest.succ ?_; intro v' I' oI' C' oC' D' m' h' tk' E' hv' hC' hx' F' N' off' ne'; (first | lcg_open hv' | (obtain ⟨t9', hv9'⟩ := hv'; subst hv9')); (try dsimp only [LCg.Off3] at off'); (have h9' := ne'.1; have h9' := ne'.2.1; have h9' := ne'.2.2; clear ne'); (repeat (have h9' := off'.1.1; have h9' := off'.1.2.1; have h9' := off'.1.2.2; replace off' := off'.2)); (try clear off')) | refine LCg.CompRest.zero ?_)
  trivial

noncomputable def LjP (us : List Int) (tn : Int) (D : Addr) (i : Nat) (news : List (Addr × Obj)) : Prop := ∃ ws n1, news = [(D, W.listOf (ws : List Value).toArray n1)] ∧ StrsOf ws (jn us tn i)
theorem reg_lj : True := by
  k_with "exec For Name Call cons nil" => (k_here; (with_reducible show wpAny _ _ (exec (Stmt.For _ (Expr.Call _ [Expr.Constant _ _] _ _) _ _ _) _) _ _ _); k_dflt (refine' For_invV g' rfl rfl ?_))
  k_with "subscriptTail Name Subscript ref int" => (k_here; k_dflt (refine' lget_strs ?zg1 ?zg2 ?zgs ?zg3 ?zg4 ?zg5 ?_ ?zg6; (case zg1 => k_asm); (case zg2 => k_mem); (case zgs => assumption); (case zg3 => assumption); (case zg4 => assumption); (case zg5 => assumption); (case zg6 => with_unfolding_all rfl)); intro tks)
  k_with "call ref" => (k_here; (with_reducible show wpAny _ _ (call (Value.ref 143) [Value.str _ _, Value.str _ _]) _ _ _); k_dflt (refine' join_c ?k1 ?k2 ?k3 ?k4 ?jx ?jy ?j1 ?j0 ?jz ?kd ?ku ?_; (case jx => exact jx); (case jz => exact rfl); (case jy => exact jy); (case j1 => exact j1); (case j0 => exact j0); walk_at "mine args"); intro tj'; walk_at "mine back")
  trivial
theorem isl_to {h g : Heap} {l : Addr} {x : Array Value} (hl : h.IsList l x) (k : ∀ b o, ¬ b ∈ List.map (fun x => x.1) ([] : List (Addr × Obj)) → h.get? b = some o → g.get? b = some o) : g.IsList l x := hl.at fun o e => k _ _ (by simp) e
theorem gone0 {g h : Heap} {D : Addr} (G : ∀ b o, ¬ b ∈ List.map (fun x => x.1) ([] : List (Addr × Obj)) → h.get? b = some o → g.get? b = some o) (hn : g.get? D = none) : h.get? D = none := by
  cases q : h.get? D with
  | none => rfl
  | some o => have := G _ o (by simp) q; rw [hn] at this; cases this
section
variable {w : World} {mean : ExcName → Option Value} {mg mb : Str → Option Value}
 {dp un : Nat} {gd : Option (List Code)} {cn : Str} {sn : List (Str × NameKind)} {sg sc : Bool} {sm : List (Str × Const)} {a : Addr} {ccd : Value} {cl : List (Str × Addr)} {outer : List Env} {A₀ : Around} {base h₀ : Heap} {L : Addr} {m : Str → Option Value} {s : Shared}
    {Q E : Value → Shared → Prop} (B : Below A₀ base outer h₀) (F : Fr h₀ L s.heap m) (X : (Mine.hd.heap_39 w.params).In h₀) (T : Top Mine.hd.view_39 (looseW Mine.hd.view_39 []) mean mg mb h₀)
include B F X T

theorem joined_c {tn : Int} {t2 : Tok} {l : Addr} {vs : List Value} {us : List Int} (hl : s.heap.IsList l vs.toArray) (hi : IntsAre vs us) (hlen : us.length = 7) (hb : ∀ j < 7, 0 ≤ us.getD j 0 ∧ us.getD j 0 ≤ j)
    (hd : dp + 5 < recursionLimit) (hu : un + 80 < cLine) (hret : ∀ D ws n1 h' tk', (∀ b o, s.heap.get? b = some o → h'.get? b = some o) → StrsOf ws (jn us tn 7) → h'.get? D = some (W.listOf ws.toArray n1) → s.heap.get? D = none → Q (.ref D) {s with heap := h', toks := tk'}) :
    wpAny (model Challenge.rw_pd0139_01.row.prog w) (ktrTop dp un gd cn ⟨.function, sn, sg, sc, sm⟩ L a ccd cl outer) (call (.ref 169) [.ref l, .int tn t2]) Q E s := by
  revert X; k_fill; intro X
  (refine wpAny_call ?_); k_dflt (refine' enterM (binds := [(Str.ofString "ups", .ref l), (Str.ofString "turn", .int tn t2)]) ?k1 ?k2 ?k3 ?k4 ?k5 ?kA ?kF ?kK ?k6 ?k7 ?k8 ?k9 ?kB ?_ ?c2 ?c3 ?c4 ?c5; (case kA => exact rfl); (case kF => exact rfl); (case kK => exact rfl); (case k1 => k_asm); (case k2 => k_asm); (case k3 => k_asm); (case k4 => first | k_asm | exact News.nil); (case k5 => k_asm); (case k6 => k_is); (case k7 => k_is); (case k8 => ktr_room); (case k9 => exact BindsTo.of_eq rfl); (case c5 => decide); (case kB => exact locs rfl); (case c2 => exact rfl); (case c3 => exact rfl); (case c4 => exact rfl); k_whole)
  intro g' L' h' G' FG' F' N' B' X' T'
  (try dsimp only); (try k_fold)
  have hl' := isl_to hl G'
  iterate 18 (first | (k_unfold; (try dsimp only)) | walk1 | (dsimp only; walk1))
  k_dflt (refine range_led (n := 7) (LjP us tn _) rfl (by assumption) (by decide) (by decide) (by k_asm) (by k_asm) ⟨[_], _, rfl, [(_, _)], rfl, rfl⟩ ?_ ?_)
  · rintro i ti news₁ h₁ tk₁ I oI hi1 ⟨ws, n1, rfl, hws⟩ hne F' N'
    replace F' : Fr g' L' _ _ := F'
    replace N' : News g' L' _ _ := N'
    have hz : (0 + (i : Int)).toNat = i := by omega
    have hu0 : 0 ≤ us.getD (0 + (i : Int)).toNat 0 := by rw [hz]; exact (hb i hi1).1
    have hu1 : us.getD (0 + (i : Int)).toNat 0 < ((jn us tn i).length : Int) := by rw [hz]; exact (jn_get hb hi1).1
    have hfit : (jn us tn i).length ≤ 1000 := by rw [jn_len]; omega
    have hI1 := hne _ (.head _)
    dsimp only at hI1
    have hfit3 : ws.length ≤ 1000 := by rw [hws.length]; exact hfit
    have jy : (Txt.item (Str.ofString "dafcgbe") ((0 + ↑i + tn).fmod 7)).length ≤ 100 := by show (1:Nat) ≤ 100; decide
    have j1 : Txt.startswith (Txt.item (Str.ofString "dafcgbe") ((0 + ↑i + tn).fmod 7)) (Str.ofString "/") = false := lett_ne _
    have jx : ((jn us tn i).getD (us.getD (0 + (i : Int)).toNat 0).toNat (Str.ofString "")).length ≤ 100 := by rw [hz]; exact (jn_get hb hi1).2.1
    have j0 : ((jn us tn i).getD (us.getD (0 + (i : Int)).toNat 0).toNat (Str.ofString "")).length ≠ 0 := by rw [hz]; exact (jn_get hb hi1).2.2
    walk_at "mine steps"
    have Fe := (by k_asm : Fr g' L' _ _)
    have Ne := (by k_asm : News g' L' _ _)
    rw [List.push_toArray] at Ne
    refine LedTurn.go (Or.inl rfl) Fe Ne (fun p hp => by rw [List.mem_singleton.mp hp]; exact hI1) ⟨_, _, rfl, ?_⟩
    simp only [Int.zero_add, Int.toNat_natCast]
    exact hws.snoc
  · rintro news₂ h' tk v ⟨ws, n1, rfl, hws⟩ F' N'
    have K := kept0 G' F'
    have hD := N' _ (.head _)
    have hn := gone0 G' hD.2.2
    walk_at "mine steps"
    exact hret _ _ _ _ _ K hws hD.1 hn
end
end
-- SL
section
theorem reg_none_SL : True := by
  w_top off
  k_with_none
  trivial
section
variable {prog : Program} {w : World} {A : Around} {E : Value → Shared → Prop} {s : Shared} {h₀ : Heap} {L : Addr} {m : Str → Option Value} {news : List (Addr × Obj)} {Q : Value → Shared → Prop} {vs : List Value} {l : Addr} {value slice : PySem.Expr}
theorem slice_from {i : Nat} {k : Int} {ti : Tok} (F : Fr h₀ L s.heap m) (N : News h₀ L s.heap news) (hl : s.heap.IsList l vs.toArray) (hfit : vs.length ≤ 100000) (hk : k = (i : Int))
    (h : ∀ D h', Fr h₀ L h' m → News h₀ L h' ((D, W.listOf (vs.drop i).toArray 0) :: news) → (∀ p ∈ news, p.1 < D) → Q (.ref D) { s with heap := h' })
    (hs : subscripted slice false (.ref l) (.ref s.heap.objs.size) = operate [.ref s.heap.objs.size, .ref l] (getItem (.ref l) (.ref s.heap.objs.size))) (ht : ∀ r, letTemporaryGo value (.ref l) r = pure ()) :
    wpAny (model prog w) A (subscriptTail value slice (.ref l) (.ref s.heap.objs.size)) Q E { s with heap := s.heap.push { cls := .type "slice", data := .fields #[.int k ti, .none, .none] } } := by
  have e : sliceBounds (some (i : Int)) none none vs.toArray.size = (((min i vs.toArray.size : Nat) : Int), ((vs.toArray.size : Nat) : Int), 1) := by
    simp only [sliceBounds, Option.getD_none, show (1 : Int) > 0 by decide, if_true, if_neg (show ¬ ((i : Int) < 0) by omega)]
    congr 1
    omega
  subst hk
  refine kmk_slice (lo := some (i : Int)) (hi := none) F N hl (by first | exact rfl | exact .int | constructor) (by first | exact rfl | exact .none | constructor) (fun D h' F' N' l1 => h D h' F' ?_ l1) hs ht (by simp only [List.size_toArray]; rw [sizeLine_eq]; omega)
  rw [kmk_pick_nat _ e] at N'
  have e3 : ((vs.toArray.toList.drop (min i vs.toArray.size)).take (vs.toArray.size - min i vs.toArray.size)).toArray = (vs.drop i).toArray := by
    rw [List.toList_toArray, List.size_toArray, kmk_drop_min, List.take_of_length_le (by rw [List.length_drop]; omega)]
  rw [e3] at N'
  exact N'
end
end
-- LD
section
theorem reg_none_LD : True := by
  w_top off
  k_with_none
  trivial
theorem reg_hdr_LD_1 : True := by
  k_with_none
  k_with "mine enter" => (refine wpAny_call ?_; k_dflt (refine' enterM ?k1 ?k2 ?k3 ?k4 ?k5 ?kA ?kF ?kK ?k6 ?k7 ?k8 ?k9 ?kB ?_ ?c2 ?c3 ?c4 ?c5; (case kA => exact rfl); (case kF => exact rfl); (case kK => exact rfl); (case k1 => k_asm); (case k2 => k_asm); (case k3 => k_asm); (case k4 => first | k_asm | exact News.nil); (case k5 => k_asm); (case k6 => k_is); (case k7 => k_is); (case k8 => ktr_room); (case k9 => exact BindsTo.of_eq rfl); (case c5 => decide); (case kB => exact locs rfl); (case c2 => exact rfl); (case c3 => exact rfl); (case c4 => exact rfl); k_whole); intro g' L' h' G' FG' F' N' B' X' T'; (try dsimp only); (try k_fold))
  k_with "mine back" => (intro h' tk' K'; (have F' := keep_fr (by k_asm) K'); (have N' := keep_news (by k_asm) K'); clear K'; (try dsimp only); (try k_sweep))
  k_with "mine args" => ((case k1 => k_asm); (case k2 => k_asm); (case k3 => k_asm); (case k4 => k_asm); (case kd => ktr_room); (case ku => ktr_units))
  k_with "mine enterC" => (refine wpAny_call ?_; k_dflt (refine' enterMC ?k1 ?k2 ?k3 ?k4 ?k5 ?kA ?kF ?kK ?k6 ?k7 ?k8 ?k9 ?kB ?kD ?_ ?c2 ?c3 ?c4; (case kA => exact rfl); (case kF => exact rfl); (case kK => exact rfl); (case k1 => k_asm); (case k2 => k_asm); (case k3 => k_asm); (case k4 => first | k_asm | exact News.nil); (case k5 => k_asm); (case k6 => k_is); (case k7 => k_is); (case k8 => ktr_room); (case k9 => exact BindsTo.of_eq rfl); (case kB => exact rfl); (case kD => decide +kernel); (case c2 => exact rfl); (case c3 => exact rfl); (case c4 => exact rfl); k_whole); intro g' L' h' tk' cells' G' FG' F' N' Y' B' X' T' l1; (try k_lt l1); k_cells Y'; (try simp only [List.cons_append, List.nil_append] at N'); (try dsimp only); (try k_fold))
  k_with "mine steps" => repeat' (first | (k_unfold; (try dsimp only)) | walk1 | (dsimp only; walk1) | (leave1; (try dsimp only)))
  trivial
theorem reg_hdr_LD_2 : True := by
  k_with "k_ne" => (refine neN ?_; (try dsimp only); first | with_reducible assumption | exact Ne.symm (by with_reducible assumption))
  k_with "FinE" => ((unfold LCg.FinE); intro D' h' tk' F' N' o1'; (try dsimp only [LCg.Off1] at o1'); (repeat (have h9' := o1'.1; replace o1' := o1'.2)); (try clear o1'); (try simp only [List.nil_append, List.cons_append] at N'); (try dsimp only))
  k_with "FinA" => ((unfold LCg.FinA); intro D' h' tk' F' N' o1'; (try dsimp only [LCg.Off1] at o1'); (repeat (have h9' := o1'.1; replace o1' := o1'.2)); (try clear o1'); (try simp only [List.nil_append, List.cons_append] at N'); (try dsimp only))
  k_with "CompRest" => (with_unfolding_all first | (refine LCg.CompRest.succ ?_; intro v' I' oI' C' oC' D' m' h' tk' E' hv' hC' hx' F' N' off' ne'; (first | lcg_open hv' | (obtain ⟨t9', hv9'⟩ := hv'; subst hv9')); (try dsimp only [LCg.Off3] at off'); (have h9' := ne'.1; have h9' := ne'.2.1; have h9' := ne'.2.2; clear ne'); (repeat (have h9' := off'.1.1; have h9' := off'.1.2.1; have h9' := off'.1.2.2; replace off' := off'.2)); (try clear off')) | refine LCg.CompRest.zero ?_)
  trivial

theorem valueAt_stored {K : Type} [DecidableEq K] {kvs : List (K × Value)} {k x : K} {v : Value} : valueAt (stored kvs k v) x = if x = k then some v else valueAt kvs x := by
  unfold stored
  split
  · rename_i h
    induction kvs with
    | nil => simp at h
    | cons p r ih =>
      by_cases hp : p.1 = k
      · by_cases hx : x = k
        · subst hx; simp [valueAt, hp]
        · rw [if_neg hx]
          have : ∀ r : List (K × Value), valueAt (r.map fun kv => if kv.1 = k then (kv.1, v) else kv) x = valueAt r x := by
            intro r
            induction r with
            | nil => rfl
            | cons q r ih2 =>
              by_cases hq : q.1 = k
              · have : ¬ q.1 = x := fun e => hx (e.symm.trans hq)
                simp only [valueAt, List.map_cons, if_pos hq, List.find?_cons, this, decide_false] at ih2 ⊢
                exact ih2
              · by_cases hqx : q.1 = x
                · subst hqx
                  simp only [valueAt, List.map_cons, if_neg hx, List.find?_cons, decide_true]
                · simp only [valueAt, List.map_cons, if_neg hq, List.find?_cons, hqx, decide_false] at ih2 ⊢
                  exact ih2
          exact this _
      · have h' : (r.any fun kv => decide (kv.1 = k)) = true := by simpa [hp] using h
        by_cases hx : p.1 = x
        · have : ¬ x = k := fun e => hp (hx.trans e)
          simp [valueAt, hp, hx, this]
        · have := ih h'
          simp only [valueAt, List.map_cons, if_neg hp, List.find?_cons, hx, decide_false] at this ⊢
          exact this
  · rename_i h
    have hn : valueAt kvs k = none := by
      cases q : kvs.find? fun kv => decide (kv.1 = k) with
      | none => unfold valueAt; rw [q]; rfl
      | some p => exact absurd (List.any_eq_true.mpr ⟨p, List.mem_of_find?_eq_some q, by simpa using List.find?_some q⟩) h
    by_cases hx : x = k
    · subst hx
      rw [if_pos rfl]
      unfold valueAt at hn ⊢
      rw [List.find?_append]
      rw [Option.map_eq_none_iff] at hn
      rw [hn]; simp
    · rw [if_neg hx]
      unfold valueAt
      rw [List.find?_append]
      have : ¬ k = x := fun e => hx e.symm
      simp [this]
noncomputable def updF (f : Str → Option Int) (p : Str) : Str → Option Int := fun x => if x = p then (f (dirT p)).map (· + 1) else f x
noncomputable def dacc (r : List Str) : Str → Option Int := r.foldl updF fun x => if x = Str.ofString "/" then some 0 else none
noncomputable def DepOf (kvs : List (Str × Value)) (f : Str → Option Int) : Prop := ∀ x d, f x = some d → ∃ t, valueAt kvs x = some (.int d t)
theorem dacc_succ {r : List Str} {i : Nat} (hi : i < r.length) : dacc (r.take (i + 1)) = updF (dacc (r.take i)) (r.getD i (Str.ofString "")) := by
  unfold dacc
  rw [List.take_succ_eq_append_getElem hi, List.foldl_append, List.getD_eq_getElem?_getD, List.getElem?_eq_getElem hi]
  rfl
theorem DepOf.next {kvs : List (Str × Value)} {f : Str → Option Int} {p : Str} {d : Int} {t : Tok} (h : DepOf kvs f) (hd : f (dirT p) = some d) : DepOf (stored kvs p (.int (d + 1) t)) (updF f p) := by
  intro x e he
  unfold updF at he
  rw [valueAt_stored]
  split at he
  · rename_i hx
    rw [if_pos hx]
    rw [hd] at he
    cases he
    exact ⟨t, rfl⟩
  · rename_i hx
    rw [if_neg hx]
    exact h x e he
theorem StrsOf.drop {ws : List Value} {P : List Str} (h : StrsOf ws P) (k : Nat) : StrsOf (ws.drop k) (P.drop k) := by
  obtain ⟨l, rfl, rfl⟩ := h
  exact ⟨l.drop k, by simp [strValues, List.map_drop], by simp [List.map_drop]⟩
noncomputable def LdP (prog : Program) (w : World) (D S : Addr) (oS : Obj) (tl : List Str) (i : Nat) (news : List (Addr × Obj)) : Prop := ∃ o kvs, news = [(S, oS), (D, o)] ∧ o.IsDictOf (strKind prog w) kvs ∧ DepOf kvs (dacc (tl.take i)) ∧ kvs.length ≤ i + 1
theorem ldP_0 {prog : Program} {w : World} {D S : Addr} {oS o : Obj} {tl : List Str} {t2 : Tok} (hd : o.IsDictOf (strKind prog w) [(Str.ofString "/", .int 0 t2)]) : LdP prog w D S oS tl 0 [(S, oS), (D, o)] := by
  refine ⟨o, _, rfl, hd, ?_, Nat.le_refl _⟩
  intro x d hx
  unfold dacc at hx
  rw [List.take_zero, List.foldl_nil] at hx
  split at hx
  · rename_i e; subst e; cases hx; exact ⟨t2, by simp [valueAt]⟩
  · cases hx
theorem reg_ld : True := by
  k_with "exec For" => (k_here; (with_reducible show wpAny _ _ (exec (Stmt.For _ (Expr.Subscript _ _ _) _ _ _) _) _ _ _); k_dflt (refine' For_invV g' rfl rfl ?_))
  k_with "subscriptTail Name Slice ref ref" => (k_here; k_dflt (refine' slice_from (i := 1) ?zsF ?zsN ?zsl ?zsf rfl ?_ ?zss ?zst; (case zsF => k_asm); (case zsN => k_asm); (case zsl => exact IsList.up hl' (by k_asm)); (case zsf => exact hfit0); (case zss => with_unfolding_all rfl); (case zst => intro _; with_unfolding_all rfl)); intro S' h' F' N' l1; (try k_lt l1); (try k_sweep))
  k_with "call ref" => (k_here; (with_reducible show wpAny _ _ (call (Value.ref 150) [Value.str _ _]) _ _ _); k_dflt (refine' dirname_c ?k1 ?k2 ?k3 ?k4 ?kx rfl ?kd ?ku ?_; (case kx => assumption); walk_at "mine args"); intro t'; walk_at "mine back")
  k_with "subscriptTail" => (k_here; (with_reducible show wpAny _ _ (subscriptTail _ _ (Value.ref _) (Value.str _ _)) _ _ _); k_dflt (refine' kda_item (knd := PySem.strKind _ _) ?zi1 ?zi2 ?zi3 (strKind_is _ _ _ _) ?zi4 ?_; (case zi1 => k_asm); (case zi2 => k_mem); (case zi3 => assumption); (case zi4 => assumption)))
  k_with "setItem ref str" => (k_here; k_dflt (refine' kda_set (knd := PySem.strKind _ _) ?F ?N ?U ?d (strKind_is _ _ _ _) ?z ?_; (case F => k_asm); (case N => k_asm); (case U => k_updF); (case d => assumption); (case z => exact hsz)); intro h' o' F' N' hd'; (try dsimp only at N'))
  trivial
section
variable {w : World} {mean : ExcName → Option Value} {mg mb : Str → Option Value}
 {dp un : Nat} {gd : Option (List Code)} {cn : Str} {sn : List (Str × NameKind)} {sg sc : Bool} {sm : List (Str × Const)} {a : Addr} {ccd : Value} {cl : List (Str × Addr)} {outer : List Env} {A₀ : Around} {base h₀ : Heap} {L : Addr} {m : Str → Option Value} {s : Shared}
    {Q E : Value → Shared → Prop} (B : Below A₀ base outer h₀) (F : Fr h₀ L s.heap m) (X : (Mine.hd.heap_39 w.params).In h₀) (T : Top Mine.hd.view_39 (looseW Mine.hd.view_39 []) mean mg mb h₀)
include B F X T

theorem depths_c {l : Addr} {vs : List Value} {P : List Str} (hl : s.heap.IsList l vs.toArray) (hs : StrsOf vs P) (hP : P.length = 8) (hlen : ∀ x ∈ P, x.length ≤ 100)
    (hok : ∀ i < 7, ∃ d, dacc ((P.drop 1).take i) (dirT ((P.drop 1).getD i (Str.ofString ""))) = some d)
    (hd : dp + 5 < recursionLimit) (hu : un + 80 < cLine) (hret : ∀ D o kvs h' tk', (∀ b o, s.heap.get? b = some o → h'.get? b = some o) → DepOf kvs (dacc (P.drop 1)) → o.IsDictOf (strKind Challenge.rw_pd0139_01.row.prog w) kvs → h'.get? D = some o → s.heap.get? D = none → Q (.ref D) {s with heap := h', toks := tk'}) :
    wpAny (model Challenge.rw_pd0139_01.row.prog w) (ktrTop dp un gd cn ⟨.function, sn, sg, sc, sm⟩ L a ccd cl outer) (call (.ref 176) [.ref l]) Q E s := by
  revert X; k_fill; intro X
  (refine wpAny_call ?_); k_dflt (refine' enterM (binds := [(Str.ofString "paths", .ref l)]) ?k1 ?k2 ?k3 ?k4 ?k5 ?kA ?kF ?kK ?k6 ?k7 ?k8 ?k9 ?kB ?_ ?c2 ?c3 ?c4 ?c5; (case kA => exact rfl); (case kF => exact rfl); (case kK => exact rfl); (case k1 => k_asm); (case k2 => k_asm); (case k3 => k_asm); (case k4 => first | k_asm | exact News.nil); (case k5 => k_asm); (case k6 => k_is); (case k7 => k_is); (case k8 => ktr_room); (case k9 => exact BindsTo.of_eq rfl); (case c5 => decide); (case kB => exact locs rfl); (case c2 => exact rfl); (case c3 => exact rfl); (case c4 => exact rfl); k_whole)
  intro g' L' h' G' FG' F' N' B' X' T'
  (try dsimp only); (try k_fold)
  have hl' := isl_to hl G'
  have hfit0 : vs.length ≤ 100000 := by rw [hs.length, hP]; decide
  have hs1 := hs.drop 1
  have hP1 : (P.drop 1).length = 7 := by rw [List.length_drop, hP]
  iterate 19 (first | (k_unfold; (try dsimp only)) | walk1 | (dsimp only; walk1))
  rename News g' L' _ [(_, _), (_, _)] => Nx
  k_dflt (refine list_led (LdP _ w _ S' _ (P.drop 1)) rfl ⟨_, News.get Nx (.head _), rfl, _, rfl⟩ (Nx _ (.head _)).2.1 (Or.inr ⟨_, fun i news hj => by obtain ⟨o, kvs, rfl, _⟩ := hj; exact .head _⟩) (by k_asm) Nx (ldP_0 (by assumption)) ?_ ?_)
  · rintro i news₁ h₁ tk₁ I oI hi ⟨o, kvs, rfl, hdi, hdep, hkl⟩ hne F' N'
    replace F' : Fr g' L' _ _ := F'
    replace N' : News g' L' _ _ := N'
    have hi7 : i < (P.drop 1).length := hs1.length ▸ hi
    obtain ⟨tp, ep⟩ := hs1.getD hi7
    rw [ep] at F'
    obtain ⟨d, hdd⟩ := hok i (hP1 ▸ hi7)
    obtain ⟨tv, hva⟩ := hdep _ _ hdd
    have hpl : ((P.drop 1).getD i (Str.ofString "")).length ≤ 100 := by
      refine hlen _ (List.drop_subset 1 P ?_)
      rw [List.getD_eq_getElem?_getD, List.getElem?_eq_getElem hi7]; exact List.getElem_mem hi7
    have hsz : kvs.length ≤ sizeLine := by rw [sizeLine_eq]; omega
    have hI1 : @Ne Nat _ I := hne _ (.head _)
    have hI2 : @Ne Nat _ I := hne _ (.tail _ (.head _))
    dsimp only at hI1 hI2
    walk_at "mine steps"
    rename News g' L' _ [(I, _), _, _] => Ne
    rename Obj.IsDictOf _ _ (stored _ _ _) => hd9
    refine LedTurn.go (Or.inl rfl) (by k_asm) Ne (fun p hp => ?_) ⟨_, _, rfl, hd9, ?_, Nat.le_trans (stored_length_le _ _ _) (Nat.succ_le_succ hkl)⟩
    · rcases List.mem_cons.mp hp with rfl | hp
      · exact hI1
      · rw [List.mem_singleton.mp hp]; exact hI2
    · rw [dacc_succ hi7]; exact hdep.next hdd
  · rintro news₂ h' tk v ⟨o, kvs, rfl, hdi, hdep, hkl⟩ F' N'
    have K := kept0 G' F'
    have hD := N' _ (.tail _ (.head _))
    have hn := gone0 G' hD.2.2
    rw [List.take_of_length_le (Nat.le_of_eq hs1.length.symm)] at hdep
    walk_at "mine steps"
    exact hret _ _ _ _ _ K hdep hdi hD.1 hn
end
end
-- LA
section
theorem reg_none_LA : True := by
  w_top off
  k_with_none
  trivial
theorem reg_hdr_LA_1 : True := by
  k_with_none
  k_with "mine enter" => (refine wpAny_call ?_; k_dflt (refine' enterM ?k1 ?k2 ?k3 ?k4 ?k5 ?kA ?kF ?kK ?k6 ?k7 ?k8 ?k9 ?kB ?_ ?c2 ?c3 ?c4 ?c5; (case kA => exact rfl); (case kF => exact rfl); (case kK => exact rfl); (case k1 => k_asm); (case k2 => k_asm); (case k3 => k_asm); (case k4 => first | k_asm | exact News.nil); (case k5 => k_asm); (case k6 => k_is); (case k7 => k_is); (case k8 => ktr_room); (case k9 => exact BindsTo.of_eq rfl); (case c5 => decide); (case kB => exact locs rfl); (case c2 => exact rfl); (case c3 => exact rfl); (case c4 => exact rfl); k_whole); intro g' L' h' G' FG' F' N' B' X' T'; (try dsimp only); (try k_fold))
  k_with "mine back" => (intro h' tk' K'; (have F' := keep_fr (by k_asm) K'); (have N' := keep_news (by k_asm) K'); clear K'; (try dsimp only); (try k_sweep))
  k_with "mine args" => ((case k1 => k_asm); (case k2 => k_asm); (case k3 => k_asm); (case k4 => k_asm); (case kd => ktr_room); (case ku => ktr_units))
  k_with "mine enterC" => (refine wpAny_call ?_; k_dflt (refine' enterMC ?k1 ?k2 ?k3 ?k4 ?k5 ?kA ?kF ?kK ?k6 ?k7 ?k8 ?k9 ?kB ?kD ?_ ?c2 ?c3 ?c4; (case kA => exact rfl); (case kF => exact rfl); (case kK => exact rfl); (case k1 => k_asm); (case k2 => k_asm); (case k3 => k_asm); (case k4 => first | k_asm | exact News.nil); (case k5 => k_asm); (case k6 => k_is); (case k7 => k_is); (case k8 => ktr_room); (case k9 => exact BindsTo.of_eq rfl); (case kB => exact rfl); (case kD => decide +kernel); (case c2 => exact rfl); (case c3 => exact rfl); (case c4 => exact rfl); k_whole); intro g' L' h' tk' cells' G' FG' F' N' Y' B' X' T' l1; (try k_lt l1); k_cells Y'; (try simp only [List.cons_append, List.nil_append] at N'); (try dsimp only); (try k_fold))
  k_with "mine steps" => repeat' (first | (k_unfold; (try dsimp only)) | walk1 | (dsimp only; walk1) | (leave1; (try dsimp only)))
  trivial
theorem reg_hdr_LA_2 : True := by
  k_with "k_ne" => (refine neN ?_; (try dsimp only); first | with_reducible assumption | exact Ne.symm (by with_reducible assumption))
  k_with "FinE" => ((unfold LCg.FinE); intro D' h' tk' F' N' o1'; (try dsimp only [LCg.Off1] at o1'); (repeat (have h9' := o1'.1; replace o1' := o1'.2)); (try clear o1'); (try simp only [List.nil_append, List.cons_append] at N'); (try dsimp only))
  k_with "FinA" => ((unfold LCg.FinA); intro D' h' tk' F' N' o1'; (try dsimp only [LCg.Off1] at o1'); (repeat (have h9' := o1'.1; replace o1' := o1'.2)); (try clear o1'); (try simp only [List.nil_append, List.cons_append] at N'); (try dsimp only))
  k_with "CompRest" => (with_unfolding_all first | (refine LCg.CompRest.succ ?_; intro v' I' oI' C' oC' D' m' h' tk' E' hv' hC' hx' F' N' off' ne'; (first | lcg_open hv' | (obtain ⟨t9', hv9'⟩ := hv'; subst hv9')); (try dsimp only [LCg.Off3] at off'); (have h9' := ne'.1; have h9' := ne'.2.1; have h9' := ne'.2.2; clear ne'); (repeat (have h9' := off'.1.1; have h9' := off'.1.2.1; have h9' := off'.1.2.2; replace off' := off'.2)); (try clear off')) | refine LCg.CompRest.zero ?_)
  trivial

/-- the way from a node up to the root -/
noncomputable def abv (us : List Int) : Nat → Int → List Int
  | 0, k => [k]
  | f + 1, k => if 0 < k then k :: abv us f (us.getD (k - 1).toNat 0) else [k]
noncomputable def LaP (us : List Int) (D : Addr) (tgt : List Int) (nn : Nat) (news : List (Addr × Obj)) : Prop :=
  ∃ (ws : List Value) (t : Tok) (xs : List Int) (f : Nat) (n1 : Nat), news = [(D, W.listOf (ws ++ [Value.int (nn : Int) t]).toArray n1)] ∧ IntsAre ws xs ∧ nn ≤ 7 ∧ nn ≤ f ∧ xs.length + nn ≤ 7 ∧ xs ++ abv us f nn = tgt
theorem LaP.start {us : List Int} {D : Addr} {k n1 : Nat} {t : Tok} (hk : k ≤ 7) : LaP us D (abv us 7 k) k [(D, W.listOf #[Value.int (k : Int) t] n1)] :=
  ⟨[], t, [], 7, n1, rfl, .nil, hk, hk, by simpa using hk, rfl⟩
theorem LaP.next {us : List Int} {D : Addr} {tgt xs : List Int} {nn f : Nat} {ws : List Value} {t t2 : Tok} {n1 : Nat} (hb : ∀ j < 7, 0 ≤ us.getD j 0 ∧ us.getD j 0 ≤ j) (hx : IntsAre ws xs) (h7 : nn ≤ 7) (hf : nn ≤ f) (hl : xs.length + nn ≤ 7) (ht : xs ++ abv us f nn = tgt) (h0 : 0 < nn) :
    ∃ n', n' < nn ∧ LaP us D tgt n' [(D, W.listOf ((ws ++ [Value.int (nn : Int) t]) ++ [Value.int (us.getD ((nn : Int) - 1).toNat 0) t2]).toArray n1)] := by
  obtain ⟨f, rfl⟩ : ∃ f', f = f' + 1 := ⟨f - 1, by omega⟩
  have e : ((nn : Int) - 1).toNat = nn - 1 := by omega
  have b := hb (nn - 1) (by omega)
  obtain ⟨k, hk⟩ : ∃ k : Nat, us.getD (nn - 1) 0 = k := ⟨(us.getD (nn - 1) 0).toNat, by omega⟩
  rw [e, hk]
  rw [hk] at b
  refine ⟨k, by omega, ws ++ [Value.int (nn : Int) t], t2, xs ++ [(nn : Int)], f, n1, rfl, IntsAre.append hx (.cons _ _ .nil), by omega, by omega, by simp; omega, ?_⟩
  rw [abv, if_pos (by omega), e, hk] at ht
  simpa using ht
theorem abv_0 {us : List Int} : ∀ f, abv us f 0 = [0]
  | 0 => rfl
  | f + 1 => by rw [abv, if_neg (by decide)]
theorem reg_la : True := by
  k_with "subscriptTail Name UnaryOp ref int" => (k_here; k_dflt (refine' lget_last ?zl1 ?zl2 ?_ ?zl4; (case zl1 => k_asm); (case zl2 => k_mem); (case zl4 => with_unfolding_all rfl)))
  trivial
section
variable {w : World} {mean : ExcName → Option Value} {mg mb : Str → Option Value}
 {dp un : Nat} {gd : Option (List Code)} {cn : Str} {sn : List (Str × NameKind)} {sg sc : Bool} {sm : List (Str × Const)} {a : Addr} {ccd : Value} {cl : List (Str × Addr)} {outer : List Env} {A₀ : Around} {base h₀ : Heap} {L : Addr} {m : Str → Option Value} {s : Shared}
    {Q E : Value → Shared → Prop} (B : Below A₀ base outer h₀) (F : Fr h₀ L s.heap m) (X : (Mine.hd.heap_39 w.params).In h₀) (T : Top Mine.hd.view_39 (looseW Mine.hd.view_39 []) mean mg mb h₀)
include B F X T

theorem above_c {k : Nat} {ki : Int} {tk : Tok} {l : Addr} {vs : List Value} {us : List Int} (hki : ki = (k : Int)) (hk : k ≤ 7) (hl : s.heap.IsList l vs.toArray) (hi : IntsAre vs us) (hlen : us.length = 7) (hb : ∀ j < 7, 0 ≤ us.getD j 0 ∧ us.getD j 0 ≤ j)
    (hd : dp + 5 < recursionLimit) (hu : un + 80 < cLine) (hret : ∀ D ws n1 h' tk', (∀ b o, s.heap.get? b = some o → h'.get? b = some o) → IntsAre ws (abv us 7 k) → h'.get? D = some (W.listOf ws.toArray n1) → s.heap.get? D = none → Q (.ref D) {s with heap := h', toks := tk'}) :
    wpAny (model Challenge.rw_pd0139_01.row.prog w) (ktrTop dp un gd cn ⟨.function, sn, sg, sc, sm⟩ L a ccd cl outer) (call (.ref 195) [.int ki tk, .ref l]) Q E s := by
  subst hki
  revert X; k_fill; intro X
  (refine wpAny_call ?_); k_dflt (refine' enterM (binds := [(Str.ofString "node", .int k tk), (Str.ofString "ups", .ref l)]) ?k1 ?k2 ?k3 ?k4 ?k5 ?kA ?kF ?kK ?k6 ?k7 ?k8 ?k9 ?kB ?_ ?c2 ?c3 ?c4 ?c5; (case kA => exact rfl); (case kF => exact rfl); (case kK => exact rfl); (case k1 => k_asm); (case k2 => k_asm); (case k3 => k_asm); (case k4 => first | k_asm | exact News.nil); (case k5 => k_asm); (case k6 => k_is); (case k7 => k_is); (case k8 => ktr_room); (case k9 => exact BindsTo.of_eq rfl); (case c5 => decide); (case kB => exact locs rfl); (case c2 => exact rfl); (case c3 => exact rfl); (case c4 => exact rfl); k_whole)
  intro g' L' h' G' FG' F' N' B' X' T'
  (try dsimp only); (try k_fold)
  have hl' := isl_to hl G'
  iterate 10 (first | (k_unfold; (try dsimp only)) | walk1 | (dsimp only; walk1))
  try (k_unfold; (try dsimp only))
  rename News g' L' _ [_] => Nx
  k_dflt (refine While_L (LaP us _ (abv us 7 k)) k (by k_asm) Nx (LaP.start hk) ?_)
  rintro nn news₁ h₁ tk₁ ⟨ws, t, xs, f, n1, rfl, hx, h7, hf, hxl, ht⟩ F' N'
  have hfit : (ws ++ [Value.int (nn : Int) t]).length ≤ 1000 := by rw [List.length_append, hx.length, List.length_singleton]; omega
  have K := kept0 G' F'
  have hD := N' _ (.head _)
  have hn := gone0 G' hD.2.2
  walk_at "mine steps"
  · rename News g' L' _ [(_, W.listOf (Array.push _ _) _)] => Ne
    rw [List.push_toArray] at Ne
    obtain ⟨n', hn', hP⟩ := LaP.next hb hx h7 hf hxl ht (Int.ofNat_lt.mp (by assumption))
    exact WhL.go (Or.inl rfl) (by k_asm) Ne hn' hP
  · obtain rfl : nn = 0 := Nat.eq_zero_of_not_pos fun h => absurd (Int.ofNat_lt.mpr h) (by assumption)
    exact hret _ _ _ _ _ K (by rw [← ht, show ((0 : Nat) : Int) = 0 from rfl, abv_0]; exact hx.append (.cons _ _ .nil)) hD.1 hn
end
end
-- LR
section
theorem reg_none_LR : True := by
  w_top off
  k_with_none
  trivial
theorem reg_hdr_LR_1 : True := by
  k_with_none
  k_with "mine enter" => (refine wpAny_call ?_; k_dflt (refine' enterM ?k1 ?k2 ?k3 ?k4 ?k5 ?kA ?kF ?kK ?k6 ?k7 ?k8 ?k9 ?kB ?_ ?c2 ?c3 ?c4 ?c5; (case kA => exact rfl); (case kF => exact rfl); (case kK => exact rfl); (case k1 => k_asm); (case k2 => k_asm); (case k3 => k_asm); (case k4 => first | k_asm | exact News.nil); (case k5 => k_asm); (case k6 => k_is); (case k7 => k_is); (case k8 => ktr_room); (case k9 => exact BindsTo.of_eq rfl); (case c5 => decide); (case kB => exact locs rfl); (case c2 => exact rfl); (case c3 => exact rfl); (case c4 => exact rfl); k_whole); intro g' L' h' G' FG' F' N' B' X' T'; (try dsimp only); (try k_fold))
  k_with "mine back" => (intro h' tk' K'; (have F' := keep_fr (by k_asm) K'); (have N' := keep_news (by k_asm) K'); clear K'; (try dsimp only); (try k_sweep))
  k_with "mine args" => ((case k1 => k_asm); (case k2 => k_asm); (case k3 => k_asm); (case k4 => k_asm); (case kd => ktr_room); (case ku => ktr_units))
  k_with "mine enterC" => (refine wpAny_call ?_; k_dflt (refine' enterMC ?k1 ?k2 ?k3 ?k4 ?k5 ?kA ?kF ?kK ?k6 ?k7 ?k8 ?k9 ?kB ?kD ?_ ?c2 ?c3 ?c4; (case kA => exact rfl); (case kF => exact rfl); (case kK => exact rfl); (case k1 => k_asm); (case k2 => k_asm); (case k3 => k_asm); (case k4 => first | k_asm | exact News.nil); (case k5 => k_asm); (case k6 => k_is); (case k7 => k_is); (case k8 => ktr_room); (case k9 => exact BindsTo.of_eq rfl); (case kB => exact rfl); (case kD => decide +kernel); (case c2 => exact rfl); (case c3 => exact rfl); (case c4 => exact rfl); k_whole); intro g' L' h' tk' cells' G' FG' F' N' Y' B' X' T' l1; (try k_lt l1); k_cells Y'; (try simp only [List.cons_append, List.nil_append] at N'); (try dsimp only); (try k_fold))
  k_with "mine steps" => repeat' (first | (k_unfold; (try dsimp only)) | walk1 | (dsimp only; walk1) | (leave1; (try dsimp only)))
  trivial
theorem reg_hdr_LR_2 : True := by
  k_with "k_ne" => (refine neN ?_; (try dsimp only); first | with_reducible assumption | exact Ne.symm (by with_reducible assumption))
  k_with "FinE" => ((unfold LCg.FinE); intro D' h' tk' F' N' o1'; (try dsimp only [LCg.Off1] at o1'); (repeat (have h9' := o1'.1; replace o1' := o1'.2)); (try clear o1'); (try simp only [List.nil_append, List.cons_append] at N'); (try dsimp only))
  k_with "FinA" => ((unfold LCg.FinA); intro D' h' tk' F' N' o1'; (try dsimp only [LCg.Off1] at o1'); (repeat (have h9' := o1'.1; replace o1' := o1'.2)); (try clear o1'); (try simp only [List.nil_append, List.cons_append] at N'); (try dsimp only))
  k_with "CompRest" => (with_unfolding_all first | (refine LCg.CompRest.succ ?_; intro v' I' oI' C' oC' D' m' h' tk' E' hv' hC' hx' F' N' off' ne'; (first | lcg_open hv' | (obtain ⟨t9', hv9'⟩ := hv'; subst hv9')); (try dsimp only [LCg.Off3] at off'); (have h9' := ne'.1; have h9' := ne'.2.1; have h9' := ne'.2.2; clear ne'); (repeat (have h9' := off'.1.1; have h9' := off'.1.2.1; have h9' := off'.1.2.2; replace off' := off'.2)); (try clear off')) | refine LCg.CompRest.zero ?_)
  trivial

theorem reg_lr : True := by
  k_with "call ref" => (k_here; (with_reducible show wpAny _ _ (call (Value.ref 150) [Value.str _ _]) _ _ _); k_dflt (refine' dirname_c ?k1 ?k2 ?k3 ?k4 ?kx rfl ?kd ?ku ?_; (case kx => assumption); walk_at "mine args"); intro t'; walk_at "mine back")
  trivial
section
variable {w : World} {mean : ExcName → Option Value} {mg mb : Str → Option Value}
 {dp un : Nat} {gd : Option (List Code)} {cn : Str} {sn : List (Str × NameKind)} {sg sc : Bool} {sm : List (Str × Const)} {a : Addr} {ccd : Value} {cl : List (Str × Addr)} {outer : List Env} {A₀ : Around} {base h₀ : Heap} {L : Addr} {m : Str → Option Value} {s : Shared}
    {Q E : Value → Shared → Prop} (B : Below A₀ base outer h₀) (F : Fr h₀ L s.heap m) (X : (Mine.hd.heap_39 w.params).In h₀) (T : Top Mine.hd.view_39 (looseW Mine.hd.view_39 []) mean mg mb h₀)
include B F X T

theorem raised1_c {x : Str} {tk t2 : Tok} (hx : x.length ≤ 100)
    (hd : dp + 5 < recursionLimit) (hu : un + 80 < cLine) (hret : ∀ t h' tk', (∀ b o, s.heap.get? b = some o → h'.get? b = some o) → Q (.str (dirT x) t) {s with heap := h', toks := tk'}) :
    wpAny (model Challenge.rw_pd0139_01.row.prog w) (ktrTop dp un gd cn ⟨.function, sn, sg, sc, sm⟩ L a ccd cl outer) (call (.ref 183) [.str x tk, .int 1 t2]) Q E s := by
  revert X; k_fill; intro X
  (refine wpAny_call ?_); k_dflt (refine' enterM (binds := [(Str.ofString "path", .str x tk), (Str.ofString "reach", .int 1 t2)]) ?k1 ?k2 ?k3 ?k4 ?k5 ?kA ?kF ?kK ?k6 ?k7 ?k8 ?k9 ?kB ?_ ?c2 ?c3 ?c4 ?c5; (case kA => exact rfl); (case kF => exact rfl); (case kK => exact rfl); (case k1 => k_asm); (case k2 => k_asm); (case k3 => k_asm); (case k4 => first | k_asm | exact News.nil); (case k5 => k_asm); (case k6 => k_is); (case k7 => k_is); (case k8 => ktr_room); (case k9 => exact BindsTo.of_eq rfl); (case c5 => decide); (case kB => exact locs rfl); (case c2 => exact rfl); (case c3 => exact rfl); (case c4 => exact rfl); k_whole)
  intro g' L' h' G' FG' F' N' B' X' T'
  (try dsimp only); (try k_fold)
  walk_at "mine steps"
  exact hret _ _ _ (kept0 (by assumption) (by assumption))
theorem raised2_c {x : Str} {tk t2 : Tok} (hx : x.length ≤ 100) (hx2 : (dirT x).length ≤ 100)
    (hd : dp + 5 < recursionLimit) (hu : un + 80 < cLine) (hret : ∀ t h' tk', (∀ b o, s.heap.get? b = some o → h'.get? b = some o) → Q (.str (dirT (dirT x)) t) {s with heap := h', toks := tk'}) :
    wpAny (model Challenge.rw_pd0139_01.row.prog w) (ktrTop dp un gd cn ⟨.function, sn, sg, sc, sm⟩ L a ccd cl outer) (call (.ref 183) [.str x tk, .int 2 t2]) Q E s := by
  revert X; k_fill; intro X
  (refine wpAny_call ?_); k_dflt (refine' enterM (binds := [(Str.ofString "path", .str x tk), (Str.ofString "reach", .int 2 t2)]) ?k1 ?k2 ?k3 ?k4 ?k5 ?kA ?kF ?kK ?k6 ?k7 ?k8 ?k9 ?kB ?_ ?c2 ?c3 ?c4 ?c5; (case kA => exact rfl); (case kF => exact rfl); (case kK => exact rfl); (case k1 => k_asm); (case k2 => k_asm); (case k3 => k_asm); (case k4 => first | k_asm | exact News.nil); (case k5 => k_asm); (case k6 => k_is); (case k7 => k_is); (case k8 => ktr_room); (case k9 => exact BindsTo.of_eq rfl); (case c5 => decide); (case kB => exact locs rfl); (case c2 => exact rfl); (case c3 => exact rfl); (case c4 => exact rfl); k_whole)
  intro g' L' h' G' FG' F' N' B' X' T'
  (try dsimp only); (try k_fold)
  walk_at "mine steps"
  exact hret _ _ _ (kept0 (by assumption) (by assumption))
end
end
-- CG
section
theorem reg_none_CG : True := by
  w_top off
  k_with_none
  trivial
/-- two lists of one length, place by place -/
inductive Two {α β : Type} (R : α → β → Prop) : List α → List β → Prop
  | nil : Two R [] []
  | cons {a b xs ys} : R a b → Two R xs ys → Two R (a :: xs) (b :: ys)
theorem Two.snoc {α β : Type} {R : α → β → Prop} {xs : List α} {ys : List β} {a : α} {b : β} (h : Two R xs ys) (r : R a b) : Two R (xs ++ [a]) (ys ++ [b]) := by
  induction h with
  | nil => exact .cons r .nil
  | cons h1 _ ih => exact .cons h1 ih
theorem Two.length {α β : Type} {R : α → β → Prop} {xs : List α} {ys : List β} (h : Two R xs ys) : xs.length = ys.length := by
  induction h with
  | nil => rfl
  | cons _ _ ih => simp [ih]
theorem Two.get {α β : Type} {R : α → β → Prop} {xs : List α} {ys : List β} (h : Two R xs ys) : ∀ {i : Nat} {a : α}, xs[i]? = some a → ∃ b, ys[i]? = some b ∧ R a b := by
  induction h with
  | nil => intro i a h; simp at h
  | cons h1 _ ih =>
    intro i a h
    cases i with
    | zero => exact ⟨_, rfl, by simp at h; exact h ▸ h1⟩
    | succ i => exact ih (by simpa using h)
theorem Two.flip {α β : Type} {R : α → β → Prop} {xs : List α} {ys : List β} (h : Two R xs ys) : Two (fun b a => R a b) ys xs := by
  induction h with
  | nil => exact .nil
  | cons h1 _ ih => exact .cons h1 ih
section
variable {prog : Program} {w : World} {A : Around} {s : Shared} {h₀ : Heap} {L : Addr} {m : Str → Option Value} {env : Env}
theorem comp_inv {elt : Expr} {x : Str} {scope : Scope} {cl : List (Str × Addr)} {S : List (Addr × Obj) → Prop} {P : Nat → Value → Prop} {Fin : List Value → List (Addr × Obj) → Prop} {n : Nat} {news : List (Addr × Obj)}
    (Inv : Nat → List Value → List (Addr × Obj) → Prop) (h0 : Inv 0 [] news)
    (turn : ∀ i v I oI C oC D ys news₁ m₂ h tk (E' : Value → Shared → Prop), i < n → Inv i ys news₁ → P i v → LCg.NsObj oC m₂ → m₂ x = some v → Fr h₀ L h m → News h₀ L h ((I, oI) :: (C, oC) :: (D, LCg.lst ys) :: news₁) → LCg.Off3 I C D news₁ → ((@Ne Nat I C) ∧ (@Ne Nat I D) ∧ (@Ne Nat C D)) →
      wpAny (model prog w) A (eval elt (compEnvC scope cl C env)) (LCg.CompEnd h₀ L m { s with heap := h, toks := tk } I oI C oC D (LCg.lst ys) S (fun y news' => Inv (i + 1) (ys ++ [y]) news')) E' { s with heap := h, toks := tk })
    (fin : ∀ ys news₁, Inv n ys news₁ → Fin ys news₁) : LCg.CompRest prog w A h₀ L m env elt x scope cl s S P Fin n 0 [] news := by
  have go : ∀ k i ys news₁, i + k = n → Inv i ys news₁ → LCg.CompRest prog w A h₀ L m env elt x scope cl s S P Fin k i ys news₁ := by
    intro k
    induction k with
    | zero => intro i ys news₁ hi hI; obtain rfl : i = n := by omega
              exact fin _ _ hI
    | succ k ih =>
      intro i ys news₁ hi hI v I oI C oC D m₂ h tk E' hv hoC hx F N off ne
      refine wpAny_mono (turn i v I oI C oC D ys news₁ m₂ h tk E' (by omega) hI hv hoC hx F N off ne) (fun y s' h' => ?_) fun _ _ e => e
      obtain ⟨h₁, tk₁, news₂, rfl, F₁, N₁, off₁, hS₁, hI₁⟩ := h'
      exact ⟨h₁, tk₁, news₂, rfl, F₁, N₁, off₁, hS₁, ih (i + 1) _ _ (by omega) hI₁⟩
  exact go n 0 [] news (by omega) h0
/-- a comprehension that makes nothing but its list -/
theorem comp_map {elt : Expr} {x : Str} {scope : Scope} {cl : List (Str × Addr)} {S : List (Addr × Obj) → Prop} {P : Nat → Value → Prop} {Fin : List Value → List (Addr × Obj) → Prop} {n : Nat} {news : List (Addr × Obj)}
    (R : Nat → Value → Prop) (hS : S news)
    (turn : ∀ i v I oI C oC D ys m₂ h tk (E' : Value → Shared → Prop), i < n → P i v → LCg.NsObj oC m₂ → m₂ x = some v → Fr h₀ L h m → News h₀ L h ((I, oI) :: (C, oC) :: (D, LCg.lst ys) :: news) → LCg.Off3 I C D news → ((@Ne Nat I C) ∧ (@Ne Nat I D) ∧ (@Ne Nat C D)) →
      wpAny (model prog w) A (eval elt (compEnvC scope cl C env)) (fun y s' => R i y ∧ Same h₀ L m s ((I, oI) :: (C, oC) :: (D, LCg.lst ys) :: news) s') E' { s with heap := h, toks := tk })
    (fin : ∀ ys, Two R (List.range n) ys → Fin ys news) : LCg.CompRest prog w A h₀ L m env elt x scope cl s S P Fin n 0 [] news := by
  refine comp_inv (fun i ys news₁ => news₁ = news ∧ Two R (List.range i) ys) ⟨rfl, .nil⟩ ?_ ?_
  · rintro i v I oI C oC D ys news₁ m₂ h tk E' hi ⟨rfl, hR⟩ hv hoC hx F N off ne
    refine wpAny_mono (turn i v I oI C oC D ys m₂ h tk E' hi hv hoC hx F N off ne) (fun y s' h' => ?_) fun _ _ e => e
    obtain ⟨hr, h₁, tk₁, rfl, F₁, N₁⟩ := h'
    exact ⟨h₁, tk₁, _, rfl, F₁, N₁, off, hS, rfl, by rw [List.range_succ]; exact hR.snoc hr⟩
  · rintro ys news₁ ⟨rfl, hR⟩
    exact fin ys hR
/-- what a turn that makes one object hands back -/
noncomputable def Made1 (h₀ : Heap) (L : Addr) (m : Str → Option Value) (s : Shared) (news : List (Addr × Obj)) (G : Obj → Prop) (y : Value) (s' : Shared) : Prop :=
  ∃ h' tk' a o, y = .ref a ∧ s' = { s with heap := h', toks := tk' } ∧ Fr h₀ L h' m ∧ News h₀ L h' ((a, o) :: news) ∧ (∀ p ∈ news, p.1 ≠ a) ∧ G o
theorem Made1.intro {h₀ h' : Heap} {L : Addr} {m : Str → Option Value} {s : Shared} {news : List (Addr × Obj)} {G : Obj → Prop} {a : Addr} {o : Obj} {tk' : Nat} (F : Fr h₀ L h' m) (N : News h₀ L h' ((a, o) :: news)) (hne : ∀ p ∈ news, p.1 ≠ a) (hG : G o) :
    Made1 h₀ L m s news G (.ref a) { s with heap := h', toks := tk' } := ⟨h', tk', a, o, rfl, rfl, F, N, hne, hG⟩
/-- a comprehension each turn of which makes one object -/
theorem comp_make {elt : Expr} {x : Str} {scope : Scope} {cl : List (Str × Addr)} {S : List (Addr × Obj) → Prop} {P : Nat → Value → Prop} {Fin : List Value → List (Addr × Obj) → Prop} {n : Nat} {pre post : List (Addr × Obj)}
    (G : Nat → Obj → Prop) (hS : ∀ rs, S (pre ++ (rs ++ post)))
    (turn : ∀ i v I oI C oC D ys rs m₂ h tk (E' : Value → Shared → Prop), i < n → P i v → LCg.NsObj oC m₂ → m₂ x = some v → Fr h₀ L h m → News h₀ L h ((I, oI) :: (C, oC) :: (D, LCg.lst ys) :: (pre ++ (rs ++ post))) → LCg.Off3 I C D (pre ++ (rs ++ post)) → ((@Ne Nat I C) ∧ (@Ne Nat I D) ∧ (@Ne Nat C D)) →
      wpAny (model prog w) A (eval elt (compEnvC scope cl C env)) (Made1 h₀ L m s ((I, oI) :: (C, oC) :: (D, LCg.lst ys) :: (pre ++ (rs ++ post))) (G i)) E' { s with heap := h, toks := tk })
    (fin : ∀ ys rs, Two (fun i (p : Addr × Obj) => G i p.2) (List.range n) rs → ys = rs.map (fun p => Value.ref p.1) → (∀ r ∈ rs, ∀ p ∈ pre ++ post, p.1 ≠ r.1) → Fin ys (pre ++ (rs ++ post))) : LCg.CompRest prog w A h₀ L m env elt x scope cl s S P Fin n 0 [] (pre ++ ([] ++ post)) := by
  refine comp_inv (fun i ys news₁ => ∃ rs, news₁ = pre ++ (rs ++ post) ∧ Two (fun i (p : Addr × Obj) => G i p.2) (List.range i) rs ∧ ys = rs.map (fun p => Value.ref p.1) ∧ ∀ r ∈ rs, ∀ p ∈ pre ++ post, p.1 ≠ r.1) ⟨[], rfl, .nil, rfl, fun r hr => nomatch hr⟩ ?_ ?_
  · rintro i v I oI C oC D ys news₁ m₂ h tk E' hi ⟨rs, rfl, hG, hys, hap⟩ hv hoC hx F N off ne
    refine wpAny_mono (turn i v I oI C oC D ys rs m₂ h tk E' hi hv hoC hx F N off ne) (fun y s' h' => ?_) fun _ _ e => e
    obtain ⟨h₁, tk₁, a, o, rfl, rfl, F₁, N₁, hne, hg⟩ := h'
    have sub : ∀ p ∈ pre ++ ((rs ++ [(a, o)]) ++ post), p = (a, o) ∨ p ∈ pre ++ (rs ++ post) := by
      intro p hp
      simp only [List.mem_append, List.mem_singleton] at hp ⊢
      rcases hp with h | (h | h) | h
      · exact .inr (.inl h)
      · exact .inr (.inr (.inl h))
      · exact .inl h
      · exact .inr (.inr (.inr h))
    have nI := hne _ (.head _)
    have nC := hne _ (.tail _ (.head _))
    have nD := hne _ (.tail _ (.tail _ (.head _)))
    refine LCg.CompEnd.intro F₁ N₁ (pre ++ ((rs ++ [(a, o)]) ++ post)) (fun p hp => ?_) (LCg.Off3.of fun p hp => ?_) (hS _) ⟨_, rfl, by rw [List.range_succ]; exact hG.snoc hg, by rw [hys]; simp, fun r hr p hp => ?_⟩
    · rcases List.mem_cons.mp hp with rfl | hp
      · exact .tail _ (.head _)
      rcases List.mem_cons.mp hp with rfl | hp
      · exact .tail _ (.tail _ (.head _))
      rcases List.mem_cons.mp hp with rfl | hp
      · exact .tail _ (.tail _ (.tail _ (.head _)))
      rcases sub p hp with rfl | hp
      · exact .head _
      · exact .tail _ (.tail _ (.tail _ (.tail _ hp)))
    · rcases sub p hp with rfl | hp
      · exact ⟨Ne.symm nI, Ne.symm nC, Ne.symm nD⟩
      · exact off.mem p hp
    · rcases List.mem_append.mp hr with hr | hr
      · exact hap r hr p hp
      · rw [List.mem_singleton.mp hr]
        refine hne p (.tail _ (.tail _ (.tail _ ?_)))
        rcases List.mem_append.mp hp with h | h
        · exact List.mem_append_left _ h
        · exact List.mem_append_right _ (List.mem_append_right _ h)
  · rintro ys news₁ ⟨rs, rfl, hG, hys, hap⟩
    exact fin ys rs hG hys hap
end
section
variable {M : Model} {A : Around} {E : Value → Shared → Prop} {s : Shared} {h₀ : Heap} {L : Addr} {m : Str → Option Value} {env : Env}
theorem store_cell {name : Str} {c : Addr} {oc : Obj} {v₀ : Option Value} {v : Value} {pre post : List (Addr × Obj)} {Q : Unit → Shared → Prop} (F : Fr h₀ L s.heap m) (N : News h₀ L s.heap (pre ++ (c, oc) :: post)) (hpre : ∀ p ∈ pre, p.1 ≠ c) (hpost : ∀ p ∈ post, p.1 ≠ c)
    (hk : env.scope.kind = .function) (hl : env.kindOf name = some .cell) (hc : env.cells.lookup name = some c) (hcell : oc.data = .cell v₀)
    (h : ∀ h' oc', oc'.data = .cell (some v) → Fr h₀ L h' m → News h₀ L h' (pre ++ (c, oc') :: post) → Q () { s with heap := h' }) : wpAny M A (storeName env name v) Q E s := by
  have z := N (c, oc) (List.mem_append_right _ (.head _))
  refine wpAny_storeName_cell hk hl hc ⟨oc, z.1, hcell⟩ fun h' hc' hs' => ?_
  obtain ⟨oc', e', d'⟩ := hc'
  refine h h' oc' d' (F.change hs' z.2.1 z.2.2) fun p hp => ?_
  rcases List.mem_append.mp hp with hp | hp
  · have y := N p (List.mem_append_left _ hp)
    exact ⟨hs'.extBut _ _ (hpre p hp) y.1, y.2⟩
  rcases List.mem_cons.mp hp with rfl | hp
  · exact ⟨e', z.2⟩
  · have y := N p (List.mem_append_right _ (.tail _ hp))
    exact ⟨hs'.extBut _ _ (hpost p hp) y.1, y.2⟩
end
end
-- CC
section
theorem reg_none_CC : True := by
  w_top off
  k_with_none
  trivial
theorem newEnv_1 {M : Model} {A : Around} {E : Value → Shared → Prop} {s : Shared} {scope : Scope} {globals : Addr} {cl : List (Str × Addr)} {qual : Str} {x : Str} {around : Env} {Q : Env → Shared → Prop}
    (hcs : ∀ n, cellsFrom n scope.names cl = (x, n) :: cl) (hph : ∀ h, pushCells h scope.names = h.push { cls := .type "cell", data := .cell none })
    (hQ : Q (newEnv scope s.heap.objs.size globals ((x, s.heap.objs.size + 1) :: cl) qual none .none (some around) builtinsNs) { s with heap := (s.heap.push { cls := .type "dict", data := .dict #[] }).push { cls := .type "cell", data := .cell none } }) :
    wpAny M A (newFunctionEnv scope globals cl [] qual none .none (some around)) Q E s := by
  simp only [newFunctionEnv, Option.isSome_some, if_true]
  refine wpAny_bind (wpAny_alloc ?_)
  refine wpAny_bind (wpAny_layCells _ (fun name kind cells => by cases hkc : kind == NameKind.cell <;> simp [hkc]) _ _ _ _ ?_)
  rw [hcs, hph, show ({ s with heap := s.heap.push { cls := .type "dict", data := .dict #[] } } : Shared).heap.objs.size = s.heap.objs.size + 1 from Heap.size_push ..]
  exact wpAny_bind (wpAny_pure (wpAny_pure hQ))
theorem lookup_relabel_cell {env : Env} : ∀ {names : List (Str × NameKind)} {x : Str}, names.lookup x = some .cell →
    (names.map fun (n, k) => if (k == NameKind.free && env.scope.kind == .function && env.kindOf n == some .cell) then (n, NameKind.cell) else (n, k)).lookup x = some .cell
  | [], _, h => by simp at h
  | (n, k) :: r, x, h => by
    have ih := @lookup_relabel_cell env r x
    show List.lookup x ((if (k == NameKind.free && env.scope.kind == .function && env.kindOf n == some .cell) = true then (n, NameKind.cell) else (n, k)) :: _) = _
    cases hx : x == n with
    | true =>
      simp only [List.lookup_cons, hx] at h
      cases h
      simp [List.lookup_cons, hx]
    | false =>
      simp only [List.lookup_cons, hx] at h
      by_cases hc : (k == NameKind.free && env.scope.kind == .function && env.kindOf n == some .cell) = true
      · rw [if_pos hc]; simp only [List.lookup_cons, hx]; exact ih h
      · rw [if_neg hc]; simp only [List.lookup_cons, hx]; exact ih h
/-- what a turn of a comprehension with a cell for its target hands back -/
noncomputable def EndC (h₀ : Heap) (L : Addr) (m : Str → Option Value) (s₁ : Shared) (I : Addr) (oI : Obj) (C : Addr) (oC : Obj) (D : Addr) (oD : Obj) (X : Addr) (oX : Obj) (S : List (Addr × Obj) → Prop) (rest : Value → List (Addr × Obj) → Prop) (y : Value) (s₂ : Shared) : Prop :=
  ∃ h' tk news', s₂ = { s₁ with heap := h', toks := tk } ∧ Fr h₀ L h' m ∧ News h₀ L h' ((I, oI) :: (C, oC) :: (D, oD) :: (X, oX) :: news') ∧ (∀ p ∈ news', p.1 ≠ I ∧ p.1 ≠ C ∧ p.1 ≠ D ∧ p.1 ≠ X) ∧ S news' ∧ rest y news'
/-- a comprehension's tests, none or one -/
noncomputable def testC (ifs : List Expr) (env : Env) : Sem Bool := forIn ifs true fun c r => if r = true then do let ok ← isTrue c env (eval c env); pure (ForInStep.yield ok) else pure (ForInStep.yield r)
section
variable {prog : Program} {w : World} {A : Around} {E : Value → Shared → Prop} {s : Shared} {h₀ : Heap} {L : Addr} {m : Str → Option Value} {env : Env}
noncomputable def TurnC (prog : Program) (w : World) (A : Around) (h₀ : Heap) (L : Addr) (m : Str → Option Value) (env : Env) (elt : Expr) (ifs : List Expr) (x : Str) (scope : Scope) (cl : List (Str × Addr)) (s₂ : Shared) (S : List (Addr × Obj) → Prop) (P : Nat → Value → Prop) (n : Nat) (Inv : Nat → List Value → List (Addr × Obj) → Prop) : Prop :=
  ∀ i v I oI C oC D X oX ys news₁ m₂ h tk (E' : Value → Shared → Prop), i < n → Inv i ys news₁ → P i v → LCg.NsObj oC m₂ → oX.data = .cell (some v) → Fr h₀ L h m → News h₀ L h ((I, oI) :: (C, oC) :: (D, LCg.lst ys) :: (X, oX) :: news₁) → (∀ p ∈ news₁, p.1 ≠ I ∧ p.1 ≠ C ∧ p.1 ≠ D ∧ p.1 ≠ X) → ((@Ne Nat I C) ∧ (@Ne Nat I D) ∧ (@Ne Nat C D) ∧ (@Ne Nat I X) ∧ (@Ne Nat C X) ∧ (@Ne Nat D X)) →
      wpAny (model prog w) A (testC ifs (compEnvC scope ((x, X) :: cl) C env)) (fun ok s' => if ok = true then
        wpAny (model prog w) A (eval elt (compEnvC scope ((x, X) :: cl) C env)) (EndC h₀ L m { s₂ with heap := h, toks := tk } I oI C oC D (LCg.lst ys) X oX S (fun y news' => Inv (i + 1) (ys ++ [y]) news')) E' s'
        else EndC h₀ L m { s₂ with heap := h, toks := tk } I oI C oC D (LCg.lst ys) X oX S (fun _ news' => Inv (i + 1) ys news') Value.none s') E' { s₂ with heap := h, toks := tk }
/-- what holds between the turns; in and out of it by one step each -/
noncomputable def CInv (h₀ : Heap) (L : Addr) (m : Str → Option Value) (s₂ : Shared) (n : Nat) (St : Nat → Heap → Prop) (S : List (Addr × Obj) → Prop) (Inv : Nat → List Value → List (Addr × Obj) → Prop) (I C D X : Addr) (k : Nat) (s' : Shared) : Prop :=
  ∃ h' tk i ys m' news' cv, s' = { s₂ with heap := h', toks := tk } ∧ i ≤ n ∧ k = n + 1 - i ∧ ys.length ≤ i ∧ St i h' ∧ Fr h₀ L h' m ∧ h'.Ns C m' ∧ h'.IsCell X cv ∧ News h₀ L h' ((D, LCg.lst ys) :: news') ∧ (∀ p ∈ news', p.1 ≠ I ∧ p.1 ≠ C ∧ p.1 ≠ D ∧ p.1 ≠ X) ∧ S news' ∧ Inv i ys news'
theorem CInv.mk {h₀ h' : Heap} {L : Addr} {m m' : Str → Option Value} {s₂ : Shared} {n i tk : Nat} {ys : List Value} {St : Nat → Heap → Prop} {S : List (Addr × Obj) → Prop} {Inv : Nat → List Value → List (Addr × Obj) → Prop} {I C D X : Addr} {news' : List (Addr × Obj)} {cv : Option Value} (h1 : i ≤ n) (h2 : ys.length ≤ i) (h3 : St i h') (h4 : Fr h₀ L h' m) (h5 : h'.Ns C m') (h6 : h'.IsCell X cv)
    (h7 : News h₀ L h' ((D, LCg.lst ys) :: news')) (h8 : ∀ p ∈ news', p.1 ≠ I ∧ p.1 ≠ C ∧ p.1 ≠ D ∧ p.1 ≠ X) (h9 : S news') (h10 : Inv i ys news') : CInv h₀ L m s₂ n St S Inv I C D X (n + 1 - i) { s₂ with heap := h', toks := tk } := ⟨h', tk, i, ys, m', news', cv, rfl, h1, rfl, h2, h3, h4, h5, h6, h7, h8, h9, h10⟩
@[elab_as_elim] theorem CInv.elim {h₀ : Heap} {L : Addr} {m : Str → Option Value} {s₂ s' : Shared} {n k : Nat} {St : Nat → Heap → Prop} {S : List (Addr × Obj) → Prop} {Inv : Nat → List Value → List (Addr × Obj) → Prop} {I C D X : Addr} {K : Nat → Shared → Prop} (h : CInv h₀ L m s₂ n St S Inv I C D X k s')
    (go : ∀ h' tk i ys m' news' cv, i ≤ n → ys.length ≤ i → St i h' → Fr h₀ L h' m → h'.Ns C m' → h'.IsCell X cv → News h₀ L h' ((D, LCg.lst ys) :: news') → (∀ p ∈ news', p.1 ≠ I ∧ p.1 ≠ C ∧ p.1 ≠ D ∧ p.1 ≠ X) → S news' → Inv i ys news' → K (n + 1 - i) { s₂ with heap := h', toks := tk }) : K k s' := by
  obtain ⟨h', tk, i, ys, m', news', cv, rfl, h1, rfl, h2, h3, h4, h5, h6, h7, h8, h9, h10⟩ := h
  exact go h' tk i ys m' news' cv h1 h2 h3 h4 h5 h6 h7 h8 h9 h10
@[elab_as_elim] theorem EndC.elim {h₀ : Heap} {L : Addr} {m : Str → Option Value} {s₁ s₂ : Shared} {I C D X : Addr} {oI oC oD oX : Obj} {S : List (Addr × Obj) → Prop} {rest : Value → List (Addr × Obj) → Prop} {y : Value} {K : Shared → Prop} (h : EndC h₀ L m s₁ I oI C oC D oD X oX S rest y s₂)
    (go : ∀ h' tk news', Fr h₀ L h' m → News h₀ L h' ((I, oI) :: (C, oC) :: (D, oD) :: (X, oX) :: news') → (∀ p ∈ news', p.1 ≠ I ∧ p.1 ≠ C ∧ p.1 ≠ D ∧ p.1 ≠ X) → S news' → rest y news' → K { s₁ with heap := h', toks := tk }) : K s₂ := by
  obtain ⟨h', tk, news', rfl, h1, h2, h3, h4, h5⟩ := h
  exact go h' tk news' h1 h2 h3 h4 h5
theorem lt_next {n i : Nat} (h : i < n) : n + 1 - (i + 1) < n + 1 - i := by omega
theorem block_C {elt iter : Expr} {ifs : List Expr} {x : Str} {px : Pos} {scope : Scope} {cl : List (Str × Addr)} {pos : Pos} {s₂ : Shared} {I : Addr} {fp : List Addr} {n : Nat} {P : Nat → Value → Prop} {St : Nat → Heap → Prop} {S : List (Addr × Obj) → Prop} {news : List (Addr × Obj)}
    {RR : Value → Addr → Result → Shared → Prop}
    (W : Walks prog w A I fp [I] n P St) (hsz : n ≤ sizeLine) (hIo : ∀ i h, St i h → ∃ o, h.get? I = some o)
    (hSt : ∀ i h h' o nw, St i h → h.get? I = some o → h'.get? I = some o → (∀ b o, h₀.get? b = some o → h'.get? b = some o) → News h₀ L h' nw → S nw → St i h')
    (hcs : ∀ n, cellsFrom n scope.names cl = (x, n) :: cl) (hph : ∀ h, pushCells h scope.names = h.push { cls := .type "cell", data := .cell none }) (hkind : scope.kind = .function) (hx : scope.names.lookup x = some .cell) (hst : St 0 s₂.heap) (hfp : ∀ b ∈ fp, b < s₂.heap.objs.size)
    (F : Fr h₀ L s₂.heap m) (N : News h₀ L s₂.heap news) (hIL : L ≠ I) (hI₀ : h₀.get? I = none) (off : ∀ p ∈ news, p.1 ≠ I) (hS : S news)
    (Inv : Nat → List Value → List (Addr × Obj) → Prop) (h0 : Inv 0 [] news) (turn : TurnC prog w A h₀ L m env elt ifs x scope cl s₂ S P n Inv)
    (hRR : ∀ D C h tk m' ys news', Fr h₀ L h m → News h₀ L h ((D, LCg.lst ys) :: news') → (∀ p ∈ news', p.1 ≠ D) → h.Ns C m' → h₀.get? C = none → h₀.get? D = none → C ≠ L → D ≠ L → C ≠ D → (∀ p ∈ news', p.1 ≠ C) → Inv n ys news' → RR (.ref D) C (.ok .next) { s₂ with heap := h, toks := tk }) :
    wpAny (model prog w) A (newList []) (fun acc s₃ => wpAny (model prog w) A (newFunctionEnv scope env.globals cl [] env.qual none .none (some env)) (fun cenv s₄ =>
      codeAny (model prog w) A (.compStart (.ListComp elt [⟨.Name x px, iter, ifs, 0⟩] scope pos) 0 (.ref I) acc { cenv with scope := relabel scope env }) (RR acc cenv.locals) s₄) E s₃) E s₂ := by
  refine wpAny_newObj_type (newEnv_1 hcs hph ?_)
  dsimp only
  generalize hH2 : s₂.heap.push { cls := .type "list", dict := none, data := .seq ([] : List Value).toArray } = H2
  generalize hH3 : H2.push { cls := .type "dict", data := .dict #[] } = H3
  generalize hH1 : H3.push { cls := .type "cell", data := .cell none } = h₁
  have hC : H2.objs.size = s₂.heap.objs.size + 1 := by rw [← hH2, Heap.size_push]
  have hX : H3.objs.size = H2.objs.size + 1 := by rw [← hH3, Heap.size_push]
  have hDC : s₂.heap.objs.size ≠ H2.objs.size := by rw [hC]; exact Nat.ne_of_lt (Nat.lt_succ_self _)
  have hDX : s₂.heap.objs.size ≠ H2.objs.size + 1 := by rw [hC]; exact Nat.ne_of_lt (Nat.lt_succ_of_lt (Nat.lt_succ_self _))
  have hCX : H2.objs.size ≠ H2.objs.size + 1 := Nat.ne_of_lt (Nat.lt_succ_self _)
  have below : ∀ b, b < s₂.heap.objs.size → b ≠ H2.objs.size ∧ b ≠ s₂.heap.objs.size ∧ b ≠ H2.objs.size + 1 := fun b hb => ⟨by rw [hC]; exact Nat.ne_of_lt (Nat.lt_succ_of_lt hb), Nat.ne_of_lt hb, by rw [hC]; exact Nat.ne_of_lt (Nat.lt_succ_of_lt (Nat.lt_succ_of_lt hb))⟩
  have hDf : s₂.heap.objs.size ∉ fp := fun hm => Nat.lt_irrefl _ (hfp _ hm)
  have hCf : H2.objs.size ∉ fp := fun hm => by have := hfp _ hm; rw [hC] at this; exact Nat.lt_irrefl _ (Nat.lt_of_succ_lt this)
  have hXf : H2.objs.size + 1 ∉ fp := fun hm => by have := hfp _ hm; rw [hC] at this; exact Nat.lt_irrefl _ (Nat.lt_of_succ_lt (Nat.lt_of_succ_lt this))
  have hIf : I ∈ fp := W.sub I (List.mem_singleton.mpr rfl)
  have hIlt : I < s₂.heap.objs.size := hfp I hIf
  have old : ∀ b o, s₂.heap.get? b = some o → h₁.get? b = some o := fun b o e => hH1 ▸ Heap.get?_push_of_some _ (hH3 ▸ Heap.get?_push_of_some _ (hH2 ▸ Heap.get?_push_of_some _ e))
  have hacc : h₁.get? s₂.heap.objs.size = some (LCg.lst []) := hH1 ▸ Heap.get?_push_of_some _ (hH3 ▸ Heap.get?_push_of_some _ (hH2 ▸ Heap.get?_push_size _ rfl))
  have hns₁ : h₁.Ns H2.objs.size (fun _ => none) := ⟨_, #[], 0, hH1 ▸ Heap.get?_push_of_some _ (hH3 ▸ Heap.get?_push_size _ rfl), rfl, by intro e he; simp at he, fun _ => rfl⟩
  have hcx₁ : h₁.IsCell (H2.objs.size + 1) none := ⟨_, hX ▸ hH1 ▸ Heap.get?_push_size _ rfl, rfl⟩
  have hst₁ : St 0 h₁ := W.frame _ _ _ hst fun b _ o e => old b o e
  have fresh₀ : ∀ a, s₂.heap.objs.size ≤ a → h₀.get? a = none := fun a ha => by
    cases e : h₀.get? a with
    | none => rfl
    | some o' => exact absurd (Heap.lt_size (F.keep a o' e)) (Nat.not_lt.mpr ha)
  have hD₀ : h₀.get? s₂.heap.objs.size = none := fresh₀ _ (Nat.le_refl _)
  have hC₀ : h₀.get? H2.objs.size = none := fresh₀ _ (by rw [hC]; exact Nat.le_succ _)
  have hX₀ : h₀.get? (H2.objs.size + 1) = none := fresh₀ _ (by rw [hC]; exact Nat.le_succ_of_le (Nat.le_succ _))
  have hLlt : L < s₂.heap.objs.size := F.ns.lt
  have hDL : s₂.heap.objs.size ≠ L := Ne.symm (below L hLlt).2.1
  have hCL : H2.objs.size ≠ L := Ne.symm (below L hLlt).1
  have hXL : H2.objs.size + 1 ≠ L := Ne.symm (below L hLlt).2.2
  have hCI : I ≠ H2.objs.size := (below I hIlt).1
  have hDI : I ≠ s₂.heap.objs.size := (below I hIlt).2.1
  have hXI : I ≠ H2.objs.size + 1 := (below I hIlt).2.2
  have off₀ : ∀ p ∈ news, p.1 ≠ I ∧ p.1 ≠ H2.objs.size ∧ p.1 ≠ s₂.heap.objs.size ∧ p.1 ≠ H2.objs.size + 1 := fun p hp => ⟨off p hp, (below _ (Heap.lt_size (N p hp).1)).1, (below _ (Heap.lt_size (N p hp).1)).2.1, (below _ (Heap.lt_size (N p hp).1)).2.2⟩
  have loop : ∀ s₃ : Shared, s₃ = { s₂ with heap := h₁ } →
      codeAny (model prog w) A (.compLoop (.ListComp elt [⟨.Name x px, iter, ifs, 0⟩] scope pos) 0 (.ref I) (.ref s₂.heap.objs.size) (compEnvC scope ((x, H2.objs.size + 1) :: cl) H2.objs.size env))
        (RR (.ref s₂.heap.objs.size) H2.objs.size) s₃ := by
    rintro s₃ rfl
    refine codeAny_compLoop_tests
      (CInv h₀ L m s₂ n St S Inv I H2.objs.size s₂.heap.objs.size (H2.objs.size + 1)) ?_ (n + 1)
      (CInv.mk (i := 0) (ys := []) (cv := none) (Nat.zero_le _) (Nat.le_refl _) hst₁ (F.keeps old) hns₁ hcx₁ (fun p hp => ?_) off₀ hS h0)
    · intro k s' hP
      refine CInv.elim hP ?_
      clear hP k s'
      intro h' tk i ys m' news' cv hi hyl hst' F' hn' hcx' N' off' hS' hInv
      by_cases hlt : i < n
      · refine W.item i _ _ _ hlt hst' fun v h₂ tk₂ hPv hst₂ hk₂ => ?_
        have hk₃ : ∀ b o, b ≠ I → h'.get? b = some o → h₂.get? b = some o := fun b o hb e => hk₂ b o (by simpa using hb) e
        have hcx₂ : h₂.IsCell (H2.objs.size + 1) cv := by obtain ⟨o, e, d⟩ := hcx'; exact ⟨o, hk₃ _ o (Ne.symm hXI) e, d⟩
        refine wpAny_assign_Name (wpAny_storeName_cell (c := H2.objs.size + 1) (by simp [compEnvC, relabel, hkind]) (lookup_relabel_cell hx) (by simp [compEnvC]) hcx₂ fun h₃ hc₃ hs₃ => ?_)
        have hst₃ : St (i + 1) h₃ := W.frame _ _ _ hst₂ fun b hb o e => hs₃.extBut b o (fun q => hXf (q ▸ hb)) e
        obtain ⟨oI, heI⟩ := hIo _ _ hst₃
        have hn₃ : h₃.Ns H2.objs.size m' := (hn'.at' fun o e => hk₃ _ o (Ne.symm hCI) e).sameBut hs₃ hCX
        obtain ⟨oC, heC, hoC⟩ := LCg.ns_obj hn₃
        obtain ⟨oX, heX, hoX⟩ := hc₃
        have F₃ : Fr h₀ L h₃ m := (LCg.fr_but F' hk₂ hIL hI₀).change hs₃ hXL hX₀
        have N₂ : News h₀ L h₂ ((s₂.heap.objs.size, LCg.lst ys) :: news') := LCg.news_but N' hk₂ fun p hp => by
          rcases List.mem_cons.mp hp with rfl | hp
          · exact Ne.symm hDI
          · exact (off' p hp).1
        have N₃ : News h₀ L h₃ ((I, oI) :: (H2.objs.size, oC) :: (s₂.heap.objs.size, LCg.lst ys) :: (H2.objs.size + 1, oX) :: news') := fun p hp => by
          rcases List.mem_cons.mp hp with rfl | hp
          · exact ⟨heI, Ne.symm hIL, hI₀⟩
          rcases List.mem_cons.mp hp with rfl | hp
          · exact ⟨heC, hCL, hC₀⟩
          rcases List.mem_cons.mp hp with rfl | hp
          · have z := N₂ _ (.head _)
            exact ⟨hs₃.extBut _ _ hDX z.1, z.2⟩
          rcases List.mem_cons.mp hp with rfl | hp
          · exact ⟨heX, hXL, hX₀⟩
          · have z := N₂ p (.tail _ hp)
            exact ⟨hs₃.extBut _ _ (off' p hp).2.2.2 z.1, z.2⟩
        refine wpAny_mono (turn i v I oI H2.objs.size oC s₂.heap.objs.size (H2.objs.size + 1) oX ys news' _ h₃ tk₂ _ hlt hInv hPv hoC hoX F₃ N₃ off' ⟨hCI, hDI, Ne.symm hDC, hXI, hCX, hDX⟩) (fun ok s₄ h₄ => ?_) fun _ _ e => e
        cases ok with
        | true =>
          simp only [if_true] at h₄ ⊢
          refine wpAny_mono h₄ (fun y s₅ h₅ => ?_) fun _ _ e => e
          refine EndC.elim h₅ ?_
          clear h₅ h₄
          intro h₄ tk₄ news₄ F₄ N₄ off₄ hS₄ R₄
          have zI := (N₄ (I, oI) (.head _)).1
          have zC := (N₄ (H2.objs.size, oC) (.tail _ (.head _))).1
          have zD := (N₄ (s₂.heap.objs.size, LCg.lst ys) (.tail _ (.tail _ (.head _)))).1
          have zX := (N₄ (H2.objs.size + 1, oX) (.tail _ (.tail _ (.tail _ (.head _))))).1
          have N₄' : News h₀ L h₄ news₄ := fun p hp => N₄ p (.tail _ (.tail _ (.tail _ (.tail _ hp))))
          have hst₄ : St (i + 1) h₄ := hSt _ _ _ _ _ hst₃ heI zI F₄.keep N₄' hS₄
          refine append_at (hsz := by show ys.toArray.size ≤ sizeLine; rw [List.size_toArray]; exact Nat.le_trans (Nat.le_trans hyl hi) hsz) zD fun h₅ hs₅ hD₅ => ?_
          refine ⟨n + 1 - (i + 1), lt_next hlt, CInv.mk (ys := ys ++ [y]) hlt (by rw [List.length_append, List.length_singleton]; exact Nat.succ_le_succ hyl) (W.frame _ _ _ hst₄ fun b hb o e => hs₅.extBut b o (fun q => hDf (q ▸ hb)) e) (F₄.change hs₅ hDL hD₀)
            ((hoC.ns zC).sameBut hs₅ (Ne.symm hDC)) ⟨oX, hs₅.extBut _ _ (Ne.symm hDX) zX, hoX⟩ (fun p hp => ?_) off₄ hS₄ R₄⟩
          rcases List.mem_cons.mp hp with rfl | hp
          · exact ⟨hD₅.trans (congrArg some (LCg.lst_snoc ys y)), hDL, hD₀⟩
          · exact ⟨hs₅.extBut _ _ (off₄ p hp).2.2.1 (N₄' p hp).1, (N₄' p hp).2⟩
        | false =>
          simp only [Bool.false_eq_true, if_false] at h₄ ⊢
          refine EndC.elim h₄ ?_
          clear h₄
          intro h₅ tk₄ news₄ F₄ N₄ off₄ hS₄ R₄
          have zI := (N₄ (I, oI) (.head _)).1
          have zC := (N₄ (H2.objs.size, oC) (.tail _ (.head _))).1
          have zX := (N₄ (H2.objs.size + 1, oX) (.tail _ (.tail _ (.tail _ (.head _))))).1
          have N₄' : News h₀ L h₅ news₄ := fun p hp => N₄ p (.tail _ (.tail _ (.tail _ (.tail _ hp))))
          have hst₄ : St (i + 1) h₅ := hSt _ _ _ _ _ hst₃ heI zI F₄.keep N₄' hS₄
          refine ⟨n + 1 - (i + 1), lt_next hlt, CInv.mk hlt (Nat.le_succ_of_le hyl) hst₄ F₄ (hoC.ns zC) ⟨oX, zX, hoX⟩ (fun p hp => ?_) off₄ hS₄ R₄⟩
          rcases List.mem_cons.mp hp with rfl | hp
          · exact N₄ _ (.tail _ (.tail _ (.head _)))
          · exact N₄' p hp
      · obtain rfl : i = n := Nat.le_antisymm hi (Nat.not_lt.mp hlt)
        refine W.done _ _ _ hst' fun h₂ tk₂ hk₂ => ?_
        exact hRR _ _ h₂ tk₂ _ ys news' (LCg.fr_but F' hk₂ hIL hI₀) (LCg.news_but N' hk₂ fun p hp => by
          rcases List.mem_cons.mp hp with rfl | hp
          · exact Ne.symm hDI
          · exact (off' p hp).1) (fun p hp => (off' p hp).2.2.1) (hn'.at' fun o e => hk₂ _ o (by simpa using Ne.symm hCI) e) hC₀ hD₀ hCL hDL (Ne.symm hDC) (fun p hp => (off' p hp).2.1) hInv
    · rcases List.mem_cons.mp hp with rfl | hp
      · exact ⟨hacc, hDL, hD₀⟩
      · exact ⟨old _ _ (N p hp).1, (N p hp).2⟩
  exact codeAny_compStart_list (loop _ rfl) (W.self 0 _ _ _ hst₁ (loop _ rfl))
/-- the value of a comprehension over a list, its target a cell -/
theorem ListComp_C {elt iter : Expr} {ifs : List Expr} {x : Str} {px : Pos} {scope : Scope} {cl : List (Str × Addr)} {pos : Pos} {Q : Value → Shared → Prop}
    (hclos : closureFor scope env = pure cl) (hcs : ∀ n, cellsFrom n scope.names cl = (x, n) :: cl) (hph : ∀ h, pushCells h scope.names = h.push { cls := .type "cell", data := .cell none }) (hkind : scope.kind = .function)
    (hnames : ∀ y ∈ scope.names, y.2 = .local → scope.names.lookup y.1 = some .local) (hx : scope.names.lookup x = some .cell)
    (h : wpAny (model prog w) A (eval iter env) (fun xv s₁ => ∃ ax its news, xv = .ref ax ∧ A.handled = none ∧ Fr h₀ L s₁.heap m ∧ News h₀ L s₁.heap news ∧ LCg.SrcAt h₀ ax its news ∧ its.size ≤ sizeLine ∧ ∃ Inv : Nat → List Value → List (Addr × Obj) → Prop, Inv 0 [] news ∧
      ∀ s₂ : Shared, (∃ h, s₂ = { s₁ with heap := h }) → TurnC prog w A h₀ L m env elt ifs x scope cl s₂ (LCg.SrcAt h₀ ax its) (fun i v => its[i]? = some v) its.size Inv ∧
        ∀ D h' tk ys news', Fr h₀ L h' m → News h₀ L h' ((D, LCg.lst ys) :: news') → (∀ p ∈ news', p.1 ≠ D) → Inv its.size ys news' → Q (.ref D) { s₂ with heap := h', toks := tk }) E s)
    (hs : ∀ x, foldedSetIterable iter env x = pure x := by intro _; rfl) :
    wpAny (model prog w) A (eval (.ListComp elt [⟨.Name x px, iter, ifs, 0⟩] scope pos) env) Q E s := by
  rw [eval_ListComp]
  refine wpAny_comprehension_free (use := none) rfl hs hclos hkind hnames (wpAny_mono h (fun xv s₁ h₁ => ?_) fun _ _ e => e)
  obtain ⟨ax, its, news, rfl, hh, F, N, S, hsz, Inv, h0, R⟩ := h₁
  have hl := S.list F.keep N
  have hlt : ax < s₁.heap.objs.size := by obtain ⟨_, e, _⟩ := hl; exact Heap.lt_size e
  refine wpAny_pyIter_list hl ?_
  have up : ∀ b o, s₁.heap.get? b = some o → (s₁.heap.push { cls := .type "list_iterator", data := .fields #[.ref ax, .int 0 0] }).get? b = some o := fun b o e => Heap.get?_push_of_some _ e
  obtain ⟨turn, fin⟩ := R { s₁ with heap := s₁.heap.push { cls := .type "list_iterator", data := .fields #[.ref ax, .int 0 0] } } ⟨_, rfl⟩
  refine block_C (Walks.list hh s₁.heap.objs.size ax (Nat.ne_of_lt hlt) its) hsz (fun i h st => by obtain ⟨o, e, _⟩ := st.1; exact ⟨o, e⟩) LCg.list_st hcs hph hkind hx ⟨⟨_, Heap.get?_push_size _ rfl, rfl, rfl⟩, hl.push _⟩ (fun b hb => ?_)
    (F.keeps up) (N.grown up) (Nat.ne_of_lt F.ns.lt) (next_is_new F) (fun p hp => Nat.ne_of_lt (Heap.lt_size (N p hp).1)) S Inv h0 turn ?_
  · show b < (s₁.heap.push _).objs.size
    rw [Heap.size_push]
    rcases List.mem_cons.mp hb with rfl | hb
    · exact Nat.lt_succ_self _
    · rw [List.mem_singleton.mp hb]; exact Nat.lt_succ_of_lt hlt
  · intro D C h tk m' ys news' F' N' o1 hn hC₀ hD₀ hCL hDL hCD offC hInv
    refine ⟨m', hn, fun h'' hs'' => fin D h'' tk ys news' (F'.change hs'' hCL hC₀) (fun p hp => ?_) o1 hInv⟩
    refine ⟨hs''.extBut _ _ ?_ (N' p hp).1, (N' p hp).2⟩
    rcases List.mem_cons.mp hp with rfl | hp
    · exact Ne.symm hCD
    · exact offC p hp
theorem turnC_map {elt : Expr} {x : Str} {scope : Scope} {cl : List (Str × Addr)} {s₂ : Shared} {S : List (Addr × Obj) → Prop} {P : Nat → Value → Prop} {n : Nat} {news : List (Addr × Obj)} (R : Nat → Value → Prop) (hS : S news)
    (turn : ∀ i v I oI C oC D X oX ys m₂ h tk (E' : Value → Shared → Prop), i < n → P i v → LCg.NsObj oC m₂ → oX.data = .cell (some v) → Fr h₀ L h m → News h₀ L h ((I, oI) :: (C, oC) :: (D, LCg.lst ys) :: (X, oX) :: news) → (∀ p ∈ news, p.1 ≠ I ∧ p.1 ≠ C ∧ p.1 ≠ D ∧ p.1 ≠ X) → ((@Ne Nat I C) ∧ (@Ne Nat I D) ∧ (@Ne Nat C D) ∧ (@Ne Nat I X) ∧ (@Ne Nat C X) ∧ (@Ne Nat D X)) →
      wpAny (model prog w) A (eval elt (compEnvC scope ((x, X) :: cl) C env)) (fun y s' => R i y ∧ Same h₀ L m s₂ ((I, oI) :: (C, oC) :: (D, LCg.lst ys) :: (X, oX) :: news) s') E' { s₂ with heap := h, toks := tk }) :
    TurnC prog w A h₀ L m env elt [] x scope cl s₂ S P n (fun i ys news₁ => news₁ = news ∧ Two R (List.range i) ys) := by
  rintro i v I oI C oC D X oX ys news₁ m₂ h tk E' hi ⟨rfl, hR⟩ hv hoC hoX F N off ne
  refine wpAny_tests_nil ?_
  simp only [if_true]
  refine wpAny_mono (turn i v I oI C oC D X oX ys m₂ h tk E' hi hv hoC hoX F N off ne) (fun y s' h' => ?_) fun _ _ e => e
  obtain ⟨hr, h₁, tk₁, rfl, F₁, N₁⟩ := h'
  exact ⟨h₁, tk₁, _, rfl, F₁, N₁, off, hS, rfl, by rw [List.range_succ]; exact hR.snoc hr⟩
theorem turnC_make {elt : Expr} {x : Str} {scope : Scope} {cl : List (Str × Addr)} {s₂ : Shared} {S : List (Addr × Obj) → Prop} {P : Nat → Value → Prop} {n : Nat} {pre post : List (Addr × Obj)} (G : Nat → Obj → Prop) (hS : ∀ rs, S (pre ++ (rs ++ post)))
    (turn : ∀ i v I oI C oC D X oX ys rs m₂ h tk (E' : Value → Shared → Prop), i < n → P i v → LCg.NsObj oC m₂ → oX.data = .cell (some v) → Fr h₀ L h m → News h₀ L h ((I, oI) :: (C, oC) :: (D, LCg.lst ys) :: (X, oX) :: (pre ++ (rs ++ post))) → (∀ p ∈ pre ++ (rs ++ post), p.1 ≠ I ∧ p.1 ≠ C ∧ p.1 ≠ D ∧ p.1 ≠ X) → ((@Ne Nat I C) ∧ (@Ne Nat I D) ∧ (@Ne Nat C D) ∧ (@Ne Nat I X) ∧ (@Ne Nat C X) ∧ (@Ne Nat D X)) →
      wpAny (model prog w) A (eval elt (compEnvC scope ((x, X) :: cl) C env)) (Made1 h₀ L m s₂ ((I, oI) :: (C, oC) :: (D, LCg.lst ys) :: (X, oX) :: (pre ++ (rs ++ post))) (G i)) E' { s₂ with heap := h, toks := tk }) :
    TurnC prog w A h₀ L m env elt [] x scope cl s₂ S P n (fun i ys news₁ => ∃ rs, news₁ = pre ++ (rs ++ post) ∧ Two (fun i (p : Addr × Obj) => G i p.2) (List.range i) rs ∧ ys = rs.map fun p => Value.ref p.1) := by
  rintro i v I oI C oC D X oX ys news₁ m₂ h tk E' hi ⟨rs, rfl, hG, hys⟩ hv hoC hoX F N off ne
  refine wpAny_tests_nil ?_
  simp only [if_true]
  refine wpAny_mono (turn i v I oI C oC D X oX ys rs m₂ h tk E' hi hv hoC hoX F N off ne) (fun y s' h' => ?_) fun _ _ e => e
  obtain ⟨h₁, tk₁, a, o, rfl, rfl, F₁, N₁, hne, hg⟩ := h'
  have sub : ∀ p ∈ pre ++ ((rs ++ [(a, o)]) ++ post), p = (a, o) ∨ p ∈ pre ++ (rs ++ post) := by
    intro p hp
    simp only [List.mem_append, List.mem_singleton] at hp ⊢
    rcases hp with h | (h | h) | h
    · exact .inr (.inl h)
    · exact .inr (.inr (.inl h))
    · exact .inl h
    · exact .inr (.inr (.inr h))
  have nI := hne _ (.head _)
  have nC := hne _ (.tail _ (.head _))
  have nD := hne _ (.tail _ (.tail _ (.head _)))
  have nX := hne _ (.tail _ (.tail _ (.tail _ (.head _))))
  refine ⟨h₁, tk₁, pre ++ ((rs ++ [(a, o)]) ++ post), rfl, F₁, fun p hp => ?_, fun p hp => ?_, hS _, _, rfl, by rw [List.range_succ]; exact hG.snoc hg, by rw [hys]; simp⟩
  · rcases List.mem_cons.mp hp with rfl | hp
    · exact N₁ _ (.tail _ (.head _))
    rcases List.mem_cons.mp hp with rfl | hp
    · exact N₁ _ (.tail _ (.tail _ (.head _)))
    rcases List.mem_cons.mp hp with rfl | hp
    · exact N₁ _ (.tail _ (.tail _ (.tail _ (.head _))))
    rcases List.mem_cons.mp hp with rfl | hp
    · exact N₁ _ (.tail _ (.tail _ (.tail _ (.tail _ (.head _)))))
    rcases sub p hp with rfl | hp
    · exact N₁ _ (.head _)
    · exact N₁ _ (.tail _ (.tail _ (.tail _ (.tail _ (.tail _ hp)))))
  · rcases sub p hp with rfl | hp
    · exact ⟨Ne.symm nI, Ne.symm nC, Ne.symm nD, Ne.symm nX⟩
    · exact off p hp
end
end
-- T1
section
theorem reg_none_T1 : True := by
  w_top off
  k_with_none
  trivial
theorem noteFrame_firstW {M : Model} {A : Around} {E : Value → Shared → Prop} {s : Shared} {base : Heap} {env : Env} {outer : List Env} {L e : Addr} {oe : Obj} {vs : Array Value} {a0 : Value} {Q : Unit → Shared → Prop}
    (hfr : A.frames = some (env :: outer)) (hl : s.heap.FunFrames base (env :: outer)) (hf : env.frame = some L)
    (he : s.heap.get? e = some oe) (hkb : base.StaysIn s.heap) (hen : base.get? e = none) (hd : oe.data = .fields vs) (h1 : vs[1]? = some .none) (h0 : vs[0]? = some a0)
    (h : ∀ h', Heap.LeftW base (env :: outer) e oe.cls a0 s.heap h' → Q () { s with heap := h' }) : wpAny M A (noteFrame (.ref e) env) (fun _ s' => wpAny M A (setFlight (.ref e) none) Q E s') E s := by
  unfold noteFrame
  simp only [hf]
  refine wpAny_bind (wpAny_field he hd h1 ?_)
  rw [if_neg (by decide)]
  exact wpAny_newEntryW hfr hl hf he hkb hen hd (Array.getElem?_eq_some_iff.mp h1).1 h0 h
section
variable {M : Model} {A : Around} {E : Value → Shared → Prop} {s' : Shared} {base g h : Heap} {outer : List Env} {L a e : Addr} {m : Str → Option Value} {name : Str} {scope : Scope} {cd : Value} {Q : Unit → Shared → Prop} {news : List (Addr × Obj)}
theorem note_newS {cls : String} (K : Below A base outer g) (hx : Heap.NewExc h s'.heap e cls) (F : Fr g L h m) (N : News g L h news)
    (hQ : ∀ h', RaisedSN base (hideAll h (news.map (·.1))) (envOf name scope L a cd :: outer) e (.type cls) news h' → Fr g L (hideAll h (news.map (·.1))) m → (hideAll h (news.map (·.1))).UpToSlots h' → Q () { s' with heap := h' }) (hk : scope.kind = .function := by rfl) :
    wpAny M (A.deeper (envOf name scope L a cd)) (noteFrame (.ref e) (envOf name scope L a cd)) (fun _ s₂ => wpAny M (A.deeper (envOf name scope L a cd)) (setFlight (.ref e) none) Q E s₂) E s' := by
  have K' := K.push (name := name) (a := a) (cd := cd) F hk
  have hin : ∀ env ∈ (envOf name scope L a cd :: outer), ∀ b, env.frame = some b → b ∈ (envOf name scope L a cd :: outer).filterMap (·.frame) := fun env he b hb => List.mem_filterMap.mpr ⟨env, he, hb⟩
  have st : base.StaysIn (hideAll h ((envOf name scope L a cd :: outer).filterMap (·.frame))) := fun b o q => hideAll_get _ (K'.stays b o q) fun hm => by
    rw [(K'.frames.mem hm).1] at q; cases q
  have sg : ∀ b o, (hideAll h (news.map (·.1))).get? b = some o → b ∉ (envOf name scope L a cd :: outer).filterMap (·.frame) → (hideAll h ((envOf name scope L a cd :: outer).filterMap (·.frame))).get? b = some o := fun b o q nm => hideAll_get _ (of_hideAll _ q) nm
  have hl : ∀ q ∈ news, (hideAll h ((envOf name scope L a cd :: outer).filterMap (·.frame))).get? q.1 = some q.2 ∧ (hideAll h (news.map (·.1))).get? q.1 = none ∧ base.get? q.1 = none := fun q hq => by
    refine ⟨hideAll_get _ (N q hq).1 fun hm => ?_, hideAll_none _ (List.mem_map_of_mem hq), fresh_of_stays K.stays (N q hq).2.2⟩
    obtain ⟨env, he, hf⟩ := List.mem_filterMap.mp hm
    rcases List.mem_cons.mp he with rfl | he
    · exact (N q hq).2.1 (Option.some.inj hf).symm
    · obtain ⟨o, ho, _⟩ := (K.frames.mem (List.mem_filterMap.mpr ⟨env, he, hf⟩)).2
      rw [(N q hq).2.2] at ho; cases ho
  obtain ⟨ob, tp, he, hcls, hd⟩ := hx.there
  have hen : (hideAll h ((envOf name scope L a cd :: outer).filterMap (·.frame))).get? e = none := by
    cases q : (hideAll h ((envOf name scope L a cd :: outer).filterMap (·.frame))).get? e with
    | none => rfl
    | some o => have := of_hideAll _ q; rw [hx.new] at this; cases this
  have nm : ∀ b o, g.get? b = some o → b ∉ news.map (·.1) := fun b o e q => by
    obtain ⟨p, hp, rfl⟩ := List.mem_map.mp q
    rw [(N p hp).2.2] at e; cases e
  have nL : L ∉ news.map (·.1) := fun q => by
    obtain ⟨p, hp, e⟩ := List.mem_map.mp q
    exact (N p hp).2.1 e
  have FG : Fr g L (hideAll h (news.map (·.1))) m := by
    obtain ⟨oL, es, ep, hL, hLd, hLk, hLf⟩ := F.ns
    exact ⟨⟨oL, es, ep, hideAll_get _ hL nL, hLd, hLk, hLf⟩, fun b o e => hideAll_get _ (F.keep b o e) (nm b o e), F.above⟩
  refine noteFrame_firstW (a0 := tp) K'.stack ((funFrames_hide K'.frames hin).of_keeps fun b o hb _ => ⟨o, hx.keeps b o hb, rfl⟩) rfl he (fun b o hb => hx.keeps b o (of_hideAll _ hb)) hen hd rfl rfl fun h' hL => ?_
  obtain ⟨k1, k2, k3, k4⟩ := hL
  have R : RaisedSN base (hideAll h (news.map (·.1))) (envOf name scope L a cd :: outer) e (.type cls) news h' := ⟨_, tp, st, sg, hl, k1, hen, k2, by rw [← hcls]; exact k3⟩
  exact hQ h' R FG (((Heap.UpToSlots.of_keeps fun b o q => of_hideAll _ q).trans (Heap.UpToSlots.of_keeps hx.keeps)).trans k4)
end
end
-- T2
section
theorem reg_none_T2 : True := by
  w_top off
  k_with_none
  trivial
/-- a ground that has turned: the frames' slots alone are other -/
structure Gd (A₀ : Around) (base : Heap) (outer : List Env) (K : Frag) (p : Program) (loose : List Str) (mean : ExcName → Option Value) (mg mb : Str → Option Value) (g g' : Heap) : Prop where
  turn : KtsTurn (outer.filterMap (·.frame)) g g'
  below : Below A₀ base outer g'
  frag : K.In g'
  top : Top p loose mean mg mb g'
  dicts : KtsDicts (outer.filterMap (·.frame)) g'
noncomputable def LeaveM (A₀ : Around) (base : Heap) (outer : List Env) (K : Frag) (p : Program) (loose : List Str) (mean : ExcName → Option Value) (mg mb : Str → Option Value) (fs : List Addr) (h₀ : Heap) (L : Addr) (m : Str → Option Value) (g : Heap) (R : Result → Shared → Prop) (v : Value) (s' : Shared) : Prop :=
  ∃ g' L' m' news', KtsTurn fs g g' ∧ Fr g' L' s'.heap m' ∧ News g' L' s'.heap news' ∧ ∀ h₀', Gd A₀ base outer K p loose mean mg mb h₀ h₀' → Fr h₀' L s'.heap m → News h₀' L s'.heap news' → R (.ok (.ret v)) s'
section
variable {prog : Program} {w : World} {A A₀ : Around} {E : Value → Shared → Prop} {s : Shared} {K : Frag} {L : Addr} {h₀ base : Heap} {m mg mb : Str → Option Value} {news : List (Addr × Obj)} {p : Program} {loose : List Str} {mean : ExcName → Option Value}
theorem mem_fr {env : Env} {outer : List Env} {b : Addr} (hf : env.frame = some L) (hm : b ∈ (env :: outer).filterMap (·.frame)) : b = L ∨ b ∈ outer.filterMap (·.frame) := by
  rw [List.filterMap_cons, hf] at hm
  exact List.mem_cons.mp hm
theorem enterMS {env : Env} {outer : List Env} {R : Result → Shared → Prop} {name qual : Str} {params : Arguments} {body : List Stmt} {scope : Scope} {dV kV doc pm cdv ct oc : Value} {an od : Option Addr} {osl : Array (Option Value)} {f : Addr} {args : Args} {binds : List (Str × Value)}
    (B : Below A₀ base outer h₀) (F : Fr h₀ L s.heap m) (X₀ : K.In h₀) (N : News h₀ L s.heap news) (T : Top p loose mean mg mb h₀) (XB : K.In base) (TB : Top p loose mean mg mb base) (D : KtsDicts (outer.filterMap (·.frame)) h₀) (hA : A.frames = some (env :: outer)) (hf : env.frame = some L) (hke : env.scope.kind = .function)
    (ho : K.lookup f = some ⟨oc, od, .func (fnOf name qual params body scope dV kV doc pm an cdv ct), osl⟩) (hcd : codeIn K cdv qual = true) (hroom : A.depth < recursionLimit)
    (hbind : BindsTo s (fnOf name qual params body scope dV kV doc pm an cdv ct) args binds) (hloc : ∀ y ∈ binds, scope.names.lookup y.1 = some .local)
    (h : ∀ g L' h₁, (∀ b o, b ∉ news.map (·.1) → s.heap.get? b = some o → g.get? b = some o) → Fr h₀ L g m → Fr g L' h₁ (fun y => binds.reverse.lookup y) → News g L' h₁ news → Below A base (env :: outer) g → K.In g → Top p loose mean mg mb g → KtsDicts ((env :: outer).filterMap (·.frame)) g →
      wpAny (model prog w) (A.deeper (envOf qual scope L' f cdv)) (execs body (envOf qual scope L' f cdv))
        (fun fl s' => LeaveM A₀ base outer K p loose mean mg mb ((env :: outer).filterMap (·.frame)) h₀ L m g R (match fl with | .ret v => v | _ => .none) s')
        (fun e s' => wpAny (model prog w) (A.deeper (envOf qual scope L' f cdv)) (leaving (envOf qual scope L' f cdv) e) (fun _ s'' => R (.error e) s'') (fun e' s'' => R (.error e') s'') s')
        { s with heap := h₁, toks := s.toks + binds.length })
    (hco : scope.isCoroutine = false) (hgen : scope.isGenerator = false) (hk : scope.kind = .function)
    (hcell : ∀ x ∈ scope.names, x.2 ≠ .cell) : codeAny (model prog w) A (.call (.ref f) args) R s := by
  have X := X₀.keeps F.keep
  obtain ⟨FG, B₂, st, _⟩ := groundX (R := R) B F N hA hf hke
  obtain ⟨oL, es, ep, hLg, hLd, hLk, hLf⟩ := FG.ns
  refine codeAny_call_def (fd := fnOf name qual params body scope dV kV doc pm an cdv ct) (body := body) (binds := binds) hroom (X _ _ ho) rfl (T.nolimit.keeps F.keep) (codeRec_of X hcd) rfl hbind hcell hloc (fun h₁ hns hk₁ => ?_) hco hgen hk
  refine wpAny_mono (h _ s.heap.objs.size h₁ (fun b o hb e => hideAll_get _ e hb) FG ⟨hns, fun b o e => hk₁ b o (of_hideAll _ e), Nat.le_of_eq (hideAll_size _ _)⟩
    (fun p hp => ⟨hk₁ _ _ (N p hp).1, Nat.ne_of_lt (Heap.lt_size (N p hp).1), hideAll_none _ (List.mem_map_of_mem hp)⟩) B₂ (X₀.keeps st) (T.keeps st) (fun b hb => by
      rcases mem_fr hf hb with rfl | hb
      · exact ⟨oL, es, ep, hLg, hLd⟩
      · obtain ⟨o, es', n', ho', hd'⟩ := D b hb
        exact ⟨o, es', n', st b o ho', hd'⟩)) (fun fl s' hl => ?_) fun _ _ y => y
  have nL₀ : h₀.get? L = none := kts_self F
  obtain ⟨g', L', m', news', T', F', N', k⟩ := hl
  obtain ⟨sl, hs⟩ := T'.up hLg
  obtain ⟨T₁, S₁⟩ := kts_turn_at (h := s'.heap) (fs := outer.filterMap (·.frame)) (g := h₀)
    (fun b hb => by
      obtain ⟨_, o, ho', _⟩ := B.frames.mem hb
      exact ⟨o, ho'⟩)
    (fun b o e nmem => F'.keep b o (T'.other b o (st b o e) (fun q => by
      rcases mem_fr hf q with z | z
      · rw [z, nL₀] at e
        cases e
      · exact nmem z)))
    (fun b o e hm => by
      obtain ⟨sl', hs'⟩ := T'.up (st b o e)
      exact ⟨sl', F'.keep _ _ hs'⟩)
  have B₃ : Below A₀ base outer (ktsHeap s'.heap (outer.filterMap (·.frame)) h₀) := ⟨B.stack, fun b o e => T₁.other b o (B.stays b o e) (fun hm => by
    rw [(B.frames.mem hm).1] at e
    cases e), B.frames.of_keeps fun b o e _ => by
    obtain ⟨sl', hs'⟩ := T₁.up e
    exact ⟨_, hs', rfl⟩⟩
  refine k _ ⟨T₁, B₃, XB.keeps B₃.stays, TB.keeps B₃.stays, D.turn T₁⟩ ⟨⟨_, es, ep, F'.keep _ _ hs, hLd, hLk, hLf⟩, S₁, by rw [T₁.size]; exact F.above⟩ (fun p hp => ⟨(N' p hp).1, fun q => ?_, ?_⟩)
  · have := (N' p hp).2.2; rw [q, hs] at this; cases this
  · refine T₁.none_ _ ?_
    cases q : h₀.get? p.1 with
    | none => rfl
    | some o =>
      obtain ⟨sl', hs'⟩ := T'.up (st _ _ q)
      have := (N' p hp).2.2
      rw [hs'] at this
      cases this
end
/-- a while's turn in which three names change and the ground may turn -/
noncomputable def WhS (GP : Heap → Prop) (L : Addr) (m : Str → Option Value) (a b c : Str) (s : Shared) (P : Nat → Option Value → Option Value → Option Value → List (Addr × Obj) → Prop) (n : Nat) (Q : Flow → Shared → Prop) (f : Flow) (s' : Shared) : Prop :=
  match f with
  | .brk => Q .next s'
  | .ret v => Q (.ret v) s'
  | _ => ∃ g' h' tk A B C news₂ n', s' = { s with heap := h', toks := tk } ∧ GP g' ∧ Fr g' L h' (fun y => if y = a then A else if y = b then B else if y = c then C else m y) ∧ News g' L h' news₂ ∧ n' < n ∧ P n' A B C news₂
theorem WhS.go {GP : Heap → Prop} {g' h' : Heap} {L : Addr} {m m' : Str → Option Value} {a b c : Str} {s : Shared} {P : Nat → Option Value → Option Value → Option Value → List (Addr × Obj) → Prop} {n n' tk : Nat} {Q : Flow → Shared → Prop} {A B C : Option Value} {news₂ : List (Addr × Obj)} {f : Flow} (hf : f = .next ∨ f = .cont)
    (hg : GP g') (F : Fr g' L h' m') (N : News g' L h' news₂) (hm : m' = fun y => if y = a then A else if y = b then B else if y = c then C else m y) (hn : n' < n) (hP : P n' A B C news₂) : WhS GP L m a b c s P n Q f { s with heap := h', toks := tk } := by
  subst hm
  rcases hf with rfl | rfl <;> exact ⟨g', h', tk, A, B, C, news₂, n', rfl, hg, F, N, hn, hP⟩
section
variable {prog : Program} {w : World} {A : Around} {E : Value → Shared → Prop} {Q : Flow → Shared → Prop} {s : Shared} {env : Env} {g₀ : Heap} {L : Addr}
theorem While_S {test : Expr} {body : List Stmt} {pos : Pos} {m : Str → Option Value} {news : List (Addr × Obj)} (GP : Heap → Prop) (a b c : Str) (P : Nat → Option Value → Option Value → Option Value → List (Addr × Obj) → Prop) (n₀ : Nat)
    (hg : GP g₀) (F : Fr g₀ L s.heap m) (N : News g₀ L s.heap news) (h0 : P n₀ (m a) (m b) (m c) news)
    (turn : ∀ g n A₁ B₁ C₁ news₁ h₁ tk₁, GP g → P n A₁ B₁ C₁ news₁ → Fr g L h₁ (fun y => if y = a then A₁ else if y = b then B₁ else if y = c then C₁ else m y) → News g L h₁ news₁ →
      wpAny (model prog w) A (isTrue test env (eval test env)) (fun b' s₂ =>
        if b' = true then wpAny (model prog w) A (execs body env) (WhS GP L m a b c s P n Q) E s₂ else Q .next s₂) E { s with heap := h₁, toks := tk₁ })
    (hE : PassesOwn (model prog w) A env E := by passes_own) :
    wpAny (model prog w) A (exec (.While test body [] pos) env) Q E s := by
  refine wpAny_While (codeAny_whileLoop (fun n s' => ∃ g h₁ tk₁ A₁ B₁ C₁ news₁, s' = { s with heap := h₁, toks := tk₁ } ∧ GP g ∧ Fr g L h₁ (fun y => if y = a then A₁ else if y = b then B₁ else if y = c then C₁ else m y) ∧ News g L h₁ news₁ ∧ P n A₁ B₁ C₁ news₁) ?_ n₀ ⟨g₀, s.heap, s.toks, _, _, _, news, rfl, hg, ?_, N, h0⟩)
  · rintro n s' ⟨g, h₁, tk₁, A₁, B₁, C₁, news₁, rfl, G₁, F₁, N₁, P₁⟩
    refine wpAny_mono (turn g n A₁ B₁ C₁ news₁ h₁ tk₁ G₁ P₁ F₁ N₁) (fun b' s₂ h₂ => ?_) hE
    cases b' with
    | false =>
      simp only [Bool.false_eq_true, if_false] at h₂ ⊢
      exact wpAny_execs_nil h₂
    | true =>
      simp only [if_true] at h₂ ⊢
      refine wpAny_mono h₂ (fun f s₃ h₃ => ?_) hE
      cases f with
      | brk => exact h₃
      | ret v => exact h₃
      | next =>
        obtain ⟨g', h', tk, A', B', C', news₂, n', rfl, G₂, F₂, N₂, hn, P₂⟩ := h₃
        exact ⟨n', hn, g', h', tk, A', B', C', news₂, rfl, G₂, F₂, N₂, P₂⟩
      | cont =>
        obtain ⟨g', h', tk, A', B', C', news₂, n', rfl, G₂, F₂, N₂, hn, P₂⟩ := h₃
        exact ⟨n', hn, g', h', tk, A', B', C', news₂, rfl, G₂, F₂, N₂, P₂⟩
  · exact (bind_start3 (m := m) (a := a) (b := b) (c := c)) ▸ F
end
end
-- T3
section
theorem reg_none_T3 : True := by
  w_top off
  k_with_none
  trivial
section
variable {prog : Program} {w : World} {A A₀ : Around} {E : Value → Shared → Prop} {s : Shared} {K : Frag} {L : Addr} {h₀ base : Heap} {m mg mb : Str → Option Value} {news : List (Addr × Obj)} {p : Program} {loose : List Str} {mean : ExcName → Option Value}
theorem enterMSC {env : Env} {outer : List Env} {R : Result → Shared → Prop} {name qual : Str} {params : Arguments} {body : List Stmt} {scope : Scope} {dV kV doc pm cdv ct oc : Value} {an od : Option Addr} {osl : Array (Option Value)} {f : Addr} {args : Args} {binds : List (Str × Value)}
    (B : Below A₀ base outer h₀) (F : Fr h₀ L s.heap m) (X₀ : K.In h₀) (N : News h₀ L s.heap news) (T : Top p loose mean mg mb h₀) (XB : K.In base) (TB : Top p loose mean mg mb base) (D : KtsDicts (outer.filterMap (·.frame)) h₀) (hA : A.frames = some (env :: outer)) (hf : env.frame = some L) (hke : env.scope.kind = .function)
    (ho : K.lookup f = some ⟨oc, od, .func (fnOf name qual params body scope dV kV doc pm an cdv ct), osl⟩) (hcd : codeIn K cdv qual = true) (hroom : A.depth < recursionLimit)
    (hbind : BindsTo s (fnOf name qual params body scope dV kV doc pm an cdv ct) args binds) (hkind : (binds.all fun y => scope.names.lookup y.1 == some .local || scope.names.lookup y.1 == some .cell) = true)
    (hnd : ((cellsFrom 0 scope.names []).map (·.1)).Nodup)
    (h : ∀ g L' h₁ tk cells, (∀ b o, b ∉ news.map (·.1) → s.heap.get? b = some o → g.get? b = some o) → Fr h₀ L g m → Fr g L' h₁ (bindL (envOfC qual scope L' f cdv).kindOf binds fun _ => none) → News g L' h₁ (cells ++ news) →
      CellsAre (bindC (envOfC qual scope L' f cdv).kindOf binds fun _ => none) (cellsFrom (L' + 1) scope.names []) cells → Below A base (env :: outer) g → K.In g → Top p loose mean mg mb g → KtsDicts ((env :: outer).filterMap (·.frame)) g → (∀ p ∈ news, p.1 < L') →
      wpAny (model prog w) (A.deeper (envOfC qual scope L' f cdv)) (execs body (envOfC qual scope L' f cdv))
        (fun fl s' => LeaveM A₀ base outer K p loose mean mg mb ((env :: outer).filterMap (·.frame)) h₀ L m g R (match fl with | .ret v => v | _ => .none) s')
        (fun e s' => wpAny (model prog w) (A.deeper (envOfC qual scope L' f cdv)) (leaving (envOfC qual scope L' f cdv) e) (fun _ s'' => R (.error e) s'') (fun e' s'' => R (.error e') s'') s')
        { s with heap := h₁, toks := tk })
    (hco : scope.isCoroutine = false) (hgen : scope.isGenerator = false) (hk : scope.kind = .function) : codeAny (model prog w) A (.call (.ref f) args) R s := by
  have X := X₀.keeps F.keep
  obtain ⟨FG, B₂, st, _⟩ := groundX (R := R) B F N hA hf hke
  obtain ⟨oL, es, ep, hLg, hLd, hLk, hLf⟩ := FG.ns
  refine codeAny_call_function (fd := fnOf name qual params body scope dV kV doc pm an cdv ct) (body := body) hroom (X _ _ ho) rfl hco hgen rfl (codeRec_of X hcd) (hbind _ _ _ _ ?_)
  refine wpAny_newFunctionEnv_cells hk (kindsX hkind _) fun env' he s' x => ?_
  subst he
  refine ⟨(T.nolimit.keeps F.keep).keeps x.toInCall.keep, codeAny_func ?_⟩
  obtain ⟨h₁, tk, rfl, _⟩ := x.done
  have hk₁ := x.toInCall.keep
  obtain ⟨cells, NC, Y⟩ := Cl.news (h₀ := s.heap) (Nat.le_refl _) fun n c hm => ⟨x.cell n c (lookup_of_mem_nodup (cellsFrom_names scope.names 0 (s.heap.objs.size + 1) [] [] rfl ▸ hnd) hm), x.above n c hm⟩
  refine wpAny_mono (h _ s.heap.objs.size h₁ tk cells (fun b o hb e => hideAll_get _ e hb) FG ⟨x.toInCall.ns, fun b o e => hk₁ b o (of_hideAll _ e), Nat.le_of_eq (hideAll_size _ _)⟩ (fun p hp => ?_) Y B₂ (X₀.keeps st) (T.keeps st) (fun b hb => by
      rcases mem_fr hf hb with rfl | hb
      · exact ⟨oL, es, ep, hLg, hLd⟩
      · obtain ⟨o, es', n', ho', hd'⟩ := D b hb
        exact ⟨o, es', n', st b o ho', hd'⟩) (fun p hp => Heap.lt_size (N p hp).1)) (fun fl s' hl => ?_) fun _ _ y => y
  · rcases List.mem_append.mp hp with hp | hp
    · refine ⟨(NC p hp).1, (NC p hp).2.1, ?_⟩
      cases q : (hideAll s.heap (news.map (·.1))).get? p.1 with
      | none => rfl
      | some o => have := of_hideAll _ q; rw [(NC p hp).2.2] at this; cases this
    · exact ⟨hk₁ _ _ (N p hp).1, Nat.ne_of_lt (Heap.lt_size (N p hp).1), hideAll_none _ (List.mem_map_of_mem hp)⟩
  have nL₀ : h₀.get? L = none := kts_self F
  obtain ⟨g', L', m', news', T', F', N', k⟩ := hl
  obtain ⟨sl, hs⟩ := T'.up hLg
  obtain ⟨T₁, S₁⟩ := kts_turn_at (h := s'.heap) (fs := outer.filterMap (·.frame)) (g := h₀)
    (fun b hb => by
      obtain ⟨_, o, ho', _⟩ := B.frames.mem hb
      exact ⟨o, ho'⟩)
    (fun b o e nmem => F'.keep b o (T'.other b o (st b o e) (fun q => by
      rcases mem_fr hf q with z | z
      · rw [z, nL₀] at e
        cases e
      · exact nmem z)))
    (fun b o e hm => by
      obtain ⟨sl', hs'⟩ := T'.up (st b o e)
      exact ⟨sl', F'.keep _ _ hs'⟩)
  have B₃ : Below A₀ base outer (ktsHeap s'.heap (outer.filterMap (·.frame)) h₀) := ⟨B.stack, fun b o e => T₁.other b o (B.stays b o e) (fun hm => by
    rw [(B.frames.mem hm).1] at e
    cases e), B.frames.of_keeps fun b o e _ => by
    obtain ⟨sl', hs'⟩ := T₁.up e
    exact ⟨_, hs', rfl⟩⟩
  refine k _ ⟨T₁, B₃, XB.keeps B₃.stays, TB.keeps B₃.stays, D.turn T₁⟩ ⟨⟨_, es, ep, F'.keep _ _ hs, hLd, hLk, hLf⟩, S₁, by rw [T₁.size]; exact F.above⟩ (fun p hp => ⟨(N' p hp).1, fun q => ?_, ?_⟩)
  · have := (N' p hp).2.2; rw [q, hs] at this; cases this
  · refine T₁.none_ _ ?_
    cases q : h₀.get? p.1 with
    | none => rfl
    | some o =>
      obtain ⟨sl', hs'⟩ := T'.up (st _ _ q)
      have := (N' p hp).2.2
      rw [hs'] at this
      cases this
end
/-- a while's turn; the ground, names and the ledger may turn -/
noncomputable def WhG (GP : Heap → Prop) (L : Addr) (s : Shared) (P : Nat → (Str → Option Value) → List (Addr × Obj) → Prop) (n : Nat) (Q : Flow → Shared → Prop) (f : Flow) (s' : Shared) : Prop :=
  match f with
  | .brk => Q .next s'
  | .ret v => Q (.ret v) s'
  | _ => ∃ g' h' tk m₂ news₂ n', s' = { s with heap := h', toks := tk } ∧ GP g' ∧ Fr g' L h' m₂ ∧ News g' L h' news₂ ∧ n' < n ∧ P n' m₂ news₂
theorem WhG.go {GP : Heap → Prop} {g' h' : Heap} {L : Addr} {m' : Str → Option Value} {s : Shared} {P : Nat → (Str → Option Value) → List (Addr × Obj) → Prop} {n n' tk : Nat} {Q : Flow → Shared → Prop} {news₂ : List (Addr × Obj)} {f : Flow} (hf : f = .next ∨ f = .cont)
    (hg : GP g') (F : Fr g' L h' m') (N : News g' L h' news₂) (hn : n' < n) (hP : P n' m' news₂) : WhG GP L s P n Q f { s with heap := h', toks := tk } := by
  rcases hf with rfl | rfl <;> exact ⟨g', h', tk, m', news₂, n', rfl, hg, F, N, hn, hP⟩
section
variable {prog : Program} {w : World} {A : Around} {E : Value → Shared → Prop} {Q : Flow → Shared → Prop} {s : Shared} {env : Env} {g₀ : Heap} {L : Addr}
theorem While_G {test : Expr} {body : List Stmt} {pos : Pos} {m : Str → Option Value} {news : List (Addr × Obj)} (GP : Heap → Prop) (P : Nat → (Str → Option Value) → List (Addr × Obj) → Prop) (n₀ : Nat)
    (hg : GP g₀) (F : Fr g₀ L s.heap m) (N : News g₀ L s.heap news) (h0 : P n₀ m news)
    (turn : ∀ g n m₁ news₁ h₁ tk₁, GP g → P n m₁ news₁ → Fr g L h₁ m₁ → News g L h₁ news₁ →
      wpAny (model prog w) A (isTrue test env (eval test env)) (fun b' s₂ =>
        if b' = true then wpAny (model prog w) A (execs body env) (WhG GP L s P n Q) E s₂ else Q .next s₂) E { s with heap := h₁, toks := tk₁ })
    (hE : PassesOwn (model prog w) A env E := by passes_own) :
    wpAny (model prog w) A (exec (.While test body [] pos) env) Q E s := by
  refine wpAny_While (codeAny_whileLoop (fun n s' => ∃ g h₁ tk₁ m₁ news₁, s' = { s with heap := h₁, toks := tk₁ } ∧ GP g ∧ Fr g L h₁ m₁ ∧ News g L h₁ news₁ ∧ P n m₁ news₁) ?_ n₀ ⟨g₀, s.heap, s.toks, m, news, rfl, hg, F, N, h0⟩)
  rintro n s' ⟨g, h₁, tk₁, m₁, news₁, rfl, G₁, F₁, N₁, P₁⟩
  refine wpAny_mono (turn g n m₁ news₁ h₁ tk₁ G₁ P₁ F₁ N₁) (fun b' s₂ h₂ => ?_) hE
  cases b' with
  | false =>
    simp only [Bool.false_eq_true, if_false] at h₂ ⊢
    exact wpAny_execs_nil h₂
  | true =>
    simp only [if_true] at h₂ ⊢
    refine wpAny_mono h₂ (fun f s₃ h₃ => ?_) hE
    cases f with
    | brk => exact h₃
    | ret v => exact h₃
    | next =>
      obtain ⟨g', h', tk, m₂, news₂, n', rfl, G₂, F₂, N₂, hn, P₂⟩ := h₃
      exact ⟨n', hn, g', h', tk, m₂, news₂, rfl, G₂, F₂, N₂, P₂⟩
    | cont =>
      obtain ⟨g', h', tk, m₂, news₂, n', rfl, G₂, F₂, N₂, hn, P₂⟩ := h₃
      exact ⟨n', hn, g', h', tk, m₂, news₂, rfl, G₂, F₂, N₂, P₂⟩
end
end
-- UD
section
theorem reg_none_UD : True := by
  w_top off
  k_with_none
  trivial
theorem reg_hdr_UD_1 : True := by
  k_with_none
  k_with "mine enter" => (refine wpAny_call ?_; k_dflt (refine' enterM ?k1 ?k2 ?k3 ?k4 ?k5 ?kA ?kF ?kK ?k6 ?k7 ?k8 ?k9 ?kB ?_ ?c2 ?c3 ?c4 ?c5; (case kA => exact rfl); (case kF => exact rfl); (case kK => exact rfl); (case k1 => k_asm); (case k2 => k_asm); (case k3 => k_asm); (case k4 => first | k_asm | exact News.nil); (case k5 => k_asm); (case k6 => k_is); (case k7 => k_is); (case k8 => ktr_room); (case k9 => exact BindsTo.of_eq rfl); (case c5 => decide); (case kB => exact locs rfl); (case c2 => exact rfl); (case c3 => exact rfl); (case c4 => exact rfl); k_whole); intro g' L' h' G' FG' F' N' B' X' T'; (try dsimp only); (try k_fold))
  k_with "mine back" => (intro h' tk' K'; (have F' := keep_fr (by k_asm) K'); (have N' := keep_news (by k_asm) K'); clear K'; (try dsimp only); (try k_sweep))
  k_with "mine args" => ((case k1 => k_asm); (case k2 => k_asm); (case k3 => k_asm); (case k4 => k_asm); (case kd => ktr_room); (case ku => ktr_units))
  k_with "mine enterC" => (refine wpAny_call ?_; k_dflt (refine' enterMC ?k1 ?k2 ?k3 ?k4 ?k5 ?kA ?kF ?kK ?k6 ?k7 ?k8 ?k9 ?kB ?kD ?_ ?c2 ?c3 ?c4; (case kA => exact rfl); (case kF => exact rfl); (case kK => exact rfl); (case k1 => k_asm); (case k2 => k_asm); (case k3 => k_asm); (case k4 => first | k_asm | exact News.nil); (case k5 => k_asm); (case k6 => k_is); (case k7 => k_is); (case k8 => ktr_room); (case k9 => exact BindsTo.of_eq rfl); (case kB => exact rfl); (case kD => decide +kernel); (case c2 => exact rfl); (case c3 => exact rfl); (case c4 => exact rfl); k_whole); intro g' L' h' tk' cells' G' FG' F' N' Y' B' X' T' l1; (try k_lt l1); k_cells Y'; (try simp only [List.cons_append, List.nil_append] at N'); (try dsimp only); (try k_fold))
  k_with "mine steps" => repeat' (first | (k_unfold; (try dsimp only)) | walk1 | (dsimp only; walk1) | (leave1; (try dsimp only)))
  trivial
theorem reg_hdr_UD_2 : True := by
  k_with "k_ne" => (refine neN ?_; (try dsimp only); first | with_reducible assumption | exact Ne.symm (by with_reducible assumption))
  k_with "FinE" => ((unfold LCg.FinE); intro D' h' tk' F' N' o1'; (try dsimp only [LCg.Off1] at o1'); (repeat (have h9' := o1'.1; replace o1' := o1'.2)); (try clear o1'); (try simp only [List.nil_append, List.cons_append] at N'); (try dsimp only))
  k_with "FinA" => ((unfold LCg.FinA); intro D' h' tk' F' N' o1'; (try dsimp only [LCg.Off1] at o1'); (repeat (have h9' := o1'.1; replace o1' := o1'.2)); (try clear o1'); (try simp only [List.nil_append, List.cons_append] at N'); (try dsimp only))
  k_with "CompRest" => (with_unfolding_all first | (refine LCg.CompRest.succ ?_; intro v' I' oI' C' oC' D' m' h' tk' E' hv' hC' hx' F' N' off' ne'; (first | lcg_open hv' | (obtain ⟨t9', hv9'⟩ := hv'; subst hv9')); (try dsimp only [LCg.Off3] at off'); (have h9' := ne'.1; have h9' := ne'.2.1; have h9' := ne'.2.2; clear ne'); (repeat (have h9' := off'.1.1; have h9' := off'.1.2.1; have h9' := off'.1.2.2; replace off' := off'.2)); (try clear off')) | refine LCg.CompRest.zero ?_)
  trivial

theorem reg_ud : True := by
  k_with "truthy ref" => (k_here; k_dflt (refine' truthy_n ?zt1 ?zt2 ?zt3 ?_; (case zt1 => k_asm); (case zt2 => k_mem); (case zt3 => assumption)); intro tkt; rw [hemp])
  k_with "call builtin:list.pop" => (k_here; k_dflt (refine' pop_led ?zp1 ?zp2 ?zp3 ?zp4 ?_; (case zp1 => k_asm); (case zp2 => k_asm); (case zp3 => k_upd); (case zp4 => exact hfit1)); intro h' F' N'; (try k_sweep))
  trivial
theorem LeaveM.go {A₀ : Around} {base : Heap} {outer : List Env} {K : Frag} {p : Program} {loose : List Str} {mean : ExcName → Option Value} {mg mb : Str → Option Value} {fs : List Addr} {h₀ g g' : Heap} {L L' : Addr} {m m' : Str → Option Value} {news' : List (Addr × Obj)} {R : Result → Shared → Prop} {v : Value} {s' : Shared}
    (F : Fr g' L' s'.heap m') (N : News g' L' s'.heap news') (T : KtsTurn fs g g') (k : ∀ h₀', Gd A₀ base outer K p loose mean mg mb h₀ h₀' → Fr h₀' L s'.heap m → News h₀' L s'.heap news' → R (.ok (.ret v)) s') : LeaveM A₀ base outer K p loose mean mg mb fs h₀ L m g R v s' := ⟨g', L', m', news', T, F, N, k⟩
theorem tup_list {h : Heap} {a b : Addr} {x y : Array Value} {i j : Nat} (ha : h.get? a = some { cls := .type "tuple", data := .seq x i }) (hb : h.get? b = some (listOf y j)) (e : a = b) : False := by
  rw [e, hb] at ha
  have := congrArg Obj.cls (Option.some.inj ha)
  simp [W.listOf] at this
theorem reg_ud2 : True := by
  k_with "call builtin:list.remove" => (k_here; k_dflt (refine' rem_both rfl ?zr1 ?zr2 ?zr3 ?zr4 ?zr5 ?zr6 ?_ ?_; (case zr1 => k_asm); (case zr2 => k_asm); (case zr3 => exact hM2); (case zr4 => exact hne); (case zr5 => exact hy1); (case zr6 => exact hfit2)); first | (intro hin h' ys' F' hs' N'; (try k_sweep)) | skip)
  trivial
/-- unorderable_list_difference: what is missing, what is left over; the expected taken from behind -/
noncomputable def uld : List Str → List Str → List Str → List Str × List Str
  | [], M, Y => (M, Y)
  | x :: r, M, Y => if x ∈ Y then uld r M (Y.erase x) else uld r (M ++ [x]) Y
noncomputable def UdP (D1 D2 M : Addr) (tgt : List Str × List Str) (nn : Nat) (_a _b _c : Option Value) (news : List (Addr × Obj)) : Prop :=
  ∃ xs ys zs X Y Z n1 n2 n3, news = [(M, listOf zs.toArray n3), (D1, listOf xs.toArray n1), (D2, listOf ys.toArray n2)] ∧ StrsOf xs X ∧ StrsOf ys Y ∧ StrsOf zs Z ∧ X.length + Y.length + Z.length ≤ 1000 ∧ uld X.reverse Z Y = tgt ∧ nn = X.length
theorem UdP.mk {D1 D2 M : Addr} {tgt : List Str × List Str} {a b c : Option Value} {xs ys zs : List Value} {X Y Z : List Str} {n1 n2 n3 : Nat} (h1 : StrsOf xs X) (h2 : StrsOf ys Y) (h3 : StrsOf zs Z) (h4 : X.length + Y.length + Z.length ≤ 1000) (h5 : uld X.reverse Z Y = tgt) :
    UdP D1 D2 M tgt X.length a b c [(M, listOf zs.toArray n3), (D1, listOf xs.toArray n1), (D2, listOf ys.toArray n2)] := ⟨xs, ys, zs, X, Y, Z, n1, n2, n3, rfl, h1, h2, h3, h4, h5, rfl⟩
@[elab_as_elim] theorem UdP.elim {D1 D2 M : Addr} {tgt : List Str × List Str} {nn : Nat} {a b c : Option Value} {news : List (Addr × Obj)} {K : Nat → List (Addr × Obj) → Prop} (h : UdP D1 D2 M tgt nn a b c news)
    (go : ∀ (xs ys zs : List Value) (X Y Z : List Str) (n1 n2 n3 : Nat), StrsOf xs X → StrsOf ys Y → StrsOf zs Z → X.length + Y.length + Z.length ≤ 1000 → uld X.reverse Z Y = tgt → K X.length [(M, listOf zs.toArray n3), (D1, listOf xs.toArray n1), (D2, listOf ys.toArray n2)]) : K nn news := by
  obtain ⟨xs, ys, zs, X, Y, Z, n1, n2, n3, rfl, h1, h2, h3, h4, h5, rfl⟩ := h
  exact go xs ys zs X Y Z n1 n2 n3 h1 h2 h3 h4 h5
section
variable {w : World} {mean : ExcName → Option Value} {mg mb : Str → Option Value}
 {dp un : Nat} {gd : Option (List Code)} {cn : Str} {sn : List (Str × NameKind)} {sg sc : Bool} {sm : List (Str × Const)} {a : Addr} {ccd : Value} {cl : List (Str × Addr)} {outer : List Env} {A₀ : Around} {base h₀ : Heap} {L : Addr} {m : Str → Option Value} {s : Shared}
    {Q E : Value → Shared → Prop} (B : Below A₀ base outer h₀) (F : Fr h₀ L s.heap m) (X : (Mine.hd.heap_39 w.params).In h₀) (T : Top Mine.hd.view_39 (looseW Mine.hd.view_39 []) mean mg mb h₀)
include B F X T

theorem uld_c (XB : (Mine.hd.heap_39 w.params).In base) (TB : Top Mine.hd.view_39 (looseW Mine.hd.view_39 []) mean mg mb base) (D : KtsDicts (outer.filterMap (·.frame)) h₀) {xs ys : List Value} {U V M V' : List Str} {n1 n2 : Nat} {D1 D2 : Addr} (hD1 : s.heap.get? D1 = some (listOf xs.toArray n1)) (hD2 : s.heap.get? D2 = some (listOf ys.toArray n2)) (hh1 : h₀.get? D1 = none) (hL1 : D1 ≠ L) (hh2 : h₀.get? D2 = none) (hL2 : D2 ≠ L) (hne : @Ne Nat D1 D2) (hx : StrsOf xs U) (hy : StrsOf ys V) (hlen : U.length + V.length ≤ 1000)
    (htgt : uld U.reverse [] V = (M, V'))
    (hd : dp + 5 < recursionLimit) (hu : un + 80 < cLine) (hret : ∀ ms ys' a b n1' n2' n3 n4 h' tk' h₀', Gd A₀ base outer (Mine.hd.heap_39 w.params) Mine.hd.view_39 (looseW Mine.hd.view_39 []) mean mg mb h₀ h₀' → (∀ b o, b ∉ [D1, D2] → b ≠ L → b ∉ outer.filterMap (·.frame) → s.heap.get? b = some o → h'.get? b = some o) → Fr h₀' L h' m →
      News h₀' L h' [(b, { cls := .type "tuple", data := .seq #[.ref a, .ref D2] n4 }), (a, listOf ms.toArray n3), (D1, listOf ([] : List Value).toArray n1'), (D2, listOf ys'.toArray n2')] → StrsOf ms M → StrsOf ys' V' → s.heap.get? a = none → s.heap.get? b = none → Q (.ref b) {s with heap := h', toks := tk'}) :
    wpAny (model Challenge.rw_pd0139_01.row.prog w) (ktrTop dp un gd cn ⟨.function, sn, sg, sc, sm⟩ L a ccd cl outer) (call (.ref 162) [.ref D1, .ref D2]) Q E s := by
  have N : News h₀ L s.heap [(D1, listOf xs.toArray n1), (D2, listOf ys.toArray n2)] := fun p hp => by
    rcases List.mem_cons.mp hp with rfl | hp
    · exact ⟨hD1, hL1, hh1⟩
    · rw [List.mem_singleton.mp hp]; exact ⟨hD2, hL2, hh2⟩
  revert X; k_fill; intro X
  (refine wpAny_call ?_); k_dflt (refine' enterMS (binds := [(Str.ofString "expected", .ref D1), (Str.ofString "actual", .ref D2)]) ?k1 ?k2 ?k3 ?k4 ?k5 XB TB D ?kA ?kF ?kK ?k6 ?k7 ?k8 ?k9 ?kB ?_ ?c2 ?c3 ?c4 ?c5; (case kA => exact rfl); (case kF => exact rfl); (case kK => exact rfl); (case k1 => k_asm); (case k2 => k_asm); (case k3 => exact X); (case k4 => k_asm); (case k5 => exact T); (case k6 => k_is); (case k7 => k_is); (case k8 => ktr_room); (case k9 => exact BindsTo.of_eq rfl); (case c5 => decide); (case kB => exact locs rfl); (case c2 => exact rfl); (case c3 => exact rfl); (case c4 => exact rfl); k_whole)
  intro g' L' h' G' FG' F' N' B' X' T' D'
  (try dsimp only); (try k_fold)
  simp only [List.reverse_cons, List.reverse_nil, List.nil_append, List.cons_append, lookup_ite, List.lookup_nil] at F'
  iterate 7 (first | (k_unfold; (try dsimp only)) | walk1 | (dsimp only; walk1))
  iterate 2 (first | (k_unfold; (try dsimp only)) | walk1 | (dsimp only; walk1))
  try (k_unfold; (try dsimp only))
  rename _ ∧ _ => l3
  have hM1 := Nat.ne_of_gt l3.1
  have hM2 := Nat.ne_of_gt l3.2
  k_dflt (refine While_S (fun g => Gd (ktrTop dp un gd cn ⟨.function, sn, sg, sc, sm⟩ L a ccd cl outer) base (envX cn ⟨.function, sn, sg, sc, sm⟩ L a ccd cl :: outer) (Mine.hd.heap_39 w.params) Mine.hd.view_39 (looseW Mine.hd.view_39 []) mean mg mb g' g) (Str.ofString "item") (Str.ofString "item") (Str.ofString "item") (UdP D1 D2 _ (M, V')) U.length ⟨KtsTurn.refl, B', X', T', D'⟩ (by k_asm) (by k_asm) (UdP.mk (n3 := 0) hx hy (⟨[], rfl, rfl⟩ : StrsOf [] []) hlen htgt) ?_)
  clear B' X' T' D'
  rintro g₁ nn a₁ b₁ c₁ news₁ h₁ tk₁ ⟨T0, B', X', T', D'⟩ hP F'
  revert F'
  refine UdP.elim hP ?_
  clear hP news₁ nn
  intro xs1 ys1 zs1 X1 Y1 Z1 n3 n4 n5 hx1 hy1 hz1 hl1 ht1 F' N'
  try k_sweep
  rcases List.eq_nil_or_concat xs1 with rfl | ⟨ws, y, rfl⟩
  · have hemp : (!([] : List Value).isEmpty) = false := rfl
    have hfit : ([] : List Value).length ≤ 1000 := Nat.zero_le _
    walk_at "mine steps"
    obtain ⟨l, e1, rfl⟩ := hx1
    obtain rfl : l = [] := List.map_eq_nil_iff.mp e1.symm
    obtain ⟨rfl, rfl⟩ : Z1 = M ∧ Y1 = V' := Prod.mk.inj ht1
    try (k_unfold; (try dsimp only))
    have Fe := (by k_asm : Fr g₁ L' _ _)
    have Ne := (by k_asm : News g₁ L' _ _)
    have gone : ∀ b, b ∉ [D1, D2] → g₁.get? b = none → s.heap.get? b = none := fun b hb hn => by
      cases q : s.heap.get? b with
      | none => rfl
      | some o =>
        obtain ⟨sl, e⟩ := T0.up (G' b o hb q)
        rw [hn] at e; cases e
    refine LeaveM.go Fe Ne T0 fun h₀' hg Fc Nc => ?_
    refine hret zs1 ys1 _ _ n3 n4 n5 0 _ _ h₀' hg (fun b o hb hbL hbo q => Fe.keep _ _ (T0.other _ _ (G' b o hb q) fun hm => ?_)) Fc Nc hz1 hy1 (gone _ ?_ (Ne _ (.tail _ (.head _))).2.2) (gone _ ?_ (Ne _ (.head _)).2.2)
    · exact (mem_fr rfl hm).elim hbL hbo
    · intro hb
      rcases List.mem_cons.mp hb with e | hb
      · exact hM1 e
      · exact hM2 (List.mem_singleton.mp hb)
    · intro hb
      rcases List.mem_cons.mp hb with e | hb
      · exact tup_list (Ne _ (.head _)).1 (Ne _ (.tail _ (.tail _ (.head _)))).1 e
      · exact tup_list (Ne _ (.head _)).1 (Ne _ (.tail _ (.tail _ (.tail _ (.head _))))).1 (List.mem_singleton.mp hb)
  · rw [List.concat_eq_append] at hx1 N'
    obtain ⟨X2, x, tx, rfl, rfl, hx2⟩ := strs_snoc hx1
    have hemp : (!(ws ++ [Value.str x tx]).isEmpty) = true := by simp
    have hfit1 : ws.length ≤ 1000 := by rw [hx2.length]; simp only [List.length_append] at hl1; omega
    have hfit : (ws ++ [Value.str x tx]).length ≤ 1000 := by rw [hx1.length]; omega
    have hfit2 : Y1.length ≤ 1000 := by omega
    rw [List.reverse_append] at ht1
    have hn : X2.length < (X2 ++ [x]).length := by simp
    walk_at "mine steps"
    · have ht2 : uld X2.reverse Z1 (Y1.erase x) = (M, V') := by simpa [uld, ‹x ∈ Y1›] using ht1
      have Fe := (by k_asm : Fr g₁ L' _ _)
      have Ne := (by k_asm : News g₁ L' _ _)
      refine WhS.go (Or.inl rfl) ⟨T0, B', X', T', D'⟩ Fe Ne bind_i hn (UdP.mk hx2 ‹StrsOf _ (Y1.erase x)› hz1 ?_ ht2)
      have := List.length_erase_le (a := x) (l := Y1)
      simp only [List.length_append, List.length_cons] at hl1
      omega
    · have ht2 : uld X2.reverse (Z1 ++ [x]) Y1 = (M, V') := by simpa [uld, ‹¬ x ∈ Y1›] using ht1
      k_dflt (refine' note_newS ?K ?hx ?F ?N ?_ rfl; (case K => exact B'); (case hx => assumption); (case F => k_asm); (case N => k_asm))
      intro h' R' FG' U'
      k_dflt (refine' hit_SN0 R' FG' B' U' XB TB D' T0 ?T ?_; (case T => kts_test); k_whole)
      clear T0 B' X' T' D'
      intro h' g₂ T0 F' N' B' X' T' D'
      try k_sweep
      have hfit3 : zs1.length ≤ 1000 := by rw [hz1.length]; omega
      walk_at "mine steps"
      have Fe := (by k_asm : Fr g₂ L' _ _)
      have Ne := (by k_asm : News g₂ L' _ _)
      rw [List.push_toArray] at Ne
      refine WhS.go (Or.inl rfl) ⟨T0, B', X', T', D'⟩ Fe Ne bind_i hn (UdP.mk hx2 hy1 hz1.snoc ?_ ht2)
      simp only [List.length_append, List.length_cons, List.length_nil] at hl1 ⊢
      omega
end
end
-- HP
section
theorem reg_none_HP : True := by
  w_top off
  k_with_none
  trivial
theorem reg_hdr_HP_1 : True := by
  k_with_none
  k_with "mine enter" => (refine wpAny_call ?_; k_dflt (refine' enterM ?k1 ?k2 ?k3 ?k4 ?k5 ?kA ?kF ?kK ?k6 ?k7 ?k8 ?k9 ?kB ?_ ?c2 ?c3 ?c4 ?c5; (case kA => exact rfl); (case kF => exact rfl); (case kK => exact rfl); (case k1 => k_asm); (case k2 => k_asm); (case k3 => k_asm); (case k4 => first | k_asm | exact News.nil); (case k5 => k_asm); (case k6 => k_is); (case k7 => k_is); (case k8 => ktr_room); (case k9 => exact BindsTo.of_eq rfl); (case c5 => decide); (case kB => exact locs rfl); (case c2 => exact rfl); (case c3 => exact rfl); (case c4 => exact rfl); k_whole); intro g' L' h' G' FG' F' N' B' X' T'; (try dsimp only); (try k_fold))
  k_with "mine back" => (intro h' tk' K'; (have F' := keep_fr (by k_asm) K'); (have N' := keep_news (by k_asm) K'); clear K'; (try dsimp only); (try k_sweep))
  k_with "mine args" => ((case k1 => k_asm); (case k2 => k_asm); (case k3 => k_asm); (case k4 => k_asm); (case kd => ktr_room); (case ku => ktr_units))
  k_with "mine enterC" => (refine wpAny_call ?_; k_dflt (refine' enterMC ?k1 ?k2 ?k3 ?k4 ?k5 ?kA ?kF ?kK ?k6 ?k7 ?k8 ?k9 ?kB ?kD ?_ ?c2 ?c3 ?c4; (case kA => exact rfl); (case kF => exact rfl); (case kK => exact rfl); (case k1 => k_asm); (case k2 => k_asm); (case k3 => k_asm); (case k4 => first | k_asm | exact News.nil); (case k5 => k_asm); (case k6 => k_is); (case k7 => k_is); (case k8 => ktr_room); (case k9 => exact BindsTo.of_eq rfl); (case kB => exact rfl); (case kD => decide +kernel); (case c2 => exact rfl); (case c3 => exact rfl); (case c4 => exact rfl); k_whole); intro g' L' h' tk' cells' G' FG' F' N' Y' B' X' T' l1; (try k_lt l1); k_cells Y'; (try simp only [List.cons_append, List.nil_append] at N'); (try dsimp only); (try k_fold))
  k_with "mine steps" => repeat' (first | (k_unfold; (try dsimp only)) | walk1 | (dsimp only; walk1) | (leave1; (try dsimp only)))
  trivial
theorem reg_hdr_HP_2 : True := by
  k_with "k_ne" => (refine neN ?_; (try dsimp only); first | with_reducible assumption | exact Ne.symm (by with_reducible assumption))
  k_with "FinE" => ((unfold LCg.FinE); intro D' h' tk' F' N' o1'; (try dsimp only [LCg.Off1] at o1'); (repeat (have h9' := o1'.1; replace o1' := o1'.2)); (try clear o1'); (try simp only [List.nil_append, List.cons_append] at N'); (try dsimp only))
  k_with "FinA" => ((unfold LCg.FinA); intro D' h' tk' F' N' o1'; (try dsimp only [LCg.Off1] at o1'); (repeat (have h9' := o1'.1; replace o1' := o1'.2)); (try clear o1'); (try simp only [List.nil_append, List.cons_append] at N'); (try dsimp only))
  k_with "CompRest" => (with_unfolding_all first | (refine LCg.CompRest.succ ?_; intro v' I' oI' C' oC' D' m' h' tk' E' hv' hC' hx' F' N' off' ne'; (first | lcg_open hv' | (obtain ⟨t9', hv9'⟩ := hv'; subst hv9')); (try dsimp only [LCg.Off3] at off'); (have h9' := ne'.1; have h9' := ne'.2.1; have h9' := ne'.2.2; clear ne'); (repeat (have h9' := off'.1.1; have h9' := off'.1.2.1; have h9' := off'.1.2.2; replace off' := off'.2)); (try clear off')) | refine LCg.CompRest.zero ?_)
  trivial

theorem letA {M : Model} {A : Around} {α : Type} {t : Sem α} {Q : α → Shared → Prop} {E : Value → Shared → Prop} {s : Shared} (h : let A' := A; wpAny M A' t Q E s) : wpAny M A t Q E s := h
theorem reg_hp : True := by
  k_with "subscriptTail Name Name ref int" => (k_here; k_dflt (refine' lget_n ?zg1 ?zg2 ?zg3 ?_ ?zg4; (case zg1 => k_asm); (case zg2 => assumption); (case zg3 => assumption); (case zg4 => with_unfolding_all rfl)))
  k_with "binaryOp RShift int int" => (k_here; k_dflt (refine' rsh_half ?zr1 ?_; (case zr1 => assumption)); intro tq tkq)
  k_with "compareOp Lt" => (k_here; k_dflt (refine' lt_in ?zl0 ?zl1 ?zl2 ?zl3 ?_; (case zl0 => k_asm); (case zl1 => first | exact hnew | exact hall _ (getD_mem (by assumption))); (case zl2 => exact hall _ (getD_mem (by assumption))); (case zl3 => exact hu9)))
  k_with "setItem ref int" => (k_here; k_dflt (refine' lset_n ?zs1 ?zs2 ?zs3 ?zs4 ?_; (case zs1 => k_asm); (case zs2 => k_asm); (case zs3 => assumption); (case zs4 => assumption)); intro h' F' N'; (try k_sweep))
  trivial
section
variable {w : World} {mean : ExcName → Option Value} {mg mb : Str → Option Value}
 {dp un : Nat} {gd : Option (List Code)} {cn : Str} {sn : List (Str × NameKind)} {sg sc : Bool} {sm : List (Str × Const)} {a : Addr} {ccd : Value} {cl : List (Str × Addr)} {outer : List Env} {A₀ : Around} {base h₀ : Heap} {L : Addr} {m : Str → Option Value} {s : Shared}
    {Q E : Value → Shared → Prop} (B : Below A₀ base outer h₀) (F : Fr h₀ L s.heap m) (X : (Mine.hd.heap_39 w.params).In h₀) (T : Top Mine.hd.view_39 (looseW Mine.hd.view_39 []) mean mg mb h₀)
include B F X T

theorem siftdown_c {key : Value → Int × Str} {vs : List Value} {n k : Nat} {D : Addr} {t0 tk : Tok} {new : Value} (hD : s.heap.get? D = some (listOf vs.toArray n)) (hh : h₀.get? D = none) (hL : D ≠ L) (hall0 : ∀ v ∈ vs, PairAt s.heap v (key v)) (hk : k < vs.length) (hlen : vs.length ≤ 1000) (hnew0 : vs.getD k .none = new)
    (hd : dp + 2 < recursionLimit) (hu : un + 20 < cLine) (hret : ∀ h' tk', But [D] s.heap h' → h'.get? D = some (listOf (sdn key new k vs k).toArray n) → Q .none {s with heap := h', toks := tk'}) :
    wpAny (model Challenge.rw_pd0139_01.row.prog w) (ktrTop dp un gd cn ⟨.function, sn, sg, sc, sm⟩ L a ccd cl outer) (call (.ref 42) [.ref D, .int 0 t0, .int k tk]) Q E s := by
  have N : News h₀ L s.heap [(D, listOf vs.toArray n)] := fun p hp => by rw [List.mem_singleton.mp hp]; exact ⟨hD, hL, hh⟩
  revert X; k_fill; intro X
  (refine wpAny_call ?_); k_dflt (refine' enterM (binds := [(Str.ofString "heap", .ref D), (Str.ofString "startpos", .int 0 t0), (Str.ofString "pos", .int k tk)]) ?k1 ?k2 ?k3 ?k4 ?k5 ?kA ?kF ?kK ?k6 ?k7 ?k8 ?k9 ?kB ?_ ?c2 ?c3 ?c4 ?c5; (case kA => exact rfl); (case kF => exact rfl); (case kK => exact rfl); (case k1 => k_asm); (case k2 => k_asm); (case k3 => k_asm); (case k4 => first | k_asm | exact News.nil); (case k5 => k_asm); (case k6 => k_is); (case k7 => k_is); (case k8 => ktr_room); (case k9 => exact BindsTo.of_eq rfl); (case c5 => decide); (case kB => exact locs rfl); (case c2 => exact rfl); (case c3 => exact rfl); (case c4 => exact rfl); k_whole)
  intro g' L' h' G' FG' F' N' B' X' T'
  (try dsimp only); (try k_fold)
  have hu9 : ((ktrTop dp un gd cn ⟨.function, sn, sg, sc, sm⟩ L a ccd cl outer).deeper (envOf (Str.ofString "_siftdown") default L' 42 (.ref 41))).units < cLine := by ktr_units
  refine letA ?_; intro A9
  have hall := pairs_to G' hall0 hD rfl
  have hnew : PairAt g' new (key new) := hnew0 ▸ hall _ (getD_mem hk)
  simp only [List.reverse_cons, List.reverse_nil, List.nil_append, List.cons_append, lookup_ite, List.lookup_nil] at F'
  iterate 8 (first | (k_unfold; (try dsimp only)) | walk1 | (dsimp only; walk1))
  try (k_unfold; (try dsimp only))
  rename Fr g' L' _ _ => Fz
  rw [hnew0] at Fz
  k_dflt (refine While_3 (Str.ofString "pos") (Str.ofString "parent") (Str.ofString "parentpos") (SdP g' D n vs.length key new (sdn key new k vs k)) k (by k_asm) (by k_asm) ⟨k, vs, tk, rfl, rfl, Nat.le_refl _, hk, rfl, hall, rfl⟩ ?_)
  rintro nn a₁ b₁ c₁ news₁ h₁ tk₁ ⟨fu, vs1, tp, rfl, rfl, hpf, hpl, hvl, hall, htg⟩ F' N'
  try k_sweep
  have hpl1 := hvl ▸ hpl
  have hq1 := half_lt hpl1
  have hlen1 := hvl ▸ hlen
  iterate 6 (first | (k_unfold; (try dsimp only)) | walk1 | (dsimp only; walk1))
  · have hnn : 0 < nn := Int.ofNat_lt.mp (by assumption)
    walk_at "mine steps"
    · rename Fr g' L' _ _ => Fx
      rename News g' L' _ _ => Nx
      exact Wh3.go (Or.inr rfl) Fx Nx bind_p3 (half_lt' hnn) (SdP.next hnn hpf hpl hvl hall htg (by assumption))
    · unfold Wh3
      dsimp only
      walk_at "mine steps"
      rw [sdn_stop (by assumption)] at htg
      exact hret _ _ (but_of G' (by assumption)) (htg ▸ News.get (by assumption) (.head _))
  · obtain rfl : nn = 0 := Nat.eq_zero_of_not_pos fun h => absurd (Int.ofNat_lt.mpr h) (by assumption)
    walk_at "mine steps"
    rw [sdn_zero] at htg
    exact hret _ _ (but_of G' (by assumption)) (htg ▸ News.get (by assumption) (.head _))
end
end
-- HQ
section
theorem reg_none_HQ : True := by
  w_top off
  k_with_none
  trivial
theorem reg_hdr_HQ_1 : True := by
  k_with_none
  k_with "mine enter" => (refine wpAny_call ?_; k_dflt (refine' enterM ?k1 ?k2 ?k3 ?k4 ?k5 ?kA ?kF ?kK ?k6 ?k7 ?k8 ?k9 ?kB ?_ ?c2 ?c3 ?c4 ?c5; (case kA => exact rfl); (case kF => exact rfl); (case kK => exact rfl); (case k1 => k_asm); (case k2 => k_asm); (case k3 => k_asm); (case k4 => first | k_asm | exact News.nil); (case k5 => k_asm); (case k6 => k_is); (case k7 => k_is); (case k8 => ktr_room); (case k9 => exact BindsTo.of_eq rfl); (case c5 => decide); (case kB => exact locs rfl); (case c2 => exact rfl); (case c3 => exact rfl); (case c4 => exact rfl); k_whole); intro g' L' h' G' FG' F' N' B' X' T'; (try dsimp only); (try k_fold))
  k_with "mine back" => (intro h' tk' K'; (have F' := keep_fr (by k_asm) K'); (have N' := keep_news (by k_asm) K'); clear K'; (try dsimp only); (try k_sweep))
  k_with "mine args" => ((case k1 => k_asm); (case k2 => k_asm); (case k3 => k_asm); (case k4 => k_asm); (case kd => ktr_room); (case ku => ktr_units))
  k_with "mine enterC" => (refine wpAny_call ?_; k_dflt (refine' enterMC ?k1 ?k2 ?k3 ?k4 ?k5 ?kA ?kF ?kK ?k6 ?k7 ?k8 ?k9 ?kB ?kD ?_ ?c2 ?c3 ?c4; (case kA => exact rfl); (case kF => exact rfl); (case kK => exact rfl); (case k1 => k_asm); (case k2 => k_asm); (case k3 => k_asm); (case k4 => first | k_asm | exact News.nil); (case k5 => k_asm); (case k6 => k_is); (case k7 => k_is); (case k8 => ktr_room); (case k9 => exact BindsTo.of_eq rfl); (case kB => exact rfl); (case kD => decide +kernel); (case c2 => exact rfl); (case c3 => exact rfl); (case c4 => exact rfl); k_whole); intro g' L' h' tk' cells' G' FG' F' N' Y' B' X' T' l1; (try k_lt l1); k_cells Y'; (try simp only [List.cons_append, List.nil_append] at N'); (try dsimp only); (try k_fold))
  k_with "mine steps" => repeat' (first | (k_unfold; (try dsimp only)) | walk1 | (dsimp only; walk1) | (leave1; (try dsimp only)))
  trivial
theorem reg_hdr_HQ_2 : True := by
  k_with "k_ne" => (refine neN ?_; (try dsimp only); first | with_reducible assumption | exact Ne.symm (by with_reducible assumption))
  k_with "FinE" => ((unfold LCg.FinE); intro D' h' tk' F' N' o1'; (try dsimp only [LCg.Off1] at o1'); (repeat (have h9' := o1'.1; replace o1' := o1'.2)); (try clear o1'); (try simp only [List.nil_append, List.cons_append] at N'); (try dsimp only))
  k_with "FinA" => ((unfold LCg.FinA); intro D' h' tk' F' N' o1'; (try dsimp only [LCg.Off1] at o1'); (repeat (have h9' := o1'.1; replace o1' := o1'.2)); (try clear o1'); (try simp only [List.nil_append, List.cons_append] at N'); (try dsimp only))
  k_with "CompRest" => (with_unfolding_all first | (refine LCg.CompRest.succ ?_; intro v' I' oI' C' oC' D' m' h' tk' E' hv' hC' hx' F' N' off' ne'; (first | lcg_open hv' | (obtain ⟨t9', hv9'⟩ := hv'; subst hv9')); (try dsimp only [LCg.Off3] at off'); (have h9' := ne'.1; have h9' := ne'.2.1; have h9' := ne'.2.2; clear ne'); (repeat (have h9' := off'.1.1; have h9' := off'.1.2.1; have h9' := off'.1.2.2; replace off' := off'.2)); (try clear off')) | refine LCg.CompRest.zero ?_)
  trivial

theorem reg_hq : True := by
  k_with "subscriptTail Name Name ref int" => (k_here; k_dflt (refine' lget_e ?zg0 ?zg1 ?zg2 ?zg3 ?_ ?zg4; (case zg0 => assumption); (case zg1 => k_asm); (case zg2 => first | assumption | omega); (case zg3 => assumption); (case zg4 => with_unfolding_all rfl)))
  k_with "call builtin:len" => (k_here; k_dflt (refine' len_n ?zn1 ?zn2 ?_; (case zn1 => k_asm); (case zn2 => assumption)); intro tl tkl)
  k_with "compareOp Lt" => (k_here; k_dflt (refine' lt_in ?zl0 ?zl1 ?zl2 ?zl3 ?_; (case zl0 => k_asm); (case zl1 => exact hall _ (getD_mem (by first | assumption | omega))); (case zl2 => exact hall _ (getD_mem (by first | assumption | omega))); (case zl3 => exact hu9)))
  k_with "exec If" => k_dflt (refine su_join (Str.ofString "childpos") key p (by k_asm) (by k_asm) (wpAny_If ?_) (fun h' tk' ci' tc' F' N' hci' => ?_))
  k_with "SuJ" => first | exact su_right (by k_asm) (by k_asm) (by rw [kid_2 (by omega) (by assumption)]; exact hri) | exact su_same (by k_asm) (by k_asm) (by decide +kernel) (if_pos rfl) (by rw [kid_1 (by assumption)]; exact hci) | exact su_same (by k_asm) (by k_asm) (by decide +kernel) (if_pos rfl) (by rw [kid_0 (by omega)]; exact hci)
  k_with "call ref" => (k_here; k_dflt (refine' siftdown_c ?k1 ?k2 ?k3 ?k4 ?zc1 ?zc2 ?zc3 ?zc4 ?zc5 ?zc6 ?zc7 ?kd ?ku ?_; (case k1 => k_asm); (case k2 => k_asm); (case k3 => k_asm); (case k4 => k_asm); (case zc1 => exact News.get (by k_asm) (.head _)); (case zc2 => exact News.fresh (by k_asm) (.head _)); (case zc3 => exact led_ne (by k_asm)); (case zc4 => exact fun v hv => (hall2 v hv).keep (Fr.keep (by k_asm))); (case zc5 => exact hpl2); (case zc6 => exact hlen2); (case zc7 => exact hnew2); (case kd => ktr_room); (case ku => ktr_units)); intro h' tk' K' D'; (have F' : Fr g' L' _ _ := fr_but K' (by k_asm) (by k_asm)); (have N' : News g' L' _ _ := led_but (by k_asm) D'); clear K' D'; (try k_sweep))
  k_with "setItem ref int" => (k_here; k_dflt (refine' lset_e ?zs0 ?zs1 ?zs2 ?zs3 ?zs4 ?_; (case zs0 => assumption); (case zs1 => k_asm); (case zs2 => k_asm); (case zs3 => assumption); (case zs4 => assumption)); intro h' F' N'; (try k_sweep))
  trivial
section
variable {w : World} {mean : ExcName → Option Value} {mg mb : Str → Option Value}
 {dp un : Nat} {gd : Option (List Code)} {cn : Str} {sn : List (Str × NameKind)} {sg sc : Bool} {sm : List (Str × Const)} {a : Addr} {ccd : Value} {cl : List (Str × Addr)} {outer : List Env} {A₀ : Around} {base h₀ : Heap} {L : Addr} {m : Str → Option Value} {s : Shared}
    {Q E : Value → Shared → Prop} (B : Below A₀ base outer h₀) (F : Fr h₀ L s.heap m) (X : (Mine.hd.heap_39 w.params).In h₀) (T : Top Mine.hd.view_39 (looseW Mine.hd.view_39 []) mean mg mb h₀)
include B F X T

theorem siftup_c {key : Value → Int × Str} {vs : List Value} {n : Nat} {D : Addr} {t0 : Tok} {new : Value} {vs' : List Value} {k : Nat} (hD : s.heap.get? D = some (listOf vs.toArray n)) (hh : h₀.get? D = none) (hL : D ≠ L) (hall0 : ∀ v ∈ vs, PairAt s.heap v (key v)) (hk : 0 < vs.length) (hlen : vs.length ≤ 1000) (hnew0 : vs.getD 0 .none = new)
    (htgt : sup key vs.length vs 0 = (vs', k))
    (hd : dp + 3 < recursionLimit) (hu : un + 40 < cLine) (hret : ∀ h' tk', But [D] s.heap h' → h'.get? D = some (listOf (sdn key new k (vs'.set k new) k).toArray n) → Q .none {s with heap := h', toks := tk'}) :
    wpAny (model Challenge.rw_pd0139_01.row.prog w) (ktrTop dp un gd cn ⟨.function, sn, sg, sc, sm⟩ L a ccd cl outer) (call (.ref 49) [.ref D, .int 0 t0]) Q E s := by
  have N : News h₀ L s.heap [(D, listOf vs.toArray n)] := fun p hp => by rw [List.mem_singleton.mp hp]; exact ⟨hD, hL, hh⟩
  revert X; k_fill; intro X
  (refine wpAny_call ?_); k_dflt (refine' enterM (binds := [(Str.ofString "heap", .ref D), (Str.ofString "pos", .int 0 t0)]) ?k1 ?k2 ?k3 ?k4 ?k5 ?kA ?kF ?kK ?k6 ?k7 ?k8 ?k9 ?kB ?_ ?c2 ?c3 ?c4 ?c5; (case kA => exact rfl); (case kF => exact rfl); (case kK => exact rfl); (case k1 => k_asm); (case k2 => k_asm); (case k3 => k_asm); (case k4 => first | k_asm | exact News.nil); (case k5 => k_asm); (case k6 => k_is); (case k7 => k_is); (case k8 => ktr_room); (case k9 => exact BindsTo.of_eq rfl); (case c5 => decide); (case kB => exact locs rfl); (case c2 => exact rfl); (case c3 => exact rfl); (case c4 => exact rfl); k_whole)
  intro g' L' h' G' FG' F' N' B' X' T'
  (try dsimp only); (try k_fold)
  have hu9 : ((ktrTop dp un gd cn ⟨.function, sn, sg, sc, sm⟩ L a ccd cl outer).deeper (envOf (Str.ofString "_siftup") default L' 49 (.ref 48))).units < cLine := by ktr_units
  have hall := pairs_to G' hall0 hD rfl
  simp only [List.reverse_cons, List.reverse_nil, List.nil_append, List.cons_append, lookup_ite, List.lookup_nil] at F'
  have hnew : PairAt g' new (key new) := hnew0 ▸ hall _ (getD_mem hk)
  have hz0 : (0 : Int) = ((0 : Nat) : Int) := rfl
  iterate 33 (first | (k_unfold; (try dsimp only)) | walk1 | (dsimp only; walk1))
  try (k_unfold; (try dsimp only))
  rename Fr g' L' _ _ => Fz
  rw [hnew0] at Fz
  k_dflt (refine While_3 (Str.ofString "childpos") (Str.ofString "pos") (Str.ofString "rightpos") (SuP g' D n vs.length key (vs', k)) vs.length (by k_asm) (by k_asm) ⟨0, vs.length, vs, _, _, _, _, rfl, rfl, rfl, rfl, rfl, hk, by omega, rfl, hall, htgt, rfl⟩ ?_)
  intro nn a₁ b₁ c₁ news₁ h₁ tk₁ hP
  refine SuP.elim hP ?_
  clear hP news₁ a₁ b₁
  intro p fu vs1 ci pi tc tp hci hpi hpl hpf hvl hall htg hnn F' N'
  try k_sweep
  have hlen1 := hvl ▸ hlen
  have hpl1 := hvl ▸ hpl
  have hri : ci + 1 = ((2 * p + 2 : Nat) : Int) := by omega
  iterate 6 (first | (k_unfold; (try dsimp only)) | walk1 | (dsimp only; walk1))
  · have h1 : 2 * p + 1 < vs1.length := by omega
    have hkl := kid_lt (key := key) h1
    walk_at "mine steps"
    rename Fr g' L' _ _ => Fx
    rename News g' L' _ _ => Nx
    subst hnn
    exact Wh3.go (Or.inl rfl) Fx Nx bind_p4 (Nat.sub_lt_sub_left (hvl ▸ Nat.lt_trans (Nat.lt_of_le_of_lt (Nat.le_mul_of_pos_left p (Nat.zero_lt_succ 1)) (Nat.lt_succ_self _)) h1) kid_gt) (SuP.next hpl hpf hvl hall htg h1 rfl (by assumption))
  · rw [sup_stop (by omega)] at htg
    obtain ⟨rfl, rfl⟩ := Prod.mk.inj htg
    subst hpi
    have hpl2 : p < (vs1.set p new).length := (List.length_set ..).symm ▸ hpl1
    have hlen2 : (vs1.set p new).length ≤ 1000 := (List.length_set ..).symm ▸ hlen1
    have hall2 := set_all hall hnew (i := p)
    have hnew2 := set_getD (new := new) hpl1
    have hpp : (p : Int) = ((p : Nat) : Int) := rfl
    walk_at "mine steps"
    exact hret _ _ (but_of G' (by assumption)) (News.get (by assumption) (.head _))
end
end
-- HR
section
theorem reg_none_HR : True := by
  w_top off
  k_with_none
  trivial
theorem reg_hdr_HR_1 : True := by
  k_with_none
  k_with "mine enter" => (refine wpAny_call ?_; k_dflt (refine' enterM ?k1 ?k2 ?k3 ?k4 ?k5 ?kA ?kF ?kK ?k6 ?k7 ?k8 ?k9 ?kB ?_ ?c2 ?c3 ?c4 ?c5; (case kA => exact rfl); (case kF => exact rfl); (case kK => exact rfl); (case k1 => k_asm); (case k2 => k_asm); (case k3 => k_asm); (case k4 => first | k_asm | exact News.nil); (case k5 => k_asm); (case k6 => k_is); (case k7 => k_is); (case k8 => ktr_room); (case k9 => exact BindsTo.of_eq rfl); (case c5 => decide); (case kB => exact locs rfl); (case c2 => exact rfl); (case c3 => exact rfl); (case c4 => exact rfl); k_whole); intro g' L' h' G' FG' F' N' B' X' T'; (try dsimp only); (try k_fold))
  k_with "mine back" => (intro h' tk' K'; (have F' := keep_fr (by k_asm) K'); (have N' := keep_news (by k_asm) K'); clear K'; (try dsimp only); (try k_sweep))
  k_with "mine args" => ((case k1 => k_asm); (case k2 => k_asm); (case k3 => k_asm); (case k4 => k_asm); (case kd => ktr_room); (case ku => ktr_units))
  k_with "mine enterC" => (refine wpAny_call ?_; k_dflt (refine' enterMC ?k1 ?k2 ?k3 ?k4 ?k5 ?kA ?kF ?kK ?k6 ?k7 ?k8 ?k9 ?kB ?kD ?_ ?c2 ?c3 ?c4; (case kA => exact rfl); (case kF => exact rfl); (case kK => exact rfl); (case k1 => k_asm); (case k2 => k_asm); (case k3 => k_asm); (case k4 => first | k_asm | exact News.nil); (case k5 => k_asm); (case k6 => k_is); (case k7 => k_is); (case k8 => ktr_room); (case k9 => exact BindsTo.of_eq rfl); (case kB => exact rfl); (case kD => decide +kernel); (case c2 => exact rfl); (case c3 => exact rfl); (case c4 => exact rfl); k_whole); intro g' L' h' tk' cells' G' FG' F' N' Y' B' X' T' l1; (try k_lt l1); k_cells Y'; (try simp only [List.cons_append, List.nil_append] at N'); (try dsimp only); (try k_fold))
  k_with "mine steps" => repeat' (first | (k_unfold; (try dsimp only)) | walk1 | (dsimp only; walk1) | (leave1; (try dsimp only)))
  trivial
theorem reg_hdr_HR_2 : True := by
  k_with "k_ne" => (refine neN ?_; (try dsimp only); first | with_reducible assumption | exact Ne.symm (by with_reducible assumption))
  k_with "FinE" => ((unfold LCg.FinE); intro D' h' tk' F' N' o1'; (try dsimp only [LCg.Off1] at o1'); (repeat (have h9' := o1'.1; replace o1' := o1'.2)); (try clear o1'); (try simp only [List.nil_append, List.cons_append] at N'); (try dsimp only))
  k_with "FinA" => ((unfold LCg.FinA); intro D' h' tk' F' N' o1'; (try dsimp only [LCg.Off1] at o1'); (repeat (have h9' := o1'.1; replace o1' := o1'.2)); (try clear o1'); (try simp only [List.nil_append, List.cons_append] at N'); (try dsimp only))
  k_with "CompRest" => (with_unfolding_all first | (refine LCg.CompRest.succ ?_; intro v' I' oI' C' oC' D' m' h' tk' E' hv' hC' hx' F' N' off' ne'; (first | lcg_open hv' | (obtain ⟨t9', hv9'⟩ := hv'; subst hv9')); (try dsimp only [LCg.Off3] at off'); (have h9' := ne'.1; have h9' := ne'.2.1; have h9' := ne'.2.2; clear ne'); (repeat (have h9' := off'.1.1; have h9' := off'.1.2.1; have h9' := off'.1.2.2; replace off' := off'.2)); (try clear off')) | refine LCg.CompRest.zero ?_)
  trivial

theorem reg_hr : True := by
  k_with "subscriptTail Name Constant ref int" => (k_here; k_dflt (refine' lget_e ?zg0 ?zg1 ?zg2 ?zg3 ?_ ?zg4; (case zg0 => exact hz0); (case zg1 => k_asm); (case zg2 => assumption); (case zg3 => assumption); (case zg4 => with_unfolding_all rfl)))
  k_with "setItem ref int" => (k_here; k_dflt (refine' lset_e ?zs0 ?zs1 ?zs2 ?zs3 ?zs4 ?_; (case zs0 => exact hz0); (case zs1 => k_asm); (case zs2 => k_asm); (case zs3 => assumption); (case zs4 => assumption)); intro h' F' N'; (try k_sweep))
  k_with "call builtin:len" => (k_here; k_dflt (refine' len_n ?zn1 ?zn2 ?_; (case zn1 => k_asm); (case zn2 => assumption)); intro tl tkl)
  trivial
section
variable {w : World} {mean : ExcName → Option Value} {mg mb : Str → Option Value}
 {dp un : Nat} {gd : Option (List Code)} {cn : Str} {sn : List (Str × NameKind)} {sg sc : Bool} {sm : List (Str × Const)} {a : Addr} {ccd : Value} {cl : List (Str × Addr)} {outer : List Env} {A₀ : Around} {base h₀ : Heap} {L : Addr} {m : Str → Option Value} {s : Shared}
    {Q E : Value → Shared → Prop} (B : Below A₀ base outer h₀) (F : Fr h₀ L s.heap m) (X : (Mine.hd.heap_39 w.params).In h₀) (T : Top Mine.hd.view_39 (looseW Mine.hd.view_39 []) mean mg mb h₀)
include B F X T

theorem siftdown_e {key : Value → Int × Str} {vs : List Value} {n k : Nat} {ki : Int} {D : Addr} {t0 tk : Tok} {new : Value} (e : ki = (k : Int)) (hD : s.heap.get? D = some (listOf vs.toArray n)) (hh : h₀.get? D = none) (hL : D ≠ L) (hall0 : ∀ v ∈ vs, PairAt s.heap v (key v)) (hk : k < vs.length) (hlen : vs.length ≤ 1000) (hnew0 : vs.getD k .none = new)
    (hd : dp + 2 < recursionLimit) (hu : un + 20 < cLine) (hret : ∀ h' tk', But [D] s.heap h' → h'.get? D = some (listOf (sdn key new k vs k).toArray n) → Q .none {s with heap := h', toks := tk'}) :
    wpAny (model Challenge.rw_pd0139_01.row.prog w) (ktrTop dp un gd cn ⟨.function, sn, sg, sc, sm⟩ L a ccd cl outer) (call (.ref 42) [.ref D, .int 0 t0, .int ki tk]) Q E s := by
  subst e
  exact siftdown_c B F X T hD hh hL hall0 hk hlen hnew0 hd hu hret
theorem reg_hr2 : True := by
  k_with "call ref" => (k_here; k_dflt (refine' siftdown_e ?k1 ?k2 ?k3 ?k4 ?zc0 ?zc1 ?zc2 ?zc3 ?zc4 ?zc5 ?zc6 ?zc7 ?kd ?ku ?_; (case k1 => k_asm); (case k2 => k_asm); (case k3 => k_asm); (case k4 => k_asm); (case zc0 => exact hki); (case zc1 => exact News.get (by k_asm) (.head _)); (case zc2 => exact News.fresh (by k_asm) (.head _)); (case zc3 => exact led_ne (by k_asm)); (case zc4 => exact fun v hv => (hall2 v hv).keep (Fr.keep (by k_asm))); (case zc5 => exact hpl1); (case zc6 => exact hlen1); (case zc7 => exact hgd); (case kd => ktr_room); (case ku => ktr_units)); intro h' tk' K' D'; (have F' : Fr g' L' _ _ := fr_but K' (by k_asm) (by k_asm)); (have N' : News g' L' _ _ := led_but (by k_asm) D'); clear K' D'; (try k_sweep))
  trivial
theorem heappush_c {key : Value → Int × Str} {vs : List Value} {n : Nat} {D : Addr} {v : Value} (hD : s.heap.get? D = some (listOf vs.toArray n)) (hh : h₀.get? D = none) (hL : D ≠ L) (hall0 : ∀ x ∈ vs, PairAt s.heap x (key x)) (hv0 : PairAt s.heap v (key v)) (hlen : vs.length ≤ 100)
    (hd : dp + 3 < recursionLimit) (hu : un + 40 < cLine) (hret : ∀ n' h' tk', But [D] s.heap h' → h'.get? D = some (listOf (sdn key v vs.length (vs ++ [v]) vs.length).toArray n') → Q .none {s with heap := h', toks := tk'}) :
    wpAny (model Challenge.rw_pd0139_01.row.prog w) (ktrTop dp un gd cn ⟨.function, sn, sg, sc, sm⟩ L a ccd cl outer) (call (.ref 28) [.ref D, v]) Q E s := by
  have N : News h₀ L s.heap [(D, listOf vs.toArray n)] := fun p hp => by rw [List.mem_singleton.mp hp]; exact ⟨hD, hL, hh⟩
  revert X; k_fill; intro X
  (refine wpAny_call ?_); k_dflt (refine' enterM (binds := [(Str.ofString "heap", .ref D), (Str.ofString "item", v)]) ?k1 ?k2 ?k3 ?k4 ?k5 ?kA ?kF ?kK ?k6 ?k7 ?k8 ?k9 ?kB ?_ ?c2 ?c3 ?c4 ?c5; (case kA => exact rfl); (case kF => exact rfl); (case kK => exact rfl); (case k1 => k_asm); (case k2 => k_asm); (case k3 => k_asm); (case k4 => first | k_asm | exact News.nil); (case k5 => k_asm); (case k6 => k_is); (case k7 => k_is); (case k8 => ktr_room); (case k9 => exact BindsTo.of_eq rfl); (case c5 => decide); (case kB => exact locs rfl); (case c2 => exact rfl); (case c3 => exact rfl); (case c4 => exact rfl); k_whole)
  intro g' L' h' G' FG' F' N' B' X' T'
  (try dsimp only); (try k_fold)
  simp only [List.reverse_cons, List.reverse_nil, List.nil_append, List.cons_append, lookup_ite, List.lookup_nil] at F'
  have hlen1 : (vs ++ [v]).length ≤ 1000 := by rw [List.length_append, List.length_singleton]; omega
  have hpl1 : vs.length < (vs ++ [v]).length := by rw [List.length_append, List.length_singleton]; exact Nat.lt_succ_self _
  have hki : (((vs ++ [v]).length : Nat) : Int) - 1 = ((vs.length : Nat) : Int) := by rw [List.length_append, List.length_singleton]; omega
  have hgd : (vs ++ [v]).getD vs.length .none = v := by simp
  have hall2 : ∀ x ∈ vs ++ [v], PairAt g' x (key x) := fun x hx => (List.mem_append.mp hx).elim (pairs_to G' hall0 hD rfl x) fun h => List.mem_singleton.mp h ▸ pairs_to (vs := [v]) G' (fun y hy => List.mem_singleton.mp hy ▸ hv0) hD rfl v (.head _)
  iterate 12 (first | (k_unfold; (try dsimp only)) | walk1 | (dsimp only; walk1))
  rename News g' L' _ _ => Nx
  rw [List.push_toArray] at Nx
  walk_at "mine steps"
  exact hret _ _ _ (but_of G' (by assumption)) (News.get (by assumption) (.head _))
end
end
-- HS
section
theorem reg_none_HS : True := by
  w_top off
  k_with_none
  trivial
theorem reg_hdr_HS_1 : True := by
  k_with_none
  k_with "mine enter" => (refine wpAny_call ?_; k_dflt (refine' enterM ?k1 ?k2 ?k3 ?k4 ?k5 ?kA ?kF ?kK ?k6 ?k7 ?k8 ?k9 ?kB ?_ ?c2 ?c3 ?c4 ?c5; (case kA => exact rfl); (case kF => exact rfl); (case kK => exact rfl); (case k1 => k_asm); (case k2 => k_asm); (case k3 => k_asm); (case k4 => first | k_asm | exact News.nil); (case k5 => k_asm); (case k6 => k_is); (case k7 => k_is); (case k8 => ktr_room); (case k9 => exact BindsTo.of_eq rfl); (case c5 => decide); (case kB => exact locs rfl); (case c2 => exact rfl); (case c3 => exact rfl); (case c4 => exact rfl); k_whole); intro g' L' h' G' FG' F' N' B' X' T'; (try dsimp only); (try k_fold))
  k_with "mine back" => (intro h' tk' K'; (have F' := keep_fr (by k_asm) K'); (have N' := keep_news (by k_asm) K'); clear K'; (try dsimp only); (try k_sweep))
  k_with "mine args" => ((case k1 => k_asm); (case k2 => k_asm); (case k3 => k_asm); (case k4 => k_asm); (case kd => ktr_room); (case ku => ktr_units))
  k_with "mine enterC" => (refine wpAny_call ?_; k_dflt (refine' enterMC ?k1 ?k2 ?k3 ?k4 ?k5 ?kA ?kF ?kK ?k6 ?k7 ?k8 ?k9 ?kB ?kD ?_ ?c2 ?c3 ?c4; (case kA => exact rfl); (case kF => exact rfl); (case kK => exact rfl); (case k1 => k_asm); (case k2 => k_asm); (case k3 => k_asm); (case k4 => first | k_asm | exact News.nil); (case k5 => k_asm); (case k6 => k_is); (case k7 => k_is); (case k8 => ktr_room); (case k9 => exact BindsTo.of_eq rfl); (case kB => exact rfl); (case kD => decide +kernel); (case c2 => exact rfl); (case c3 => exact rfl); (case c4 => exact rfl); k_whole); intro g' L' h' tk' cells' G' FG' F' N' Y' B' X' T' l1; (try k_lt l1); k_cells Y'; (try simp only [List.cons_append, List.nil_append] at N'); (try dsimp only); (try k_fold))
  k_with "mine steps" => repeat' (first | (k_unfold; (try dsimp only)) | walk1 | (dsimp only; walk1) | (leave1; (try dsimp only)))
  trivial
theorem reg_hdr_HS_2 : True := by
  k_with "k_ne" => (refine neN ?_; (try dsimp only); first | with_reducible assumption | exact Ne.symm (by with_reducible assumption))
  k_with "FinE" => ((unfold LCg.FinE); intro D' h' tk' F' N' o1'; (try dsimp only [LCg.Off1] at o1'); (repeat (have h9' := o1'.1; replace o1' := o1'.2)); (try clear o1'); (try simp only [List.nil_append, List.cons_append] at N'); (try dsimp only))
  k_with "FinA" => ((unfold LCg.FinA); intro D' h' tk' F' N' o1'; (try dsimp only [LCg.Off1] at o1'); (repeat (have h9' := o1'.1; replace o1' := o1'.2)); (try clear o1'); (try simp only [List.nil_append, List.cons_append] at N'); (try dsimp only))
  k_with "CompRest" => (with_unfolding_all first | (refine LCg.CompRest.succ ?_; intro v' I' oI' C' oC' D' m' h' tk' E' hv' hC' hx' F' N' off' ne'; (first | lcg_open hv' | (obtain ⟨t9', hv9'⟩ := hv'; subst hv9')); (try dsimp only [LCg.Off3] at off'); (have h9' := ne'.1; have h9' := ne'.2.1; have h9' := ne'.2.2; clear ne'); (repeat (have h9' := off'.1.1; have h9' := off'.1.2.1; have h9' := off'.1.2.2; replace off' := off'.2)); (try clear off')) | refine LCg.CompRest.zero ?_)
  trivial

theorem reg_hs : True := by
  k_with "subscriptTail" => (k_here; k_dflt (refine' lget_e ?zg0 ?zg1 ?zg2 ?zg3 ?_ ?zg4; (case zg0 => exact hz0); (case zg1 => k_asm); (case zg2 => assumption); (case zg3 => assumption); (case zg4 => with_unfolding_all rfl)))
  k_with "subscriptTail Name Constant ref int" => (k_here; k_dflt (refine' lget_e ?zg0 ?zg1 ?zg2 ?zg3 ?_ ?zg4; (case zg0 => exact hz0); (case zg1 => k_asm); (case zg2 => assumption); (case zg3 => assumption); (case zg4 => with_unfolding_all rfl)))
  k_with "setItem ref int" => (k_here; k_dflt (refine' lset_e ?zs0 ?zs1 ?zs2 ?zs3 ?zs4 ?_; (case zs0 => exact hz0); (case zs1 => k_asm); (case zs2 => k_asm); (case zs3 => assumption); (case zs4 => assumption)); intro h' F' N'; (try k_sweep))
  k_with "call builtin:list.pop" => (k_here; k_dflt (refine' pop_n ?zp1 ?zp2 ?zp3 ?_; (case zp1 => k_asm); (case zp2 => k_asm); (case zp3 => assumption)); intro h' F' N'; (try k_sweep))
  k_with "truthy ref" => (k_here; k_dflt (refine' truthy_n ?zt1 ?zt2 ?zt3 ?_; (case zt1 => k_asm); (case zt2 => exact .head _); (case zt3 => assumption)); intro tkt; rw [hemp])
  trivial
section
variable {w : World} {mean : ExcName → Option Value} {mg mb : Str → Option Value}
 {dp un : Nat} {gd : Option (List Code)} {cn : Str} {sn : List (Str × NameKind)} {sg sc : Bool} {sm : List (Str × Const)} {a : Addr} {ccd : Value} {cl : List (Str × Addr)} {outer : List Env} {A₀ : Around} {base h₀ : Heap} {L : Addr} {m : Str → Option Value} {s : Shared}
    {Q E : Value → Shared → Prop} (B : Below A₀ base outer h₀) (F : Fr h₀ L s.heap m) (X : (Mine.hd.heap_39 w.params).In h₀) (T : Top Mine.hd.view_39 (looseW Mine.hd.view_39 []) mean mg mb h₀)
include B F X T

theorem heappop_c {key : Value → Int × Str} {ws vs' : List Value} {k n : Nat} {D : Addr} {y : Value} (hD : s.heap.get? D = some (listOf (ws ++ [y]).toArray n)) (hh : h₀.get? D = none) (hL : D ≠ L) (hall0 : ∀ x ∈ ws, PairAt s.heap x (key x)) (hv0 : PairAt s.heap y (key y)) (hlen : ws.length ≤ 1000) (hemp : (!ws.isEmpty) = true)
    (htgt : sup key (ws.set 0 y).length (ws.set 0 y) 0 = (vs', k))
    (hd : dp + 5 < recursionLimit) (hu : un + 80 < cLine) (hret : ∀ n' h' tk', But [D] s.heap h' → h'.get? D = some (listOf (sdn key y k (vs'.set k y) k).toArray n') → Q (ws.getD 0 .none) {s with heap := h', toks := tk'}) :
    wpAny (model Challenge.rw_pd0139_01.row.prog w) (ktrTop dp un gd cn ⟨.function, sn, sg, sc, sm⟩ L a ccd cl outer) (call (.ref 35) [.ref D]) Q E s := by
  have N : News h₀ L s.heap [(D, listOf (ws ++ [y]).toArray n)] := fun p hp => by rw [List.mem_singleton.mp hp]; exact ⟨hD, hL, hh⟩
  revert X; k_fill; intro X
  (refine wpAny_call ?_); k_dflt (refine' enterM (binds := [(Str.ofString "heap", .ref D)]) ?k1 ?k2 ?k3 ?k4 ?k5 ?kA ?kF ?kK ?k6 ?k7 ?k8 ?k9 ?kB ?_ ?c2 ?c3 ?c4 ?c5; (case kA => exact rfl); (case kF => exact rfl); (case kK => exact rfl); (case k1 => k_asm); (case k2 => k_asm); (case k3 => k_asm); (case k4 => first | k_asm | exact News.nil); (case k5 => k_asm); (case k6 => k_is); (case k7 => k_is); (case k8 => ktr_room); (case k9 => exact BindsTo.of_eq rfl); (case c5 => decide); (case kB => exact locs rfl); (case c2 => exact rfl); (case c3 => exact rfl); (case c4 => exact rfl); k_whole)
  intro g' L' h' G' FG' F' N' B' X' T'
  (try dsimp only); (try k_fold)
  simp only [List.reverse_cons, List.reverse_nil, List.nil_append, List.cons_append, lookup_ite, List.lookup_nil] at F'
  have hz0 : (0 : Int) = ((0 : Nat) : Int) := rfl
  have hpos : 0 < ws.length := List.length_pos_iff.mpr (by simpa using hemp)
  have hpos2 : 0 < (ws.set 0 y).length := (List.length_set ..).symm ▸ hpos
  have hlen2 : (ws.set 0 y).length ≤ 1000 := (List.length_set ..).symm ▸ hlen
  have hgd := set_getD (new := y) hpos
  have hall2 : ∀ x ∈ ws.set 0 y, PairAt g' x (key x) := set_all (pairs_to G' hall0 hD rfl) (pairs_to (vs := [y]) G' (fun y' hy => List.mem_singleton.mp hy ▸ hv0) hD rfl y (.head _))
  k_with "call ref" => (k_here; k_dflt (refine' siftup_c ?k1 ?k2 ?k3 ?k4 ?zc1 ?zc2 ?zc3 ?zc4 ?zc5 ?zc6 ?zc7 ?zc8 ?kd ?ku ?_; (case k1 => k_asm); (case k2 => k_asm); (case k3 => k_asm); (case k4 => k_asm); (case zc1 => exact News.get (by k_asm) (.head _)); (case zc2 => exact News.fresh (by k_asm) (.head _)); (case zc3 => exact led_ne (by k_asm)); (case zc4 => exact fun v hv => (hall2 v hv).keep (Fr.keep (by k_asm))); (case zc5 => exact hpos2); (case zc6 => exact hlen2); (case zc7 => exact hgd); (case zc8 => exact htgt); (case kd => ktr_room); (case ku => ktr_units)); intro h' tk' K' D'; (have F' : Fr g' L' _ _ := fr_but K' (by k_asm) (by k_asm)); (have N' : News g' L' _ _ := led_but (by k_asm) D'); clear K' D'; (try k_sweep))
  walk_at "mine steps"
  exact hret _ _ _ (but_of G' (by assumption)) (News.get (by assumption) (.head _))
theorem heappop_1 {n : Nat} {D : Addr} {y : Value} (hD : s.heap.get? D = some (listOf ([] ++ [y]).toArray n)) (hh : h₀.get? D = none) (hL : D ≠ L)
    (hd : dp + 5 < recursionLimit) (hu : un + 80 < cLine) (hret : ∀ n' h' tk', But [D] s.heap h' → h'.get? D = some (listOf ([] : List Value).toArray n') → Q y {s with heap := h', toks := tk'}) :
    wpAny (model Challenge.rw_pd0139_01.row.prog w) (ktrTop dp un gd cn ⟨.function, sn, sg, sc, sm⟩ L a ccd cl outer) (call (.ref 35) [.ref D]) Q E s := by
  have N : News h₀ L s.heap [(D, listOf ([] ++ [y]).toArray n)] := fun p hp => by rw [List.mem_singleton.mp hp]; exact ⟨hD, hL, hh⟩
  revert X; k_fill; intro X
  (refine wpAny_call ?_); k_dflt (refine' enterM (binds := [(Str.ofString "heap", .ref D)]) ?k1 ?k2 ?k3 ?k4 ?k5 ?kA ?kF ?kK ?k6 ?k7 ?k8 ?k9 ?kB ?_ ?c2 ?c3 ?c4 ?c5; (case kA => exact rfl); (case kF => exact rfl); (case kK => exact rfl); (case k1 => k_asm); (case k2 => k_asm); (case k3 => k_asm); (case k4 => first | k_asm | exact News.nil); (case k5 => k_asm); (case k6 => k_is); (case k7 => k_is); (case k8 => ktr_room); (case k9 => exact BindsTo.of_eq rfl); (case c5 => decide); (case kB => exact locs rfl); (case c2 => exact rfl); (case c3 => exact rfl); (case c4 => exact rfl); k_whole)
  intro g' L' h' G' FG' F' N' B' X' T'
  (try dsimp only); (try k_fold)
  simp only [List.reverse_cons, List.reverse_nil, List.nil_append, List.cons_append, lookup_ite, List.lookup_nil] at F'
  have hlen : ([] : List Value).length ≤ 1000 := Nat.zero_le _
  have hemp : (!([] : List Value).isEmpty) = false := rfl
  walk_at "mine steps"
  exact hret _ _ _ (but_of G' (by assumption)) (News.get (by assumption) (.head _))
end
end
-- LS
section
theorem reg_none_LS : True := by
  w_top off
  k_with_none
  trivial
theorem reg_hdr_LS_1 : True := by
  k_with_none
  k_with "mine enter" => (refine wpAny_call ?_; k_dflt (refine' enterM ?k1 ?k2 ?k3 ?k4 ?k5 ?kA ?kF ?kK ?k6 ?k7 ?k8 ?k9 ?kB ?_ ?c2 ?c3 ?c4 ?c5; (case kA => exact rfl); (case kF => exact rfl); (case kK => exact rfl); (case k1 => k_asm); (case k2 => k_asm); (case k3 => k_asm); (case k4 => first | k_asm | exact News.nil); (case k5 => k_asm); (case k6 => k_is); (case k7 => k_is); (case k8 => ktr_room); (case k9 => exact BindsTo.of_eq rfl); (case c5 => decide); (case kB => exact locs rfl); (case c2 => exact rfl); (case c3 => exact rfl); (case c4 => exact rfl); k_whole); intro g' L' h' G' FG' F' N' B' X' T'; (try dsimp only); (try k_fold))
  k_with "mine back" => (intro h' tk' K'; (have F' := keep_fr (by k_asm) K'); (have N' := keep_news (by k_asm) K'); clear K'; (try dsimp only); (try k_sweep))
  k_with "mine args" => ((case k1 => k_asm); (case k2 => k_asm); (case k3 => k_asm); (case k4 => k_asm); (case kd => ktr_room); (case ku => ktr_units))
  k_with "mine enterC" => (refine wpAny_call ?_; k_dflt (refine' enterMC ?k1 ?k2 ?k3 ?k4 ?k5 ?kA ?kF ?kK ?k6 ?k7 ?k8 ?k9 ?kB ?kD ?_ ?c2 ?c3 ?c4; (case kA => exact rfl); (case kF => exact rfl); (case kK => exact rfl); (case k1 => k_asm); (case k2 => k_asm); (case k3 => k_asm); (case k4 => first | k_asm | exact News.nil); (case k5 => k_asm); (case k6 => k_is); (case k7 => k_is); (case k8 => ktr_room); (case k9 => exact BindsTo.of_eq rfl); (case kB => exact rfl); (case kD => decide +kernel); (case c2 => exact rfl); (case c3 => exact rfl); (case c4 => exact rfl); k_whole); intro g' L' h' tk' cells' G' FG' F' N' Y' B' X' T' l1; (try k_lt l1); k_cells Y'; (try simp only [List.cons_append, List.nil_append] at N'); (try dsimp only); (try k_fold))
  k_with "mine steps" => repeat' (first | (k_unfold; (try dsimp only)) | walk1 | (dsimp only; walk1) | (leave1; (try dsimp only)))
  trivial
theorem reg_hdr_LS_2 : True := by
  k_with "k_ne" => (refine neN ?_; (try dsimp only); first | with_reducible assumption | exact Ne.symm (by with_reducible assumption))
  k_with "FinE" => ((unfold LCg.FinE); intro D' h' tk' F' N' o1'; (try dsimp only [LCg.Off1] at o1'); (repeat (have h9' := o1'.1; replace o1' := o1'.2)); (try clear o1'); (try simp only [List.nil_append, List.cons_append] at N'); (try dsimp only))
  k_with "FinA" => ((unfold LCg.FinA); intro D' h' tk' F' N' o1'; (try dsimp only [LCg.Off1] at o1'); (repeat (have h9' := o1'.1; replace o1' := o1'.2)); (try clear o1'); (try simp only [List.nil_append, List.cons_append] at N'); (try dsimp only))
  k_with "CompRest" => (with_unfolding_all first | (refine LCg.CompRest.succ ?_; intro v' I' oI' C' oC' D' m' h' tk' E' hv' hC' hx' F' N' off' ne'; (first | lcg_open hv' | (obtain ⟨t9', hv9'⟩ := hv'; subst hv9')); (try dsimp only [LCg.Off3] at off'); (have h9' := ne'.1; have h9' := ne'.2.1; have h9' := ne'.2.2; clear ne'); (repeat (have h9' := off'.1.1; have h9' := off'.1.2.1; have h9' := off'.1.2.2; replace off' := off'.2)); (try clear off')) | refine LCg.CompRest.zero ?_)
  trivial

theorem news_new {h₀ h h' : Heap} {L D : Addr} {m : Str → Option Value} {news : List (Addr × Obj)} {o : Obj} (F : Fr h₀ L h m) (N : News h₀ L h news) (K : ∀ b o, h.get? b = some o → h'.get? b = some o) (hD : h'.get? D = some o) (hn : h.get? D = none) :
    News h₀ L h' ((D, o) :: news) ∧ ∀ p ∈ news, p.1 ≠ D := by
  refine ⟨fun p hp => ?_, fun p hp e => ?_⟩
  · rcases List.mem_cons.mp hp with rfl | hp
    · refine ⟨hD, ?_, ?_⟩
      · rintro rfl
        obtain ⟨oL, _, _, e, _⟩ := F.ns
        rw [hn] at e; cases e
      · cases q : h₀.get? D with
        | none => rfl
        | some o' => have := F.keep _ _ q; rw [hn] at this; cases this
    · exact ⟨K _ _ (N p hp).1, (N p hp).2⟩
  · have := (N p hp).1
    rw [e, hn] at this; cases this
/-- the steps between two nodes -/
noncomputable def stepVal (us : List Int) (i j : Nat) : Int := ((abv us 7 i).length : Int) + ((abv us 7 j).length : Int) - 2 * (((abv us 7 i).filter fun x => (abv us 7 j).any (· == x)).length : Int)
noncomputable def stepRow (us : List Int) (i : Nat) : List Int := (List.range 8).map (stepVal us i)
/-- a list of ints lies in the object -/
noncomputable def IntsObj (ns : List Int) (o : Obj) : Prop := ∃ ws n1, o = W.listOf (ws : List Value).toArray n1 ∧ IntsAre ws ns
noncomputable def IsI (z : Int) (y : Value) : Prop := ∃ t, y = .int z t
theorem two_ints {f : Nat → Int} {is : List Nat} {ys : List Value} (h : Two (fun j y => IsI (f j) y) is ys) : IntsAre ys (is.map f) := by
  induction h with
  | nil => exact .nil
  | cons r _ ih =>
    obtain ⟨t, rfl⟩ := r
    exact .cons _ _ ih
theorem stepI {us : List Int} {i j : Nat} {wi wj ys : List Value} {t : Tok} (hi : IntsAre wi (abv us 7 i)) (hj : IntsAre wj (abv us 7 j)) (hl : ys.length = ((abv us 7 i).filter fun x => (abv us 7 j).any (· == x)).length) : IsI (stepVal us i j) (.int ((wi.length : Int) + (wj.length : Int) - 2 * (ys.length : Int)) t) :=
  ⟨t, by unfold stepVal; rw [hi.length, hj.length, hl]⟩
noncomputable def keepI (ns : List Int) (v : Value) : Bool := match v with | .int x _ => ns.any (· == x) | _ => false
theorem filter_len {ns : List Int} : ∀ {vs : List Value} {ms : List Int}, IntsAre vs ms → (vs.filter (keepI ns)).length = (ms.filter fun x => ns.any (· == x)).length
  | _, _, .nil => rfl
  | _, _, .cons n t h => by
    have ih := filter_len (ns := ns) h
    rw [List.filter_cons, List.filter_cons]
    show (if (ns.any (· == n)) = true then _ else _ : List Value).length = _
    split
    · rw [List.length_cons, List.length_cons, ih]
    · exact ih
theorem abv_len {us : List Int} : ∀ f k, (abv us f k).length ≤ f + 1
  | 0, _ => Nat.le_refl _
  | f + 1, k => by
    rw [abv]
    split
    · rw [List.length_cons]; exact Nat.succ_le_succ (abv_len f _)
    · exact Nat.le_add_left _ _
theorem abv_fit {us : List Int} {f : Nat} {k : Int} {ws : List Value} (h : IntsAre ws (abv us f k)) (hf : f ≤ 7) : ws.length ≤ 1000 := by
  have := abv_len (us := us) f k
  rw [h.length]; omega
section
variable {prog : Program} {w : World} {A : Around} {E : Value → Shared → Prop} {s : Shared} {h₀ : Heap} {L D : Addr} {news : List (Addr × Obj)} {vs : List Value} {n : Nat}
theorem len_led {Q : Value → Shared → Prop} (N : News h₀ L s.heap news) (hm : (D, W.listOf vs.toArray n) ∈ news) (hfit : vs.length ≤ 1000) (h : ∀ t tk, Q (.int (vs.length : Nat) t) { s with toks := tk }) : wpAny (model prog w) A (call (.builtin "len") [.ref D]) Q E s := by
  refine len_list (items := vs.toArray) ⟨_, N.get hm, rfl, _, rfl⟩ (by rw [List.size_toArray]; omega) ?_
  rw [List.size_toArray]
  exact h _ _
theorem in_led {ns : List Int} {k : Int} {t : Tok} {Q : Value → Shared → Prop} (N : News h₀ L s.heap news) (hm : (D, W.listOf vs.toArray n) ∈ news) (hi : IntsAre vs ns) (h : Q (.bool (ns.any (· == k))) s) : wpAny (model prog w) A (compareOp .In (.int k t) (.ref D)) Q E s :=
  in_list_ints ⟨_, N.get hm, rfl, _, rfl⟩ hi h
end
theorem line_at {us : List Int} {rs : List (Addr × Obj)} {ys : List Value} {i : Nat} {v : Value} (hG : Two (fun (i : Nat) (p : Addr × Obj) => IntsObj (abv us 7 i) p.2) (List.range 8) rs) (hys : ys = rs.map fun p => Value.ref p.1) (hi : i < 8) (hv : ys.toArray[i]? = some v) :
    ∃ r ws n1, v = .ref r ∧ (r, W.listOf (ws : List Value).toArray n1) ∈ rs ∧ IntsAre ws (abv us 7 i) := by
  obtain ⟨p, hp, ws, n1, ho, hx⟩ := hG.get (i := i) (a := i) (by simp [hi])
  refine ⟨p.1, ws, n1, ?_, ?_, hx⟩
  · subst hys
    have : (rs.map fun p => Value.ref p.1)[i]? = some v := by simpa using hv
    rw [List.getElem?_map, hp] at this
    exact (Option.some.inj this).symm
  · rw [← ho]; exact List.mem_of_getElem? hp
theorem reg_ls : True := by
  k_with "memx" => (repeat (first | exact hri | exact hrj | refine List.mem_cons_of_mem _ ?_ | refine List.mem_append_right _ ?_))
  k_with "call builtin:len" => (k_here; k_dflt (refine' len_led ?zn1 ?zn2 ?zn3 ?_; (case zn1 => k_asm); (case zn2 => first | exact .head _ | walk_at "memx"); (case zn3 => first | assumption | exact Nat.le_trans (List.length_filter_le _ _) (by assumption))); intro tl tkl)
  k_with "compareOp In" => (k_here; k_dflt (refine' in_led ?zn1 ?zn2 ?zn3 ?_; (case zn1 => k_asm); (case zn2 => walk_at "memx"); (case zn3 => assumption)))
  k_with "Same" => first | exact Same.intro (by k_asm) (by k_asm) | exact Same.intro (by k_asm) (drop_hd (by k_asm))
  k_with "IsI" => exact stepI hwi hwj hly
  k_with "eval ListComp" => (k_here; (with_reducible show wpAny _ _ (eval (Expr.ListComp _ [⟨_, _, [_], _⟩] _ _) _) _ _ _); k_dflt (refine LCt.ListComp_T (F₀ := by k_asm) (by with_unfolding_all rfl) (by decide) (by rfl) (by decide) (by rfl) ?_); walk1; k_dflt (refine LCt.CompSrcT.ledger (by rfl) (by k_asm) (by k_asm) (by walk_at "memx") (by first | assumption) ?_); intro g8; k_dflt (refine' compT_filter (keepI (abv us 7 j)) ?hS ?_ ?_ ?_; (case hS => exact Or.inr ⟨_, by walk_at "memx", rfl, _, rfl⟩)); all_goals (first | (intro v' I' oI' C' oC' D' ys' m' h' tk' E' hv' hkp' hC' hx' F' N' off' ne'; obtain ⟨c', t', hv9⟩ := hwi.all v' (by simpa using hv'); subst hv9; clear off' ne') | (intro v' I' oI' C' oC' D' ys' m' h' tk' E' hv' hC' hx' F' N' off' ne'; obtain ⟨c', t', hv9⟩ := hwi.all v' (by simpa using hv'); subst hv9; clear off' ne') | (intro ys' hys'; (have hfy : ys'.length ≤ 1000 := by rw [hys']; exact Nat.le_trans (List.length_filter_le _ _) hfi); (have hly : ys'.length = ((abv us 7 i).filter fun x => (abv us 7 j).any (· == x)).length := by rw [hys']; exact filter_len hwi); clear hys')))
  k_with "call ref" => (k_here; (with_reducible show wpAny _ _ (call (Value.ref 195) [Value.int _ _, Value.ref _]) _ _ _); k_dflt (refine' above_c ?k1 ?k2 ?k3 ?k4 hki hk7 ?za hi hlen hb ?kd ?ku ?_; (case za => exact IsList.up hl' (by k_asm)); walk_at "mine args"); intro D' ws' n' h' tk' K' hx' hD' hn'; (obtain ⟨N', hne'⟩ := news_new (by k_asm) (by k_asm) K' hD' hn'); (have F' := keep_fr (by k_asm) K'))
  k_with "CompSrc" => (k_here; k_dflt (refine LCg.CompSrc.range (n := 8) (by rfl) (by k_asm) (by k_asm) (by assumption) (by decide) (by decide) (by rw [sizeLine_eq]; decide) ?_); intro g8)
  trivial
section
variable {w : World} {mean : ExcName → Option Value} {mg mb : Str → Option Value}
 {dp un : Nat} {gd : Option (List Code)} {cn : Str} {sn : List (Str × NameKind)} {sg sc : Bool} {sm : List (Str × Const)} {a : Addr} {ccd : Value} {cl : List (Str × Addr)} {outer : List Env} {A₀ : Around} {base h₀ : Heap} {L : Addr} {m : Str → Option Value} {s : Shared}
    {Q E : Value → Shared → Prop} (B : Below A₀ base outer h₀) (F : Fr h₀ L s.heap m) (X : (Mine.hd.heap_39 w.params).In h₀) (T : Top Mine.hd.view_39 (looseW Mine.hd.view_39 []) mean mg mb h₀)
include B F X T

theorem steps_c {l : Addr} {vs : List Value} {us : List Int} (hl : s.heap.IsList l vs.toArray) (hi : IntsAre vs us) (hlen : us.length = 7) (hb : ∀ j < 7, 0 ≤ us.getD j 0 ∧ us.getD j 0 ≤ j)
    (hd : dp + 8 < recursionLimit) (hu : un + 120 < cLine) (hret : ∀ D refs rows h' tk', (∀ b o, s.heap.get? b = some o → h'.get? b = some o) → h'.get? D = some (LCg.lst refs) → refs = rows.map (fun p : Addr × Obj => Value.ref p.1) → Two (fun i (p : Addr × Obj) => IntsObj (stepRow us i) p.2) (List.range 8) rows → (∀ p ∈ rows, h'.get? p.1 = some p.2 ∧ s.heap.get? p.1 = none) → s.heap.get? D = none → Q (.ref D) {s with heap := h', toks := tk'}) :
    wpAny (model Challenge.rw_pd0139_01.row.prog w) (ktrTop dp un gd cn ⟨.function, sn, sg, sc, sm⟩ L a ccd cl outer) (call (.ref 200) [.ref l]) Q E s := by
  revert X; k_fill; intro X
  (refine wpAny_call ?_); k_dflt (refine' enterMC (binds := [(Str.ofString "ups", .ref l)]) ?k1 ?k2 ?k3 ?k4 ?k5 ?kA ?kF ?kK ?k6 ?k7 ?k8 ?k9 ?kB ?kD ?_ ?c2 ?c3 ?c4; (case kA => exact rfl); (case kF => exact rfl); (case kK => exact rfl); (case k1 => k_asm); (case k2 => k_asm); (case k3 => k_asm); (case k4 => first | k_asm | exact News.nil); (case k5 => k_asm); (case k6 => k_is); (case k7 => k_is); (case k8 => ktr_room); (case k9 => exact BindsTo.of_eq rfl); (case kB => exact rfl); (case kD => decide +kernel); (case c2 => exact rfl); (case c3 => exact rfl); (case c4 => exact rfl); k_whole)
  intro g' L' h' tk' cells' G' FG' F' N' Y' B' X' T' l1
  (try k_lt l1); k_cells Y'; (try simp only [List.cons_append, List.nil_append] at N'); (try dsimp only); (try k_fold)
  replace F' : Fr g' L' h' (fun _ => none) := by with_unfolding_all exact F'
  have hl' := isl_to hl G'
  rename News g' L' _ [(_, _), (_, _)] => N0
  iterate 11 (first | (k_unfold; (try dsimp only)) | walk1 | (dsimp only; walk1))
  k_dflt (refine' comp_make (n := 8) (pre := [(_, _), (_, _)]) (post := []) (fun i => IntsObj (abv us 7 i)) ?hS ?_ ?_; (case hS => exact fun _ => trivial))
  · rintro i v I oI C oC D ys rs m₂ h₁ tk₁ E' hi8 ⟨ti, rfl⟩ hoC hx F' N' off hne9
    have nIC := hne9.1
    have nID := hne9.2.1
    have nCD := hne9.2.2
    clear hne9
    simp only [List.cons_append, List.nil_append, List.append_nil] at N'
    have hki : 0 + (i : Int) = (i : Int) := Int.zero_add _
    have hk7 : i ≤ 7 := Nat.le_of_lt_succ hi8
    walk_at "mine steps"
    refine Made1.intro (by k_asm) ?_ ?_ ⟨ws', n', rfl, hx'⟩
    · rename News g' L' h' _ => Ne
      intro p hp
      refine Ne p ?_
      simpa only [List.cons_append, List.nil_append, List.append_nil] using hp
    · intro p hp
      refine hne' p ?_
      simpa only [List.cons_append, List.nil_append, List.append_nil] using hp
  · intro ys rs hG hys hap
    unfold LCg.FinE
    intro D' h' tk' F' N' o1'
    simp only [List.cons_append, List.nil_append, List.append_nil] at N' o1'
    have hD2 : @Ne Nat _ D' := o1'.1
    have hap2 := fun r hr => hap r hr _ (.head _)
    dsimp only at hap2
    refine store_cell (pre := [(_, _)]) F' N' (fun p hp => ?_) (fun p hp => ?_) rfl rfl rfl (by assumption) ?_
    · rw [List.mem_singleton.mp hp]; exact Ne.symm hD2
    · rcases List.mem_cons.mp hp with rfl | hp
      · exact Nat.ne_of_lt (Nat.lt_succ_self _)
      · exact Ne.symm (hap2 p hp)
    intro h' oc hoc F' N'
    dsimp only [List.cons_append, List.nil_append] at N'
    iterate 3 (first | (k_unfold; (try dsimp only)) | walk1 | (dsimp only; walk1))
    have hys8 : ys.toArray.size = 8 := by rw [List.size_toArray, hys, List.length_map, ← hG.length]; rfl
    have hfit8 : ys.toArray.size ≤ sizeLine := by rw [hys8, sizeLine_eq]; decide
    k_dflt (refine ListComp_C (h₀ := g') (L := L') (m := fun _ => none) (by with_unfolding_all rfl) (fun _ => rfl) (fun _ => rfl) rfl (by decide) rfl ?_)
    walk_at "eval Name"
    k_dflt (refine ⟨D', ys.toArray, _, rfl, rfl, F', N', Or.inr ⟨_, .head _, rfl, _, rfl⟩, hfit8, _, ⟨[], rfl, .nil, rfl⟩, fun s₂ hs2 => ⟨turnC_make (pre := [(D', LCg.lst ys), (L' + 1 + 1, oc), (L' + 1, _)]) (post := rs) (fun i => IntsObj (stepRow us i)) (fun rows => Or.inr ⟨_, .head _, rfl, _, rfl⟩) ?_, ?_⟩⟩)
    · obtain ⟨hx1, rfl⟩ := hs2
      rw [hys8]
      rintro i v I oI C oC D X oX ys1 rows m₂ h₁ tk₁ E' hi8 hv hoC hoX F' N' off hne9
      have nIC := hne9.1
      have nID := hne9.2.1
      have nCD := hne9.2.2.1
      have nIX := hne9.2.2.2.1
      have nCX := hne9.2.2.2.2.1
      have nDX := hne9.2.2.2.2.2
      clear hne9
      obtain ⟨ri, wi, ni, rfl, hri, hwi⟩ := line_at hG hys hi8 hv
      dsimp only [List.cons_append, List.nil_append] at N' off ⊢
      k_dflt (refine ListComp_C (h₀ := g') (L := L') (m := fun _ => none) (by with_unfolding_all rfl) (fun _ => rfl) (fun _ => rfl) rfl (by decide) rfl ?_)
      walk_at "eval Name"
      k_dflt (refine ⟨D', ys.toArray, _, rfl, rfl, F', N', Or.inr ⟨_, .tail _ (.tail _ (.tail _ (.tail _ (.head _)))), rfl, _, rfl⟩, hfit8, _, ⟨rfl, .nil⟩, fun s₂ hs2 => ⟨turnC_map (fun j y => IsI (stepVal us i j) y) (Or.inr ⟨_, .tail _ (.tail _ (.tail _ (.tail _ (.head _)))), rfl, _, rfl⟩) ?_, ?_⟩⟩)
      · obtain ⟨hx2, rfl⟩ := hs2
        rw [hys8]
        rintro j v2 I2 oI2 C2 oC2 D2 X2 oX2 ys2 m₃ h₂ tk₂ E'' hj8 hv2 hoC2 hoX2 F' N' off2 hne9
        have nIC2 := hne9.1
        have nID2 := hne9.2.1
        have nCD2 := hne9.2.2.1
        have nIX2 := hne9.2.2.2.1
        have nCX2 := hne9.2.2.2.2.1
        have nDX2 := hne9.2.2.2.2.2
        clear hne9
        obtain ⟨rj, wj, nj, rfl, hrj, hwj⟩ := line_at hG hys hj8 hv2
        have hfi := abv_fit hwi (Nat.le_refl _)
        have hfj := abv_fit hwj (Nat.le_refl _)
        have hsi : wi.toArray.size ≤ sizeLine := by rw [List.size_toArray, sizeLine_eq]; omega
        walk_at "mine steps"
      · obtain ⟨hx2, rfl⟩ := hs2
        rw [hys8]
        rintro D2 h2 tk2 ys2 news2 F2 N2 hne2 ⟨rfl, hR⟩
        exact Made1.intro F2 N2 hne2 ⟨ys2, ys2.length, rfl, two_ints hR⟩
    · obtain ⟨hx1, rfl⟩ := hs2
      rw [hys8]
      rintro D2 h2 tk2 ys2 news2 F' N' hne2 ⟨rows, rfl, hR, hys2⟩
      have K := kept0 G' F'
      have hD := N' _ (.head _)
      have hn := gone0 G' hD.2.2
      have hrows : ∀ p ∈ rows, h2.get? p.1 = some p.2 ∧ s.heap.get? p.1 = none := fun p hp => by
        have z := N' p (.tail _ (List.mem_append_right _ (List.mem_append_left _ hp)))
        exact ⟨z.1, gone0 G' z.2.2⟩
      walk_at "mine steps"
      exact hret _ _ _ _ _ K hD.1 hys2 hR hrows hn
end
end
-- LM
section
theorem reg_none_LM : True := by
  w_top off
  k_with_none
  trivial
theorem reg_hdr_LM_1 : True := by
  k_with_none
  k_with "mine enter" => (refine wpAny_call ?_; k_dflt (refine' enterM ?k1 ?k2 ?k3 ?k4 ?k5 ?kA ?kF ?kK ?k6 ?k7 ?k8 ?k9 ?kB ?_ ?c2 ?c3 ?c4 ?c5; (case kA => exact rfl); (case kF => exact rfl); (case kK => exact rfl); (case k1 => k_asm); (case k2 => k_asm); (case k3 => k_asm); (case k4 => first | k_asm | exact News.nil); (case k5 => k_asm); (case k6 => k_is); (case k7 => k_is); (case k8 => ktr_room); (case k9 => exact BindsTo.of_eq rfl); (case c5 => decide); (case kB => exact locs rfl); (case c2 => exact rfl); (case c3 => exact rfl); (case c4 => exact rfl); k_whole); intro g' L' h' G' FG' F' N' B' X' T'; (try dsimp only); (try k_fold))
  k_with "mine back" => (intro h' tk' K'; (have F' := keep_fr (by k_asm) K'); (have N' := keep_news (by k_asm) K'); clear K'; (try dsimp only); (try k_sweep))
  k_with "mine args" => ((case k1 => k_asm); (case k2 => k_asm); (case k3 => k_asm); (case k4 => k_asm); (case kd => ktr_room); (case ku => ktr_units))
  k_with "mine enterC" => (refine wpAny_call ?_; k_dflt (refine' enterMC ?k1 ?k2 ?k3 ?k4 ?k5 ?kA ?kF ?kK ?k6 ?k7 ?k8 ?k9 ?kB ?kD ?_ ?c2 ?c3 ?c4; (case kA => exact rfl); (case kF => exact rfl); (case kK => exact rfl); (case k1 => k_asm); (case k2 => k_asm); (case k3 => k_asm); (case k4 => first | k_asm | exact News.nil); (case k5 => k_asm); (case k6 => k_is); (case k7 => k_is); (case k8 => ktr_room); (case k9 => exact BindsTo.of_eq rfl); (case kB => exact rfl); (case kD => decide +kernel); (case c2 => exact rfl); (case c3 => exact rfl); (case c4 => exact rfl); k_whole); intro g' L' h' tk' cells' G' FG' F' N' Y' B' X' T' l1; (try k_lt l1); k_cells Y'; (try simp only [List.cons_append, List.nil_append] at N'); (try dsimp only); (try k_fold))
  k_with "mine steps" => repeat' (first | (k_unfold; (try dsimp only)) | walk1 | (dsimp only; walk1) | (leave1; (try dsimp only)))
  trivial
theorem reg_hdr_LM_2 : True := by
  k_with "k_ne" => (refine neN ?_; (try dsimp only); first | with_reducible assumption | exact Ne.symm (by with_reducible assumption))
  k_with "FinE" => ((unfold LCg.FinE); intro D' h' tk' F' N' o1'; (try dsimp only [LCg.Off1] at o1'); (repeat (have h9' := o1'.1; replace o1' := o1'.2)); (try clear o1'); (try simp only [List.nil_append, List.cons_append] at N'); (try dsimp only))
  k_with "FinA" => ((unfold LCg.FinA); intro D' h' tk' F' N' o1'; (try dsimp only [LCg.Off1] at o1'); (repeat (have h9' := o1'.1; replace o1' := o1'.2)); (try clear o1'); (try simp only [List.nil_append, List.cons_append] at N'); (try dsimp only))
  k_with "CompRest" => (with_unfolding_all first | (refine LCg.CompRest.succ ?_; intro v' I' oI' C' oC' D' m' h' tk' E' hv' hC' hx' F' N' off' ne'; (first | lcg_open hv' | (obtain ⟨t9', hv9'⟩ := hv'; subst hv9')); (try dsimp only [LCg.Off3] at off'); (have h9' := ne'.1; have h9' := ne'.2.1; have h9' := ne'.2.2; clear ne'); (repeat (have h9' := off'.1.1; have h9' := off'.1.2.1; have h9' := off'.1.2.2; replace off' := off'.2)); (try clear off')) | refine LCg.CompRest.zero ?_)
  trivial

/-- the table of the steps -/
noncomputable def TabAt (h : Heap) (tb : Addr) (us : List Int) : Prop := ∃ refs : List Value, h.IsList tb refs.toArray ∧ refs.length = 8 ∧ ∀ i < 8, ∃ r ws, refs[i]? = some (.ref r) ∧ h.IsList r (ws : List Value).toArray ∧ IntsAre ws (stepRow us i)
theorem TabAt.keep {h h' : Heap} {tb : Addr} {us : List Int} (x : TabAt h tb us) (k : ∀ b o, h.get? b = some o → h'.get? b = some o) : TabAt h' tb us := by
  obtain ⟨refs, hl, h8, hr⟩ := x
  refine ⟨refs, hl.at fun o e => k _ _ e, h8, fun i hi => ?_⟩
  obtain ⟨r, ws, e, hw, hx⟩ := hr i hi
  exact ⟨r, ws, e, hw.at fun o e => k _ _ e, hx⟩
noncomputable def mostI (us : List Int) (r : Int) : Nat → List Int → Int
  | 0, _ => 0
  | _ + 1, [] => 0
  | f + 1, x :: xs => max (1 + mostI us r f (xs.filter fun y => decide (2 * r < stepVal us x.toNat y.toNat))) (mostI us r f xs)
noncomputable def keepM (us : List Int) (r x : Int) (v : Value) : Bool := match v with | .int y _ => decide (2 * r < stepVal us x.toNat y.toNat) | _ => false
theorem filter_ints {p : Int → Bool} {k : Value → Bool} (hk : ∀ n t, k (.int n t) = p n) : ∀ {vs : List Value} {ms : List Int}, IntsAre vs ms → IntsAre (vs.filter k) (ms.filter p)
  | _, _, .nil => .nil
  | _, _, .cons n t h => by
    have ih := filter_ints hk h
    rw [List.filter_cons, List.filter_cons, hk]
    split
    · exact .cons n t ih
    · exact ih
theorem row_get {us : List Int} {i j : Nat} (hj : j < 8) : (stepRow us i)[j]? = some (stepVal us i j) := by
  unfold stepRow
  rw [List.getElem?_map, List.getElem?_range hj]; rfl
section
variable {prog : Program} {w : World} {A : Around} {E : Value → Shared → Prop} {s : Shared}
theorem tab_get {value slice : PySem.Expr} {us : List Int} {tb : Addr} {x : Int} {u : Tok} {Q : Value → Shared → Prop} (hT : TabAt s.heap tb us) (h0 : 0 ≤ x) (h8 : x < 8)
    (h : ∀ r ws, s.heap.IsList r (ws : List Value).toArray → IntsAre ws (stepRow us x.toNat) → Q (.ref r) s)
    (hq : subscripted slice false (.ref tb) (.int x u) = operate [.ref tb, .int x u] (getItem (.ref tb) (.int x u)) := by with_unfolding_all rfl) :
    wpAny (model prog w) A (subscriptTail value slice (.ref tb) (.int x u)) Q E s := by
  obtain ⟨refs, hl, hz, hr⟩ := hT
  obtain ⟨r, ws, e, hw, hx⟩ := hr x.toNat (by omega)
  exact tail_any hl.typeIs slot_list_getitem.lookup (wpAny_getItem_list hl h0 (by omega) (by simpa using e) (h r ws hw hx)) hq
theorem row_item {value slice : PySem.Expr} {us : List Int} {r : Addr} {i : Nat} {ws : List Value} {y : Int} {u : Tok} {Q : Value → Shared → Prop} (hl : s.heap.IsList r ws.toArray) (hx : IntsAre ws (stepRow us i)) (h0 : 0 ≤ y) (h8 : y < 8)
    (h : ∀ t, Q (.int (stepVal us i y.toNat) t) s)
    (hq : subscripted slice false (.ref r) (.int y u) = operate [.ref r, .int y u] (getItem (.ref r) (.int y u)) := by with_unfolding_all rfl) :
    wpAny (model prog w) A (subscriptTail value slice (.ref r) (.int y u)) Q E s := by
  obtain ⟨t, e⟩ := hx.get y.toNat _ (row_get (us := us) (i := i) (by omega))
  exact tail_any hl.typeIs slot_list_getitem.lookup (wpAny_getItem_list hl h0 (by omega) (by simpa using e) (h t)) hq
theorem head_item {value slice : PySem.Expr} {r : Addr} {v : Value} {ws : List Value} {u : Tok} {Q : Value → Shared → Prop} (hl : s.heap.IsList r (v :: ws).toArray) (h : Q v s)
    (hq : subscripted slice false (.ref r) (.int 0 u) = operate [.ref r, .int 0 u] (getItem (.ref r) (.int 0 u)) := by with_unfolding_all rfl) :
    wpAny (model prog w) A (subscriptTail value slice (.ref r) (.int 0 u)) Q E s :=
  tail_any hl.typeIs slot_list_getitem.lookup (wpAny_getItem_list hl (by decide) (by decide) (by simp) h) hq
end
theorem truthy_ground {prog : Program} {w : World} {A : Around} {E : Value → Shared → Prop} {s : Shared} {r : Addr} {ws : List Value} {b : Bool} {Q : Bool → Shared → Prop} (hl : s.heap.IsList r ws.toArray) (hb : (!ws.isEmpty) = b) (hfit : ws.length ≤ 1000) (h : ∀ tk, Q b { s with toks := tk }) : wpAny (model prog w) A (truthy (.ref r)) Q E s := by
  refine wpAny_truthy_list hl (by rw [List.size_toArray]; omega) ?_
  have e : ws.toArray.isEmpty = ws.isEmpty := by simp
  rw [e, hb]
  exact h _
theorem max_if {a b : Int} : (if b > a then b else a) = max a b := by rw [Int.max_def]; split <;> split <;> omega
theorem mostI_nil {us : List Int} {r : Int} : ∀ f, mostI us r f [] = 0
  | 0 => rfl
  | _ + 1 => rfl
theorem reg_lm : True := by
  k_with "truthy ref" => (k_here; k_dflt (refine' truthy_ground (IsList.up hl' (by k_asm)) hemp hfit1 ?_); intro tkt)
  trivial
section
variable {w : World} {mean : ExcName → Option Value} {mg mb : Str → Option Value}
 {dp un : Nat} {gd : Option (List Code)} {cn : Str} {sn : List (Str × NameKind)} {sg sc : Bool} {sm : List (Str × Const)} {a : Addr} {ccd : Value} {cl : List (Str × Addr)} {outer : List Env} {A₀ : Around} {base h₀ : Heap} {L : Addr} {m : Str → Option Value} {s : Shared}
    {Q E : Value → Shared → Prop} (B : Below A₀ base outer h₀) (F : Fr h₀ L s.heap m) (X : (Mine.hd.heap_39 w.params).In h₀) (T : Top Mine.hd.view_39 (looseW Mine.hd.view_39 []) mean mg mb h₀)
include B F X T

theorem most_nil {l tb : Addr} {tr : Tok} {r : Int} (hl : s.heap.IsList l #[])
    (hd : dp + 5 < recursionLimit) (hu : un + 80 < cLine) (hret : ∀ t h' tk', (∀ b o, s.heap.get? b = some o → h'.get? b = some o) → Q (.int 0 t) {s with heap := h', toks := tk'}) : wpAny (model Challenge.rw_pd0139_01.row.prog w) (ktrTop dp un gd cn ⟨.function, sn, sg, sc, sm⟩ L a ccd cl outer) (call (.ref 205) [.ref l, .ref tb, .int r tr]) Q E s := by
  revert X; k_fill; intro X
  (refine wpAny_call ?_); k_dflt (refine' enterMC (binds := [(Str.ofString "nodes", .ref l), (Str.ofString "table", .ref tb), (Str.ofString "reach", .int r tr)]) ?k1 ?k2 ?k3 ?k4 ?k5 ?kA ?kF ?kK ?k6 ?k7 ?k8 ?k9 ?kB ?kD ?_ ?c2 ?c3 ?c4; (case kA => exact rfl); (case kF => exact rfl); (case kK => exact rfl); (case k1 => k_asm); (case k2 => k_asm); (case k3 => k_asm); (case k4 => first | k_asm | exact News.nil); (case k5 => k_asm); (case k6 => k_is); (case k7 => k_is); (case k8 => ktr_room); (case k9 => exact BindsTo.of_eq rfl); (case kB => exact rfl); (case kD => decide +kernel); (case c2 => exact rfl); (case c3 => exact rfl); (case c4 => exact rfl); k_whole)
  intro g' L' h' tk' cells' G' FG' F' N' Y' B' X' T' l1
  (try k_lt l1); k_cells Y'; (try simp only [List.cons_append, List.nil_append] at N'); (try dsimp only); (try k_fold)
  replace F' : Fr g' L' h' (fun _ => none) := by with_unfolding_all exact F'
  have hl' := isl_to hl G'
  have hemp : (!([] : List Value).isEmpty) = false := rfl
  have hfit1 : ([] : List Value).length ≤ 1000 := Nat.zero_le _
  walk_at "mine steps"
  exact hret _ _ _ (kept0 (by assumption) (by assumption))
end
theorem reg_lm2 : True := by
  k_with "Same" => first | exact Same.intro (by k_asm) (by k_asm) | exact Same.intro (by k_asm) (drop_hd (by k_asm))
  k_with "call ref" => (k_here; (with_reducible show wpAny _ _ (call (Value.ref 205) [Value.ref _, Value.ref _, Value.int _ _]) _ _ _); k_dflt (refine' ih ?k1 ?k2 ?k3 ?k4 ?zl ?zi ?zx ?zf ?zf8 ?zT ?kd ?ku ?_; (case k1 => k_asm); (case k2 => k_asm); (case k3 => k_asm); (case k4 => k_asm); (case zl => exact ⟨_, News.get (by k_asm) (by k_mem), rfl, _, rfl⟩); (case zi => first | exact hya | exact hi); (case zx => first | exact fun z hz => hx z (.tail _ hz) | exact fun z hz => hx z (.tail _ (List.mem_filter.mp hz).1)); (case zf => first | exact hzl | exact Nat.le_trans (List.length_filter_le _ _) hzl); (case zf8 => omega); (case zT => exact hT'.keep (Fr.keep (by k_asm))); (case kd => ktr_room); (case ku => ktr_units)); intro t'; walk_at "mine back")
  k_with "exec Assign cons ListComp" => (k_here; k_dflt (refine LCt.Assign_ListComp_T (by k_asm) (by rfl) (by with_unfolding_all rfl) (by rfl) (by decide) (by rfl) (by decide) (by rfl) (by rfl) (by rfl) ?_))
  k_with "subscriptTail Name Slice ref ref" => (k_here; k_dflt (refine' slice_from (i := 1) ?zsF ?zsN ?zsl ?zsf rfl ?_ ?zss ?zst; (case zsF => k_asm); (case zsN => k_asm); (case zsl => exact IsList.up hl' (by k_asm)); (case zsf => exact Nat.le_trans hfit1 (by decide)); (case zss => with_unfolding_all rfl); (case zst => intro _; with_unfolding_all rfl)); intro S' h' F' N' l1; (try k_lt l1); (try dsimp only [List.drop_succ_cons, List.drop_zero] at N'); (try k_sweep))
  k_with "CompSrcT" => (k_here; k_dflt (refine LCt.CompSrcT.ledger (by rfl) (by k_asm) (by k_asm) (by k_mem) hsz ?_); intro g8; k_dflt (refine' compT_filter (keepM us r x) ?hS ?_ ?_ ?_; (case hS => exact Or.inr ⟨_, by k_mem, rfl, _, rfl⟩)); all_goals (first | (intro v' I' oI' C' oC' D' ys' m' h' tk' E' hv' hkp' hC' hx' F' N' off' ne'; obtain ⟨y', t', hv9⟩ := hi.all v' (by simpa using hv'); subst hv9; clear off' ne') | (intro v' I' oI' C' oC' D' ys' m' h' tk' E' hv' hC' hx' F' N' off' ne'; obtain ⟨y', t', hv9⟩ := hi.all v' (by simpa using hv'); subst hv9; clear off' ne'; (have hy8 := int_in hi hx (by simpa using hv'))) | (intro ys' hys'; (have hya : IntsAre ys' (zs.filter fun y => decide (2 * r < stepVal us x.toNat y.toNat)) := hys' ▸ filter_ints (fun _ _ => rfl) hi); clear hys')))
  k_with "subscriptTail Name Constant ref int" => (k_here; k_dflt (refine' head_item ?zh1 ?_ ?zh2; (case zh1 => exact IsList.up hl' (by k_asm)); (case zh2 => with_unfolding_all rfl)))
  k_with "subscriptTail" => (k_here; k_dflt (first | (refine' tab_get ?zt1 ?zt2 ?zt3 ?_ ?zt4; (case zt1 => exact hT'.keep (Fr.keep (by k_asm))); (case zt2 => exact hx0.1); (case zt3 => exact hx0.2); (case zt4 => with_unfolding_all rfl); intro ra' wa' hla' hxa') | (refine' row_item ?zt1 ?zt2 ?zt3 ?zt5 ?_ ?zt4; (case zt1 => assumption); (case zt2 => assumption); (case zt3 => exact hy8.1); (case zt5 => exact hy8.2); (case zt4 => with_unfolding_all rfl); intro ta')))
  trivial
theorem int_in {ws : List Value} {xs : List Int} {y : Int} {t : Tok} {x : Int} (h : IntsAre ws xs) (hx : ∀ z ∈ x :: xs, 0 ≤ z ∧ z < 8) (hm : Value.int y t ∈ ws) : 0 ≤ y ∧ y < 8 := by
  induction h with
  | nil => cases hm
  | @cons n t' vs ns h ih =>
    rcases List.mem_cons.mp hm with e | hm
    · cases e; exact hx _ (.tail _ (.head _))
    · exact ih (fun z hz => by
        rcases List.mem_cons.mp hz with rfl | hz
        · exact hx _ (.head _)
        · exact hx _ (.tail _ (.tail _ hz))) hm
noncomputable def MostOk (w : World) (us : List Int) (r : Int) (f : Nat) : Prop :=
  ∀ {mean : ExcName → Option Value} {mg mb : Str → Option Value}
 {dp un : Nat} {gd : Option (List Code)} {cn : Str} {sn : List (Str × NameKind)} {sg sc : Bool} {sm : List (Str × Const)} {a : Addr} {ccd : Value} {cl : List (Str × Addr)} {outer : List Env} {A₀ : Around} {base h₀ : Heap} {L : Addr} {m : Str → Option Value} {s : Shared}
    {Q E : Value → Shared → Prop} (B : Below A₀ base outer h₀) (F : Fr h₀ L s.heap m) (X : (Mine.hd.heap_39 w.params).In h₀) (T : Top Mine.hd.view_39 (looseW Mine.hd.view_39 []) mean mg mb h₀)
    {l tb : Addr} {vs : List Value} {xs : List Int} {tr : Tok} (hl : s.heap.IsList l vs.toArray) (hi : IntsAre vs xs) (hx : ∀ x ∈ xs, 0 ≤ x ∧ x < 8) (hf : xs.length ≤ f) (hf8 : f ≤ 8) (hT : TabAt s.heap tb us)
    (hd : dp + f + 5 < recursionLimit) (hu : un + 20 * f + 80 < cLine) (hret : ∀ t h' tk', (∀ b o, s.heap.get? b = some o → h'.get? b = some o) → Q (.int (mostI us r f xs) t) {s with heap := h', toks := tk'}),
    wpAny (model Challenge.rw_pd0139_01.row.prog w) (ktrTop dp un gd cn ⟨.function, sn, sg, sc, sm⟩ L a ccd cl outer) (call (.ref 205) [.ref l, .ref tb, .int r tr]) Q E s
theorem most_step {w : World} {us : List Int} {r : Int} {f : Nat} (hr : r = 1 ∨ r = 2) (ih : MostOk w us r f) : MostOk w us r (f + 1) := by
  intro mean mg mb dp un gd cn sn sg sc sm a ccd cl outer A₀ base h₀ L m s Q E B F X T l tb vs xs tr hl hi hx hf hf8 hT hd hu hret
  cases hi with
  | nil => exact most_nil B F X T hl (by omega) (by omega) hret
  | @cons x t ws zs hi => ?_
  revert X; k_fill; intro X
  (refine wpAny_call ?_); k_dflt (refine' enterMC (binds := [(Str.ofString "nodes", .ref l), (Str.ofString "table", .ref tb), (Str.ofString "reach", .int r tr)]) ?k1 ?k2 ?k3 ?k4 ?k5 ?kA ?kF ?kK ?k6 ?k7 ?k8 ?k9 ?kB ?kD ?_ ?c2 ?c3 ?c4; (case kA => exact rfl); (case kF => exact rfl); (case kK => exact rfl); (case k1 => k_asm); (case k2 => k_asm); (case k3 => k_asm); (case k4 => first | k_asm | exact News.nil); (case k5 => k_asm); (case k6 => k_is); (case k7 => k_is); (case k8 => ktr_room); (case k9 => exact BindsTo.of_eq rfl); (case kB => exact rfl); (case kD => decide +kernel); (case c2 => exact rfl); (case c3 => exact rfl); (case c4 => exact rfl); k_whole)
  intro g' L' h' tk' cells' G' FG' F' N' Y' B' X' T' l1
  (try k_lt l1); k_cells Y'; (try simp only [List.cons_append, List.nil_append] at N'); (try dsimp only); (try k_fold)
  replace F' : Fr g' L' h' (fun _ => none) := by with_unfolding_all exact F'
  have hl' := isl_to hl G'
  have hT' : TabAt g' tb us := hT.keep fun b o e => G' b o (by simp) e
  have hemp : (!(Value.int x t :: ws).isEmpty) = true := rfl
  have hfw : ws.length ≤ 7 := by rw [hi.length]; simp only [List.length_cons] at hf; omega
  have hfit1 : (Value.int x t :: ws).length ≤ 1000 := by rw [List.length_cons]; omega
  have hsz : ws.toArray.size ≤ sizeLine := by rw [List.size_toArray, sizeLine_eq]; omega
  have hx0 := hx x (.head _)
  have hzl : zs.length ≤ f := by simp only [List.length_cons] at hf; omega
  unfold MostOk at ih
  walk_at "mine steps"
  rw [max_if]
  exact hret _ _ _ (kept0 (by assumption) (by assumption))
theorem most_0 {w : World} {us : List Int} {r : Int} : MostOk w us r 0 := by
  intro mean mg mb dp un gd cn sn sg sc sm a ccd cl outer A₀ base h₀ L m s Q E B F X T l tb vs xs tr hl hi hx hf hf8 hT hd hu hret
  obtain rfl : xs = [] := List.eq_nil_of_length_eq_zero (Nat.le_zero.mp hf)
  obtain rfl := hi.nil_inv
  exact most_nil B F X T hl (by omega) (by omega) hret
theorem most_c (w : World) {us : List Int} {r : Int} (hr : r = 1 ∨ r = 2) (f : Nat) : MostOk w us r f := by
  induction f with
  | zero => exact most_0
  | succ f ih => exact most_step hr ih
end
-- PK
section
theorem reg_none_PK : True := by
  w_top off
  k_with_none
  trivial
theorem name_it {α : Sort _} {x : α} {G : Prop} (h : ∀ y, y = x → G) : G := h x rfl
/-- a pair (int, text) lies in the object -/
noncomputable def TupObj (k : Int) (x : Str) (o : Obj) : Prop := ∃ t u, o = { cls := .type "tuple", data := .seq #[.int k t, .str x u] }
noncomputable def pairOf (o : Obj) : Int × Str := match o.data with
  | .seq a _ => match a.toList with
    | [.int k _, .str x _] => (k, x)
    | _ => (0, Str.ofString "")
  | _ => (0, Str.ofString "")
noncomputable def keyOf (rs : List (Addr × Obj)) (v : Value) : Int × Str := match v with
  | .ref a => match rs.find? (fun p => p.1 == a) with
    | some p => pairOf p.2
    | none => (0, Str.ofString "")
  | _ => (0, Str.ofString "")
theorem pairOf_tup {k : Int} {x : Str} {o : Obj} (h : TupObj k x o) : pairOf o = (k, x) := by
  obtain ⟨t, u, rfl⟩ := h; rfl
theorem keyOf_mem {h₀ h : Heap} {L : Addr} {rs : List (Addr × Obj)} (N : News h₀ L h rs) {p : Addr × Obj} (hp : p ∈ rs) : keyOf rs (.ref p.1) = pairOf p.2 := by
  show (match rs.find? (fun p' => p'.1 == p.1) with | some p => pairOf p.2 | none => (0, Str.ofString "")) = pairOf p.2
  generalize q : rs.find? (fun p' => p'.1 == p.1) = z
  match z, q with
  | none, q =>
    have := List.find?_eq_none.mp q p hp
    simp at this
  | some p', q =>
    have h1 : p'.1 = p.1 := by simpa using List.find?_some q
    have h2 := (N p' (List.mem_of_find?_eq_some q)).1
    have h3 := (N p hp).1
    rw [h1, h3] at h2
    show pairOf p'.2 = pairOf p.2
    rw [Option.some.inj h2]
theorem two_keys {f : Nat → Int × Str} {h₀ h : Heap} {L : Addr} {rs : List (Addr × Obj)} (N : News h₀ L h rs) : ∀ {is : List Nat} {rs1 : List (Addr × Obj)}, (∀ p ∈ rs1, p ∈ rs) → Two (fun i (p : Addr × Obj) => TupObj (f i).1 (f i).2 p.2) is rs1 →
    (rs1.map fun p => Value.ref p.1).map (keyOf rs) = is.map f
  | _, _, _, .nil => rfl
  | _, _, hm, .cons h t => by
    rw [List.map_cons, List.map_cons, List.map_cons, keyOf_mem N (hm _ (.head _)), pairOf_tup h, two_keys N (fun p hp => hm p (.tail _ hp)) t]
theorem pair_mem {f : Nat → Int × Str} {h₀ h : Heap} {L : Addr} {rs : List (Addr × Obj)} (N : News h₀ L h rs) {is : List Nat} (hT : Two (fun i (p : Addr × Obj) => TupObj (f i).1 (f i).2 p.2) is rs) {v : Value} (hv : v ∈ rs.map fun p => Value.ref p.1) : PairAt h v (keyOf rs v) := by
  obtain ⟨p, hp, rfl⟩ := List.mem_map.mp hv
  obtain ⟨i, hi⟩ := List.getElem?_of_mem hp
  obtain ⟨j, _, hj⟩ := hT.flip.get hi
  rw [keyOf_mem N hp, pairOf_tup hj]
  obtain ⟨t, u, e⟩ := hj
  have z := (N p hp).1
  rw [e] at z
  exact ⟨p.1, t, u, rfl, _, z, rfl, 0, rfl⟩
/-- the ledger when one object is another -/
theorem led_set {h₀ h h' : Heap} {L D : Addr} {pre post : List (Addr × Obj)} {o o' : Obj} (N : News h₀ L h (pre ++ (D, o) :: post)) (hpre : ∀ p ∈ pre, p.1 ≠ D) (hpost : ∀ p ∈ post, p.1 ≠ D) (K : But [D] h h') (hD : h'.get? D = some o') : News h₀ L h' (pre ++ (D, o') :: post) := by
  have z := N (D, o) (List.mem_append_right _ (.head _))
  intro p hp
  rcases List.mem_append.mp hp with hp | hp
  · have y := N p (List.mem_append_left _ hp)
    exact ⟨K _ _ (by simpa using hpre p hp) y.1, y.2⟩
  rcases List.mem_cons.mp hp with rfl | hp
  · exact ⟨hD, z.2⟩
  · have y := N p (List.mem_append_right _ (.tail _ hp))
    exact ⟨K _ _ (by simpa using hpost p hp) y.1, y.2⟩
theorem fr_set {h₀ h h' : Heap} {L D : Addr} {m : Str → Option Value} {pre post : List (Addr × Obj)} {o : Obj} (F : Fr h₀ L h m) (N : News h₀ L h (pre ++ (D, o) :: post)) (K : But [D] h h') : Fr h₀ L h' m := by
  have z := N (D, o) (List.mem_append_right _ (.head _))
  exact fr_but K F (fun p hp => by rw [List.mem_singleton.mp hp]; exact z)
/-- heappush -/
noncomputable def pushK (key : Value → Int × Str) (hs : List Value) (v : Value) : List Value := sdn key v hs.length (hs ++ [v]) hs.length
/-- heappop: the least and the rest -/
noncomputable def popK (key : Value → Int × Str) (hs : List Value) : Option (Value × List Value) :=
  match hs.reverse with
  | [] => none
  | y :: r => if r = [] then some (y, []) else some (r.reverse.getD 0 .none, let q := sup key (r.reverse.set 0 y).length (r.reverse.set 0 y) 0; sdn key y q.2 (q.1.set q.2 y) q.2)
theorem popK_some {key : Value → Int × Str} {hs hs' : List Value} {v : Value} (h : popK key hs = some (v, hs')) : ∃ ws y, hs = ws ++ [y] ∧ ((ws = [] ∧ v = y ∧ hs' = []) ∨ (ws ≠ [] ∧ v = ws.getD 0 .none ∧ ∃ vs' k, sup key (ws.set 0 y).length (ws.set 0 y) 0 = (vs', k) ∧ hs' = sdn key y k (vs'.set k y) k)) := by
  unfold popK at h
  split at h
  · cases h
  · rename_i y r e
    have e2 : hs = r.reverse ++ [y] := by have := congrArg List.reverse e; simpa using this
    refine ⟨r.reverse, y, e2, ?_⟩
    split at h
    · rename_i hr
      obtain ⟨rfl, rfl⟩ := Prod.mk.inj (Option.some.inj h)
      exact .inl ⟨by rw [hr]; rfl, rfl, rfl⟩
    · rename_i hr
      obtain ⟨rfl, rfl⟩ := Prod.mk.inj (Option.some.inj h)
      exact .inr ⟨fun q => hr (by simpa using q), rfl, _, _, rfl, rfl⟩
theorem sdn_mem {key : Value → Int × Str} {new : Value} : ∀ (f : Nat) (vs : List Value) (pos : Nat), (pos < vs.length) → ∀ x ∈ sdn key new f vs pos, x ∈ vs ∨ x = new
  | 0, vs, pos, _, x, h => (List.mem_or_eq_of_mem_set h)
  | f + 1, vs, pos, hp, x, h => by
    unfold sdn at h
    split at h
    · exact List.mem_or_eq_of_mem_set h
    · split at h
      · rcases sdn_mem f _ _ (by rw [List.length_set]; omega) x h with h | h
        · rcases List.mem_or_eq_of_mem_set h with h | h
          · exact .inl h
          · rw [h]; exact .inl (getD_mem (by omega))
        · exact .inr h
      · exact List.mem_or_eq_of_mem_set h
theorem sdn_length {key : Value → Int × Str} {new : Value} : ∀ (f : Nat) (vs : List Value) (pos : Nat), (sdn key new f vs pos).length = vs.length
  | 0, vs, pos => List.length_set ..
  | f + 1, vs, pos => by
    unfold sdn
    split
    · exact List.length_set ..
    · split
      · rw [sdn_length, List.length_set]
      · exact List.length_set ..
theorem sup_ok {key : Value → Int × Str} : ∀ (f : Nat) (vs : List Value) (p : Nat), p < vs.length → (sup key f vs p).2 < (sup key f vs p).1.length ∧ (sup key f vs p).1.length = vs.length ∧ ∀ x ∈ (sup key f vs p).1, x ∈ vs
  | 0, vs, p, h => ⟨h, rfl, fun _ hx => hx⟩
  | f + 1, vs, p, h => by
    unfold sup
    split
    · rename_i h1
      have hk := kid_lt (key := key) h1
      obtain ⟨a, b, c⟩ := sup_ok f (vs.set p (vs.getD (kid key vs p) .none)) (kid key vs p) (by rw [List.length_set]; exact hk)
      refine ⟨a, by rw [b, List.length_set], fun x hx => ?_⟩
      rcases List.mem_or_eq_of_mem_set (c x hx) with h | h
      · exact h
      · rw [h]; exact getD_mem hk
    · exact ⟨h, rfl, fun _ hx => hx⟩
theorem pushK_mem {key : Value → Int × Str} {hs : List Value} {v x : Value} (h : x ∈ pushK key hs v) : x ∈ hs ∨ x = v := by
  rcases sdn_mem _ _ _ (by simp) x h with h | h
  · rcases List.mem_append.mp h with h | h
    · exact .inl h
    · exact .inr (List.mem_singleton.mp h)
  · exact .inr h
theorem pushK_length {key : Value → Int × Str} {hs : List Value} {v : Value} : (pushK key hs v).length = hs.length + 1 := by
  unfold pushK; rw [sdn_length]; simp
theorem popK_mem {key : Value → Int × Str} {hs hs' : List Value} {v : Value} (h : popK key hs = some (v, hs')) : v ∈ hs ∧ (∀ x ∈ hs', x ∈ hs) ∧ hs'.length + 1 = hs.length := by
  obtain ⟨ws, y, rfl, ⟨rfl, rfl, rfl⟩ | ⟨hw, rfl, vs', k, hsu, rfl⟩⟩ := popK_some h
  · exact ⟨by simp, (fun _ hx => by cases hx), rfl⟩
  · have hp : 0 < ws.length := List.length_pos_iff.mpr hw
    obtain ⟨a, b, c⟩ := sup_ok (key := key) (ws.set 0 y).length (ws.set 0 y) 0 (by rw [List.length_set]; exact hp)
    rw [hsu] at a b c
    refine ⟨List.mem_append_left _ (getD_mem hp), fun x hx => ?_, ?_⟩
    · have m1 : ∀ z, z ∈ ws.set 0 y → z ∈ ws ++ [y] := fun z hz => (List.mem_or_eq_of_mem_set hz).elim (fun q => List.mem_append_left _ q) fun q => by rw [q]; simp
      rcases sdn_mem _ _ _ (by rw [List.length_set]; exact a) x hx with h | h
      · rcases List.mem_or_eq_of_mem_set h with h | h
        · exact m1 _ (c x h)
        · rw [h]; simp
      · rw [h]; simp
    · rw [sdn_length, List.length_set]
      dsimp only at b
      rw [b, List.length_set, List.length_append]; rfl
end
-- PL
section
theorem reg_none_PL : True := by
  w_top off
  k_with_none
  trivial
theorem same_but {D : Addr} {h h' : Heap} (hs : Heap.SameBut D h h') : But [D] h h' := fun b o hb e => hs.extBut b o (by simpa using hb) e
theorem strs_are {ws : List Value} {P : List Str} (h : StrsOf ws P) : StrsAre ws P := by
  obtain ⟨l, rfl, rfl⟩ := h
  induction l with
  | nil => exact .nil
  | cons p l ih => exact .cons p.1 p.2 ih
section
variable {prog : Program} {w : World} {A : Around} {E : Value → Shared → Prop} {s : Shared} {h₀ : Heap} {L D : Addr} {m : Str → Option Value} {pre post : List (Addr × Obj)} {vs : List Value} {n : Nat}
theorem append_led {x : Value} {Q : Value → Shared → Prop} (F : Fr h₀ L s.heap m) (N : News h₀ L s.heap (pre ++ (D, W.listOf vs.toArray n) :: post)) (hpre : ∀ p ∈ pre, p.1 ≠ D) (hpost : ∀ p ∈ post, p.1 ≠ D) (hfit : vs.length ≤ 1000)
    (h : ∀ h', Fr h₀ L h' m → News h₀ L h' (pre ++ (D, W.listOf (vs ++ [x]).toArray (n + 1)) :: post) → Q .none { s with heap := h' }) : wpAny (model prog w) A (call (.builtin "list.append") [.ref D, x]) Q E s := by
  refine append_at (N _ (List.mem_append_right _ (.head _))).1 (fun h' hs' hD' => h h' (fr_set F N (same_but hs')) ?_) (by rw [List.size_toArray, sizeLine_eq]; omega)
  refine led_set N hpre hpost (same_but hs') ?_
  rw [hD', List.push_toArray]
theorem pair_item1 {value slice : PySem.Expr} {a : Addr} {k : Int × Str} {t u ui : Tok} {Q : Value → Shared → Prop} (ht : s.heap.IsTuple a #[.int k.1 t, .str k.2 u]) (h : Q (.str k.2 u) s)
    (hs : subscripted slice false (.ref a) (.int 1 ui) = operate [.ref a, .int 1 ui] (getItem (.ref a) (.int 1 ui)) := by with_unfolding_all rfl) : wpAny (model prog w) A (subscriptTail value slice (.ref a) (.int 1 ui)) Q E s := by
  exact item_tupleT (l := [.int k.1 t, .str k.2 u]) (j := 1) ht (by decide) (by decide) rfl rfl h hs
theorem in_strs {P : List Str} {x : Str} {t : Tok} {news : List (Addr × Obj)} {Q : Value → Shared → Prop} (N : News h₀ L s.heap news) (hm : (D, W.listOf vs.toArray n) ∈ news) (hs : StrsOf vs P) (b : Bool) (hb : P.any (· == x) = b) (h : Q (.bool b) s) : wpAny (model prog w) A (compareOp .In (.str x t) (.ref D)) Q E s :=
  in_list_strs ⟨_, N.get hm, rfl, _, rfl⟩ (strs_are hs) (by rw [hb]; exact h)
end
end
-- KS
section
theorem reg_none_KS : True := by
  w_top off
  k_with_none
  trivial
section
variable {n : Nat} {lt : Nat → Nat → Bool} {cmp : Nat → Nat → (Bool → Shared → Prop) → Shared → Prop} {s : Shared}
noncomputable def Gd0 (n : Nat) (p : Array Nat) : Prop := p.toList.Perm (List.range n)
noncomputable abbrev gp (p : Array Nat) (i : Nat) : Nat := p.getD i 0
noncomputable def SP (lt : Nat → Nat → Bool) (p : Array Nat) (m : Nat) : Prop := ∀ i j, i < j → j < m → lt (gp p i) (gp p j) = true
noncomputable def DP (lt : Nat → Nat → Bool) (p : Array Nat) (m : Nat) : Prop := ∀ i j, i < j → j < m → lt (gp p j) (gp p i) = true
theorem gp_eq (p : Array Nat) (i : Nat) : gp p i = (p[i]?).getD 0 := by
  unfold gp; simp
theorem Gd0.size {p : Array Nat} (h : Gd0 n p) : p.size = n := by
  have := h.length_eq; simpa using this
theorem Gd0.bnd {p : Array Nat} (h : Gd0 n p) {i : Nat} (hi : i < n) : gp p i < n := by
  have hs := h.size
  have hi' : i < p.size := by omega
  have : gp p i ∈ p.toList := by
    rw [gp_eq, Array.getElem?_eq_getElem hi']; simp
  exact List.mem_range.mp (h.mem_iff.mp this)
theorem Gd0.inj {p : Array Nat} (h : Gd0 n p) {i j : Nat} (hi : i < n) (hj : j < n) (e : gp p i = gp p j) : i = j := by
  have hs := h.size
  have hn : p.toList.Nodup := h.nodup_iff.mpr List.nodup_range
  have hi' : i < p.toList.length := by simp; omega
  have hj' : j < p.toList.length := by simp; omega
  rw [gp_eq, gp_eq, Array.getElem?_eq_getElem (by omega), Array.getElem?_eq_getElem (by omega)] at e
  have hpw := List.pairwise_iff_getElem.mp hn
  have e2 : p.toList[i] = p.toList[j] := by simpa using e
  rcases Nat.lt_trichotomy i j with h1 | h1 | h1
  · exact absurd e2 (hpw i j hi' hj' h1)
  · exact h1
  · exact absurd e2.symm (hpw j i hj' hi' h1)
theorem Gd0.of_perm {p q : Array Nat} (h : Gd0 n p) (hq : q.Perm p) : Gd0 n q := (Array.perm_iff_toList_perm.mp hq).trans h
variable (htr : ∀ i j k, i < n → j < n → k < n → lt i j = true → lt j k = true → lt i k = true) (htot : ∀ i j, i < n → j < n → i ≠ j → lt i j = false → lt j i = true)
  (hc : ∀ i j, i < n → j < n → ∀ C : Bool → Shared → Prop, C (lt i j) s → cmp i j C s)
include htr htot hc
theorem asc_wp {p : Array Nat} (hp : Gd0 n p) {Q : Nat → Shared → Prop} : ∀ (f m : Nat), m + f = n → 1 ≤ m → SP lt p m → (∀ m', m ≤ m' → m' ≤ n → SP lt p m' → (m' < n → 0 < f → lt (gp p m') (gp p (m' - 1)) = true) → Q m' s) → (kas_asc p f m).kasWp cmp Q s
  | 0, m, hm, h1, hs, hQ => hQ m (Nat.le_refl _) (by omega) hs (fun _ h => absurd h (Nat.lt_irrefl _))
  | f + 1, m, hm, h1, hs, hQ => by
    refine hc _ _ (hp.bnd (by omega)) (hp.bnd (by omega)) _ ?_
    cases q : lt (gp p m) (gp p (m - 1)) with
    | true =>
      simp only [if_true]
      exact hQ m (Nat.le_refl _) (by omega) hs (fun _ _ => q)
    | false =>
      simp only [Bool.false_eq_true, if_false]
      have hl := htot _ _ (hp.bnd (by omega)) (hp.bnd (by omega)) (fun e => by have := hp.inj (by omega) (by omega) e; omega) q
      refine asc_wp hp f (m + 1) (by omega) (by omega) (fun i j hij hj => ?_) fun m' h2 h3 h4 h5 => hQ m' (by omega) h3 h4 fun h6 _ => ?_
      · by_cases hjm : j < m
        · exact hs i j hij hjm
        · obtain rfl : j = m := by omega
          by_cases hi : i = j - 1
          · rw [hi]; exact hl
          · exact htr _ _ _ (hp.bnd (by omega)) (hp.bnd (by omega)) (hp.bnd (by omega)) (hs i (j - 1) (by omega) (by omega)) hl
      · exact h5 h6 (by omega)
theorem desc_wp {p : Array Nat} (hp : Gd0 n p) {Q : Array Nat × Nat × Nat → Shared → Prop} : ∀ (f m : Nat), m + f = n → 1 ≤ m → DP lt p m → (∀ m', m ≤ m' → m' ≤ n → DP lt p m' → Q (p, m', 0) s) → (kas_desc f p m 0).kasWp cmp Q s
  | 0, m, hm, h1, hs, hQ => hQ m (Nat.le_refl _) (by omega) hs
  | f + 1, m, hm, h1, hs, hQ => by
    refine hc _ _ (hp.bnd (by omega)) (hp.bnd (by omega)) _ ?_
    cases q : lt (gp p m) (gp p (m - 1)) with
    | true =>
      simp only [if_true, Nat.lt_irrefl, gt_iff_lt, if_false]
      refine desc_wp hp f (m + 1) (by omega) (by omega) (fun i j hij hj => ?_) fun m' h2 h3 h4 => hQ m' (by omega) h3 h4
      by_cases hjm : j < m
      · exact hs i j hij hjm
      · obtain rfl : j = m := by omega
        by_cases hi : i = j - 1
        · rw [hi]; exact q
        · exact htr _ _ _ (hp.bnd (by omega)) (hp.bnd (by omega)) (hp.bnd (by omega)) q (hs i (j - 1) (by omega) (by omega))
    | false =>
      simp only [Bool.false_eq_true, if_false]
      refine hc _ _ (hp.bnd (by omega)) (hp.bnd (by omega)) _ ?_
      have hl := htot _ _ (hp.bnd (by omega)) (hp.bnd (by omega)) (fun e => by have := hp.inj (by omega) (by omega) e; omega) q
      rw [hl]
      simp only [if_true]
      exact hQ m (Nat.le_refl _) (by omega) hs
theorem rev_SP {p : Array Nat} (hp : Gd0 n p) {m : Nat} (hm : m ≤ n) (hd : DP lt p m) : Gd0 n (kas_rev p 0 m) ∧ SP lt (kas_rev p 0 m) m := by
  have _ := htr
  have _ := htot
  have _ := hc
  refine ⟨hp.of_perm (mirror_perm _ _ _ _), fun i j hij hj => ?_⟩
  have e : ∀ k, k < m → gp (kas_rev p 0 m) k = gp p (m - 1 - k) := fun k hk => by
    rw [gp_eq, gp_eq]
    unfold kas_rev
    rw [getElem?_mirror_all (by rw [hp.size]; exact hm), if_pos ⟨Nat.zero_le _, hk⟩]
    congr 2
    omega
  rw [e i (by omega), e j hj]
  exact hd _ _ (by omega) (by omega)
theorem count_wp {p : Array Nat} (hp : Gd0 n p) (hn : 2 ≤ n) {Q : Nat × Array Nat → Shared → Prop} (hQ : ∀ m p', Gd0 n p' → 1 ≤ m → m ≤ n → SP lt p' m → Q (m, p') s) : (kas_count n p).kasWp cmp Q s := by
  unfold kas_count
  rw [KasT.kasWp_bind]
  refine asc_wp htr htot hc hp (n - 1) 1 (by omega) (Nat.le_refl _) (fun i j h1 h2 => by omega) fun m h1 h2 h3 h4 => ?_
  by_cases e1 : m = n
  · rw [if_pos (by simpa using e1)]
    exact hQ m p hp h1 h2 h3
  rw [if_neg (by simpa using e1)]
  by_cases e2 : m > 1
  · rw [if_pos e2]
    refine hc _ _ (hp.bnd (by omega)) (hp.bnd (by omega)) _ ?_
    rw [h3 0 (m - 1) (by omega) (by omega)]
    simp only [if_true]
    exact hQ m p hp h1 h2 h3
  rw [if_neg e2]
  obtain rfl : m = 1 := by omega
  have h5 := h4 (by omega) (by omega)
  unfold kas_descPart
  rw [KasT.kasWp_bind]
  refine desc_wp htr htot hc hp (n - 2) 2 (by omega) (by omega) (fun i j hij hj => ?_) fun m' g1 g2 g3 => ?_
  · obtain rfl : i = 0 := by omega
    obtain rfl : j = 1 := by omega
    exact h5
  · simp only [gt_iff_lt, Nat.lt_irrefl, if_false]
    obtain ⟨r1, r2⟩ := rev_SP htr htot hc hp g2 g3
    unfold kas_tail3
    rw [KasT.kasWp_bind]
    refine asc_wp htr htot hc r1 (n - m') m' (by omega) (by omega) r2 fun m'' k1 k2 k3 _ => ?_
    exact hQ m'' _ r1 (by omega) k2 k3
theorem place_wp {p : Array Nat} (hp : Gd0 n p) {k : Nat} (hk : k < n) {Q : Nat → Shared → Prop} (hQ : ∀ l, l ≤ k → (∀ i, i < l → lt (gp p i) (gp p k) = true) → (∀ i, l ≤ i → i < k → lt (gp p k) (gp p i) = true) → Q l s) :
    ∀ (f l r : Nat), SP lt p k → l ≤ r → r ≤ k → r - l ≤ f → (∀ i, i < l → lt (gp p i) (gp p k) = true) → (∀ i, r ≤ i → i < k → lt (gp p k) (gp p i) = true) → (kas_place p k f l r).kasWp cmp Q s
  | 0, l, r, hs, h1, h2, h3, h4, h5 => hQ l (by omega) h4 (fun i a b => h5 i (by omega) b)
  | f + 1, l, r, hs, h1, h2, h3, h4, h5 => by
    unfold kas_place
    by_cases e : l ≥ r
    · rw [if_pos e]
      exact hQ l (by omega) h4 (fun i a b => h5 i (by omega) b)
    rw [if_neg e]
    have hm : (l + r) / 2 < k := by omega
    refine hc _ _ (hp.bnd (by omega)) (hp.bnd (by omega)) _ ?_
    cases q : lt (gp p k) (gp p ((l + r) / 2)) with
    | true =>
      simp only [if_true]
      refine place_wp hp hk hQ f l ((l + r) / 2) hs (by omega) (by omega) (by omega) h4 fun i a b => ?_
      by_cases hi : i = (l + r) / 2
      · rw [hi]; exact q
      · exact htr _ _ _ (hp.bnd (by omega)) (hp.bnd (by omega)) (hp.bnd (by omega)) q (hs _ _ (by omega) b)
    | false =>
      simp only [Bool.false_eq_true, if_false]
      have hl := htot _ _ (hp.bnd (by omega)) (hp.bnd (by omega)) (fun e => by have := hp.inj (by omega) (by omega) e; omega) q
      refine place_wp hp hk hQ f ((l + r) / 2 + 1) r hs (by omega) h2 (by omega) (fun i a => ?_) h5
      by_cases hi : i = (l + r) / 2
      · rw [hi]; exact hl
      · exact htr _ _ _ (hp.bnd (by omega)) (hp.bnd (by omega)) (hp.bnd (by omega)) (hs i _ (by omega) (by omega)) hl
theorem bin_wp {Q : Array Nat → Shared → Prop} (hQ : ∀ p, Gd0 n p → SP lt p n → Q p s) : ∀ (f : Nat) (p : Array Nat) (k : Nat), Gd0 n p → k + f = n → SP lt p k → (kas_bin f p k).kasWp cmp Q s
  | 0, p, k, hp, hk, hs => hQ p hp (by have : k = n := by omega
                                       exact this ▸ hs)
  | f + 1, p, k, hp, hk, hs => by
    unfold kas_bin
    rw [KasT.kasWp_bind]
    refine place_wp htr htot hc hp (by omega) (fun l hl h1 h2 => ?_) k 0 k hs (Nat.zero_le _) (Nat.le_refl _) (by omega) (fun i h => by omega) (fun i a b => by omega)
    have hb : Gd0 n (bubble p k (k - l)) := hp.of_perm (bubble_perm _ _ _)
    have e : ∀ x, gp (bubble p k (k - l)) x = if x = l then gp p k else if l < x ∧ x ≤ k then gp p (x - 1) else gp p x := fun x => by
      rw [gp_eq, getElem?_bubble (by rw [hp.size]; omega) _ (by omega), show k - (k - l) = l by omega]
      split
      · rw [gp_eq]
      · split <;> rw [gp_eq]
    refine bin_wp hQ f _ (k + 1) hb (by omega) fun i j hij hj => ?_
    rw [e i, e j]
    by_cases a1 : i = l
    · rw [if_pos a1, if_neg (by omega), if_pos (by omega)]
      exact h2 _ (by omega) (by omega)
    rw [if_neg a1]
    by_cases a2 : l < i
    · rw [if_pos (by omega), if_neg (by omega), if_pos (by omega)]
      exact hs _ _ (by omega) (by omega)
    rw [if_neg (by omega)]
    by_cases a3 : j = l
    · rw [if_pos a3]; exact h1 _ (by omega)
    rw [if_neg a3]
    by_cases a4 : l < j
    · rw [if_pos (by omega)]
      by_cases a5 : i = j - 1
      · omega
      · exact hs _ _ (by omega) (by omega)
    · rw [if_neg (by omega)]; exact hs _ _ hij (by omega)
theorem sort_wp (hn : 2 ≤ n) {Q : Array Nat → Shared → Prop} (hQ : ∀ p, Gd0 n p → SP lt p n → Q p s) : (kas_sort n).kasWp cmp Q s := by
  unfold kas_sort
  rw [KasT.kasWp_bind]
  refine count_wp htr htot hc (by unfold Gd0; rw [List.toList_toArray]) hn fun m p hp h1 h2 h3 => ?_
  by_cases e : m < n
  · rw [if_pos e]
    have hm : max m 1 = m := by omega
    dsimp only
    rw [hm]
    exact bin_wp htr htot hc hQ _ p m hp (by omega) h3
  · rw [if_neg e]
    obtain rfl : m = n := by omega
    exact hQ p hp h3
end
end
-- KT
section
theorem reg_none_KT : True := by
  w_top off
  k_with_none
  trivial
theorem cps_ne {x y : Str} (h : x ≠ y) : x.cps.toList ≠ y.cps.toList := fun e => h (by
  cases x; cases y
  simp only [Str.mk.injEq]
  exact Array.toList_inj.mp e)
theorem nl_trans {a b c : List Nat} (h1 : a < b) (h2 : b < c) : a < c := List.lt_trans h1 h2
theorem nl_total {a b : List Nat} (h : a ≠ b) (h1 : ¬ a < b) : b < a := by
  rcases Std.lt_trichotomy a b with h2 | h2 | h2
  · exact absurd h2 h1
  · exact absurd h2 h
  · exact h2
theorem ltK_trans {a b c : Int × Str} (h1 : ltK a b = true) (h2 : ltK b c = true) : ltK a c = true := by
  unfold ltK at *
  by_cases e1 : a.1 = b.1
  · rw [if_pos e1] at h1
    by_cases e2 : b.1 = c.1
    · rw [if_pos e2] at h2
      rw [if_pos (e1.trans e2)]
      split at h1
      · cases h1
      · split at h2
        · cases h2
        · have := nl_trans (of_decide_eq_true h1) (of_decide_eq_true h2)
          rw [if_neg (fun e => by rw [e] at this; exact List.lt_irrefl _ this)]
          exact decide_eq_true this
    · rw [if_neg e2] at h2
      rw [if_neg (by rw [e1]; exact e2), e1]; exact h2
  · rw [if_neg e1] at h1
    have l1 := of_decide_eq_true h1
    by_cases e2 : b.1 = c.1
    · rw [if_neg (by rw [← e2]; exact e1), ← e2]; exact h1
    · rw [if_neg e2] at h2
      have l2 := of_decide_eq_true h2
      rw [if_neg (by omega)]
      exact decide_eq_true (by omega)
theorem ltK_total {a b : Int × Str} (hne : a ≠ b) (h1 : ltK a b = false) : ltK b a = true := by
  unfold ltK at *
  by_cases e1 : a.1 = b.1
  · rw [if_pos e1] at h1
    rw [if_pos e1.symm]
    by_cases e2 : a.2 = b.2
    · exact absurd (Prod.ext e1 e2) hne
    · rw [if_neg e2] at h1
      rw [if_neg (Ne.symm e2)]
      exact decide_eq_true (nl_total (cps_ne e2) (of_decide_eq_false h1))
  · rw [if_neg e1] at h1
    rw [if_neg (Ne.symm e1)]
    have := of_decide_eq_false h1
    exact decide_eq_true (by omega)
theorem ltK_irrefl {a : Int × Str} : ltK a a = false := by unfold ltK; simp
section
variable {prog : Program} {w : World} {A : Around} {E : Value → Shared → Prop} {s : Shared}
theorem lt_ask {x y : Value} {k1 k2 : Int × Str} {C : Bool → Shared → Prop} (hx : PairAt s.heap x k1) (hy : PairAt s.heap y k2) (h : C (ltK k1 k2) s) : wpAny (model prog w) A (keyLt' (tuples' true) x y) C E s := by
  obtain ⟨a, t1, u1, rfl, o, ho, hc, n, hd⟩ := hx
  obtain ⟨b, t2, u2, rfl, o2, ho2, hc2, n2, hd2⟩ := hy
  refine kat_lt ho hd ho2 hd2 ?_
  refine kat_cons (wpAny_eqBool_int ?_)
  unfold ltK at h
  by_cases e1 : k1.1 = k2.1
  · rw [beq_iff_eq.mpr e1]
    rw [if_pos e1] at h
    refine kat_yes (kat_cons (wpAny_eqBool_str ?_))
    by_cases e2 : k1.2 = k2.2
    · rw [decide_eq_true e2]
      rw [if_pos e2] at h
      exact kat_yes (kat_nil h)
    · rw [decide_eq_false e2]
      rw [if_neg e2] at h
      exact kat_no (kat_one _ _ (PyProof.Rows.lt_str h))
  · rw [beq_eq_false_iff_ne.mpr e1]
    rw [if_neg e1] at h
    exact kat_no (oneLt_int h)
theorem tups_of {h : Heap} {key : Value → Int × Str} : ∀ {vs : List Value}, (∀ v ∈ vs, PairAt h v (key v)) → ∃ fs, KatTups h vs fs ∧ fs.length = vs.length ∧ ∀ f ∈ fs, ∃ k t, f = Value.int k t
  | [], _ => ⟨[], KatTups.nil, rfl, fun _ h => nomatch h⟩
  | v :: vs, hp => by
    obtain ⟨fs, h1, h2, h3⟩ := tups_of (vs := vs) fun x hx => hp x (.tail _ hx)
    obtain ⟨a, t, u, rfl, o, ho, hc, n, hd⟩ := hp v (.head _)
    refine ⟨.int _ t :: fs, KatTups.cons ho hc hd rfl h1, by simp [h2], fun f hf => ?_⟩
    rcases List.mem_cons.mp hf with rfl | hf
    · exact ⟨_, _, rfl⟩
    · exact h3 f hf
theorem out_perm {vs : List Value} {p : Array Nat} (hp : Gd0 vs.length p) : (p.toList.map fun i => vs.getD i Value.none).Perm vs := by
  refine (hp.map _).trans ?_
  have : (List.range vs.length).map (fun i => vs.getD i Value.none) = vs := by
    apply List.ext_getElem
    · simp
    · intro i h1 h2
      simp [List.getD_eq_getElem?_getD, h2]
  rw [this]
theorem out_sorted {vs : List Value} {p : Array Nat} {R : Value → Value → Bool} (hp : Gd0 vs.length p) (hs : SP (fun i j => R (vs.getD i .none) (vs.getD j .none)) p vs.length) : (p.toList.map fun i => vs.getD i Value.none).Pairwise fun a b => R a b = true := by
  rw [List.pairwise_map, List.pairwise_iff_getElem]
  intro i j hi hj hij
  have hz := hp.size
  have h1 : i < p.size := by simpa using hi
  have h2 : j < p.size := by simpa using hj
  have := hs i j hij (by omega)
  rw [gp_eq, gp_eq, Array.getElem?_eq_getElem h1, Array.getElem?_eq_getElem h2] at this
  simpa using this
end
section
variable {prog : Program} {w : World} {A : Around} {E : Value → Shared → Prop} {s : Shared} {h₀ : Heap} {L : Addr} {m : Str → Option Value} {news : List (Addr × Obj)}
theorem sorted_big {key : Value → Int × Str} {l : Addr} {vs : List Value} {Q : Value → Shared → Prop} (F : Fr h₀ L s.heap m) (N : News h₀ L s.heap news) (hl : s.heap.IsList l vs.toArray) (h2 : 2 ≤ vs.length) (h64 : vs.length < 64)
    (hp : ∀ h', News h₀ L h' news → ∀ v ∈ vs, PairAt h' v (key v)) (hnd : (vs.map key).Nodup)
    (h : ∀ D S c h', Fr h₀ L h' m → News h₀ L h' ((D, W.listOf (S : List Value).toArray c) :: news) → (∀ q ∈ news, q.1 < D) → S.Perm vs → S.Pairwise (fun a b => ltK (key a) (key b) = true) → Q (.ref D) { s with heap := h' }) :
    wpAny (model prog w) A (call (.builtin "sorted") [.ref l]) Q E s := by
  refine kat_sorted F N hl h2 h64 fun D e1 h' F' N' l1 => ?_
  have hpp := hp h' (fun p hp => N' p (.tail _ hp))
  obtain ⟨fs, t1, t2, t3⟩ := tups_of hpp
  refine kat_kind (T := .type "int") t1 (by omega) (fun v hv => ?_) (by decide) ?_
  · obtain ⟨k, t, rfl⟩ := t3 v hv
    exact Looks.of_pure rfl
  have hb : (Value.type "int" != Value.type "tuple") = true := by decide
  rw [hb]
  have hat : ∀ i, i < vs.length → vs.getD i .none ∈ vs := fun i hi => by
    rw [List.getD_eq_getElem?_getD, List.getElem?_eq_getElem hi]; exact List.getElem_mem hi
  have hinj : ∀ i j, i < vs.length → j < vs.length → i ≠ j → key (vs.getD i .none) ≠ key (vs.getD j .none) := fun i j hi hj hij e => by
    have hpw := List.pairwise_iff_getElem.mp hnd
    have e2 : (vs.map key)[i]'(by simpa using hi) = (vs.map key)[j]'(by simpa using hj) := by
      simpa [List.getD_eq_getElem?_getD, hi, hj] using e
    rcases Nat.lt_or_gt_of_ne hij with q | q
    · exact hpw i j (by simpa using hi) (by simpa using hj) q e2
    · exact hpw j i (by simpa using hj) (by simpa using hi) q e2.symm
  refine sort_wp (lt := fun i j => ltK (key (vs.getD i .none)) (key (vs.getD j .none))) (fun i j k _ _ _ h1 h2 => ltK_trans h1 h2) (fun i j hi hj hij h1 => ltK_total (hinj i j hi hj hij) h1) (fun i j hi hj C hC => lt_ask (hpp _ (hat i hi)) (hpp _ (hat j hj)) hC) h2 fun p hg hs => ?_
  exact KasFin.intro (g := fun o' => (D, o') :: news) F' N' (UpdF.head (fun p hq => Nat.ne_of_lt (l1 p hq))) (fun h'' c F'' N'' => h D _ c h'' F'' N'' l1 (out_perm hg) (out_sorted (R := fun a b => ltK (key a) (key b)) hg hs))
theorem sorted_few {l : Addr} {vs : List Value} {Q : Value → Shared → Prop} (F : Fr h₀ L s.heap m) (N : News h₀ L s.heap news) (hl : s.heap.IsList l vs.toArray) (h2 : vs.length < 2)
    (h : ∀ D c h', Fr h₀ L h' m → News h₀ L h' ((D, W.listOf vs.toArray c) :: news) → (∀ q ∈ news, q.1 < D) → Q (.ref D) { s with heap := h' }) :
    wpAny (model prog w) A (call (.builtin "sorted") [.ref l]) Q E s := by
  refine Calls.call_function_entry kind_sorted plain_sorted entry_sorted (args_sorted1 _) ?_
  unfold Builtin.«sorted»
  refine wpAny_bind (m := checkCount "sorted" 1 1 _) (wpAny_pure ?_)
  refine wpAny_bind (collect_list hl ?_ (by rw [sizeLine_eq]; omega))
  refine wpAny_bind (wpAny_newList ?_ (by rw [sizeLine_eq]; omega))
  have hsz : ((s.heap.push (seqObj "list" #[] 0)).update s.heap.objs.size (Obj.mapSeq (· ++ vs.toArray))).objs.size = s.heap.objs.size + 1 := by
    rw [Heap.size_update, size_push']
  have hoL : (((s.heap.push (seqObj "list" #[] 0)).update s.heap.objs.size (Obj.mapSeq (· ++ vs.toArray))).push (seqObj "list" vs.toArray 0)).get? (s.heap.objs.size + 1) = some (seqObj "list" vs.toArray 0) := by
    rw [← hsz]; exact Heap.get?_push_size _ rfl
  have keep : ∀ b o, s.heap.get? b = some o → (((s.heap.push (seqObj "list" #[] 0)).update s.heap.objs.size (Obj.mapSeq (· ++ vs.toArray))).push (seqObj "list" vs.toArray 0)).get? b = some o := fun b o q => by
    have hlt : b < s.heap.objs.size := Heap.lt_size q
    rw [Heap.get?_push_ne _ _ _ (by rw [hsz]; exact Nat.ne_of_lt (Nat.lt_succ_of_lt hlt)), Heap.get?_update_ne _ _ _ _ (Nat.ne_of_lt hlt), Heap.get?_push_ne _ _ _ (Nat.ne_of_lt hlt)]
    exact q
  have hL : L < s.heap.objs.size := F.ns.lt
  show wpAny _ _ _ _ _ { s with heap := ((s.heap.push (seqObj "list" #[] 0)).update s.heap.objs.size (Obj.mapSeq (· ++ vs.toArray))).push (seqObj "list" vs.toArray 0) }
  rw [hsz]
  generalize hH : ((s.heap.push (seqObj "list" #[] 0)).update s.heap.objs.size (Obj.mapSeq (· ++ vs.toArray))).push (seqObj "list" vs.toArray 0) = H at hoL keep
  have FH : Fr h₀ L H m := F.kept keep
  have NH : News h₀ L H news := N.grown keep
  have haL : s.heap.objs.size + 1 ≠ L := Nat.ne_of_gt (Nat.lt_succ_of_lt hL)
  have ha0 : h₀.get? (s.heap.objs.size + 1) = none := Heap.get?_none_of_le (Nat.le_trans F.above (Nat.le_succ_of_le (Nat.le_of_lt hL)))
  have hna : ∀ p ∈ news, p.1 < s.heap.objs.size + 1 := fun p hp => Nat.lt_succ_of_lt (Heap.lt_size (N p hp).1)
  generalize hA : s.heap.objs.size + 1 = a at hoL haL ha0 hna
  refine wpAny_bind (wpAny_holding (wpAny_call_entry slot_list_sort ⟨_, hoL, rfl⟩ entry_list_sort ?body (args_list_sort _)))
  case body =>
    have ha : a < H.objs.size := Heap.lt_size hoL
    have s1 := Heap.SameBut.update H a (Obj.mapSeq fun _ => (#[] : Array Value))
    obtain ⟨e1, ho1⟩ : ∃ e1, (H.update a (Obj.mapSeq fun _ => (#[] : Array Value))).get? a = some (seqObj "list" #[] e1) := ⟨_, get?_update_seq hoL fun _ => #[]⟩
    have F3 : Fr h₀ L (((H.update a (Obj.mapSeq fun _ => (#[] : Array Value))).push (seqObj "tuple" vs.toArray 0)).push (seqObj "list" #[] 0)) m := ((kas_fr FH s1 haL ha0).push _).push _
    have N2 : News h₀ L (((H.update a (Obj.mapSeq fun _ => (#[] : Array Value))).push (seqObj "tuple" vs.toArray 0)).push (seqObj "list" #[] 0)) news :=
      (kas_news NH s1 fun p hp => Nat.ne_of_lt (hna p hp)).grown fun b x e => Heap.get?_push_of_some _ (Heap.get?_push_of_some _ e)
    have ho6 : (((H.update a (Obj.mapSeq fun _ => (#[] : Array Value))).push (seqObj "tuple" vs.toArray 0)).push (seqObj "list" #[] 0)).get? a = some (seqObj "list" #[] e1) := Heap.get?_push_of_some _ (Heap.get?_push_of_some _ ho1)
    rw [list_sort_plain]
    refine wpAny_bind (listItems_at hoL rfl ?_)
    refine wpAny_bind (listUpdate_at hoL rfl ?_ (by rw [List.size_toArray, sizeLine_eq]; omega) (Nat.zero_le _))
    refine wpAny_bind (seqEpoch_at ho1 rfl ?_)
    refine wpAny_bind (wpAny_newTuple ?_ (by show vs.length ≤ _; rw [sizeLine_eq]; omega))
    refine wpAny_bind (wpAny_newList ?_ (Nat.zero_le _))
    refine wpAny_holding ?_
    show wpAny (model prog w) _ _ _ _ { s with heap := ((H.update a (Obj.mapSeq fun _ => (#[] : Array Value))).push (seqObj "tuple" vs.toArray 0)).push (seqObj "list" #[] 0) }
    dsimp only
    have hn2 : vs.toArray.size < 2 := by rw [List.size_toArray]; exact h2
    rw [if_pos hn2, if_pos hn2]
    refine wpAny_bind (wpAny_pure ?_)
    rw [StateT.run_pure]
    refine wpAny_bind (wpAny_pure ?_)
    dsimp only
    have hout : (arrOf (SortSt.mk' general' (vs.toArray.zip vs.toArray) #[] 7 none)).map (·.2) = vs.toArray := by
      show (vs.toArray.zip vs.toArray).map (·.2) = vs.toArray
      apply Array.toList_inj.mp
      rw [Array.toList_map, Array.toList_zip]
      exact List.map_snd_zip (Nat.le_refl _)
    rw [hout]
    refine wpAny_bind (seqEpoch_at ho6 rfl ?_)
    refine wpAny_bind (listUpdate_at ho6 rfl ?_ (Nat.zero_le _) (by rw [List.size_toArray, sizeLine_eq]; omega))
    simp only [bne_self_eq_false, Bool.false_eq_true, if_false]
    have s2 := Heap.SameBut.update (((H.update a (Obj.mapSeq fun _ => (#[] : Array Value))).push (seqObj "tuple" vs.toArray 0)).push (seqObj "list" #[] 0)) a (Obj.mapSeq fun _ => vs.toArray)
    obtain ⟨c2, hc2⟩ : ∃ c2, ((((H.update a (Obj.mapSeq fun _ => (#[] : Array Value))).push (seqObj "tuple" vs.toArray 0)).push (seqObj "list" #[] 0)).update a (Obj.mapSeq fun _ => vs.toArray)).get? a = some (seqObj "list" vs.toArray c2) := ⟨_, get?_update_seq ho6 fun _ => vs.toArray⟩
    refine wpAny_pure ⟨_, rfl, wpAny_pure ⟨_, rfl, h a c2 _ (kas_fr F3 s2 haL ha0) (fun p hp => ?_) hna⟩⟩
    rcases List.mem_cons.mp hp with rfl | hp
    · exact ⟨hc2, haL, ha0⟩
    · exact (kas_news N2 s2 fun p hp => Nat.ne_of_lt (hna p hp)) p hp
theorem sorted_led {key : Value → Int × Str} {l : Addr} {vs : List Value} {Q : Value → Shared → Prop} (F : Fr h₀ L s.heap m) (N : News h₀ L s.heap news) (hl : s.heap.IsList l vs.toArray) (h64 : vs.length < 64)
    (hp : ∀ h', News h₀ L h' news → ∀ v ∈ vs, PairAt h' v (key v)) (hnd : (vs.map key).Nodup)
    (h : ∀ D S c h', Fr h₀ L h' m → News h₀ L h' ((D, W.listOf (S : List Value).toArray c) :: news) → (∀ q ∈ news, q.1 < D) → S.Perm vs → S.Pairwise (fun a b => ltK (key a) (key b) = true) → Q (.ref D) { s with heap := h' }) :
    wpAny (model prog w) A (call (.builtin "sorted") [.ref l]) Q E s := by
  by_cases h2 : vs.length < 2
  · refine sorted_few F N hl h2 fun D c h' F' N' l1 => h D vs c h' F' N' l1 (.refl _) ?_
    match vs, h2 with
    | [], _ => exact .nil
    | [v], _ => exact List.pairwise_singleton _ _
    | _ :: _ :: _, h2 => simp at h2; omega
  · exact sorted_big F N hl (by omega) h64 hp hnd h
end
end
-- LP
section
theorem reg_none_LP : True := by
  w_top off
  k_with_none
  trivial
theorem reg_hdr_LP_1 : True := by
  k_with_none
  k_with "mine enter" => (refine wpAny_call ?_; k_dflt (refine' enterM ?k1 ?k2 ?k3 ?k4 ?k5 ?kA ?kF ?kK ?k6 ?k7 ?k8 ?k9 ?kB ?_ ?c2 ?c3 ?c4 ?c5; (case kA => exact rfl); (case kF => exact rfl); (case kK => exact rfl); (case k1 => k_asm); (case k2 => k_asm); (case k3 => k_asm); (case k4 => first | k_asm | exact News.nil); (case k5 => k_asm); (case k6 => k_is); (case k7 => k_is); (case k8 => ktr_room); (case k9 => exact BindsTo.of_eq rfl); (case c5 => decide); (case kB => exact locs rfl); (case c2 => exact rfl); (case c3 => exact rfl); (case c4 => exact rfl); k_whole); intro g' L' h' G' FG' F' N' B' X' T'; (try dsimp only); (try k_fold))
  k_with "mine back" => (intro h' tk' K'; (have F' := keep_fr (by k_asm) K'); (have N' := keep_news (by k_asm) K'); clear K'; (try dsimp only); (try k_sweep))
  k_with "mine args" => ((case k1 => k_asm); (case k2 => k_asm); (case k3 => k_asm); (case k4 => k_asm); (case kd => ktr_room); (case ku => ktr_units))
  k_with "mine enterC" => (refine wpAny_call ?_; k_dflt (refine' enterMC ?k1 ?k2 ?k3 ?k4 ?k5 ?kA ?kF ?kK ?k6 ?k7 ?k8 ?k9 ?kB ?kD ?_ ?c2 ?c3 ?c4; (case kA => exact rfl); (case kF => exact rfl); (case kK => exact rfl); (case k1 => k_asm); (case k2 => k_asm); (case k3 => k_asm); (case k4 => first | k_asm | exact News.nil); (case k5 => k_asm); (case k6 => k_is); (case k7 => k_is); (case k8 => ktr_room); (case k9 => exact BindsTo.of_eq rfl); (case kB => exact rfl); (case kD => decide +kernel); (case c2 => exact rfl); (case c3 => exact rfl); (case c4 => exact rfl); k_whole); intro g' L' h' tk' cells' G' FG' F' N' Y' B' X' T' l1; (try k_lt l1); k_cells Y'; (try simp only [List.cons_append, List.nil_append] at N'); (try dsimp only); (try k_fold))
  k_with "mine steps" => repeat' (first | (k_unfold; (try dsimp only)) | walk1 | (dsimp only; walk1) | (leave1; (try dsimp only)))
  trivial
theorem reg_hdr_LP_2 : True := by
  k_with "k_ne" => (refine neN ?_; (try dsimp only); first | with_reducible assumption | exact Ne.symm (by with_reducible assumption))
  k_with "FinE" => ((unfold LCg.FinE); intro D' h' tk' F' N' o1'; (try dsimp only [LCg.Off1] at o1'); (repeat (have h9' := o1'.1; replace o1' := o1'.2)); (try clear o1'); (try simp only [List.nil_append, List.cons_append] at N'); (try dsimp only))
  k_with "FinA" => ((unfold LCg.FinA); intro D' h' tk' F' N' o1'; (try dsimp only [LCg.Off1] at o1'); (repeat (have h9' := o1'.1; replace o1' := o1'.2)); (try clear o1'); (try simp only [List.nil_append, List.cons_append] at N'); (try dsimp only))
  k_with "CompRest" => (with_unfolding_all first | (refine LCg.CompRest.succ ?_; intro v' I' oI' C' oC' D' m' h' tk' E' hv' hC' hx' F' N' off' ne'; (first | lcg_open hv' | (obtain ⟨t9', hv9'⟩ := hv'; subst hv9')); (try dsimp only [LCg.Off3] at off'); (have h9' := ne'.1; have h9' := ne'.2.1; have h9' := ne'.2.2; clear ne'); (repeat (have h9' := off'.1.1; have h9' := off'.1.2.1; have h9' := off'.1.2.2; replace off' := off'.2)); (try clear off')) | refine LCg.CompRest.zero ?_)
  trivial

theorem getD_memS {P : List Str} {i : Nat} (hi : i < P.length) : P.getD i (Str.ofString "") ∈ P := by
  rw [List.getD_eq_getElem?_getD, List.getElem?_eq_getElem hi]; exact List.getElem_mem hi
theorem str_at {vs : List Value} {P : List Str} {i : Nat} {v : Value} (hs : StrsOf vs P) (hv : vs.toArray[i]? = some v) (hi : i < P.length) : ∃ t, v = .str (P.getD i (Str.ofString "")) t := by
  obtain ⟨t, e⟩ := hs.getD hi
  have h1 : vs[i]? = some v := by simpa using hv
  rw [List.getD_eq_getElem?_getD, h1] at e
  exact ⟨t, e⟩
/-- the common path of two -/
noncomputable def cpT (x y : Str) : Str := Str.ofString "/" ++ Txt.join (Str.ofString "/") (lcpL (compsOf x) (compsOf y))
noncomputable def upT (r : Int) (x : Str) : Str := if r = 1 then dirT x else dirT (dirT x)
theorem upT_mem {P : List Str} {r : Int} {x : Str} (hdir : ∀ x ∈ P, dirT x ∈ P) (hx : x ∈ P) : upT r x ∈ P := by
  unfold upT; split
  · exact hdir _ hx
  · exact hdir _ (hdir _ hx)
noncomputable def nearB (dep : Str → Int) (r : Int) (post p : Str) : Bool := decide (dep p + dep post - 2 * dep (cpT p post) ≤ r)
/-- the turns of the law's loop -/
inductive Go (key : Value → Int × Str) (dep : Str → Int) (r : Int) (P : List Str) : Nat → List Value → List Value → List Str → List Str → List Value → List Value → List Str → Prop
  | done {n : Nat} {hs os : List Value} {ps : List Str} : Go key dep r P n hs os ps [] hs os ps
  | skip {n : Nat} {hs hs' os H O : List Value} {v : Value} {ps rs R : List Str} : rs ≠ [] → (∀ x ∈ rs, x ∈ P) → rs.length ≤ 8 → popK key hs = some (v, hs') → ¬ (key v).2 ∈ rs → Go key dep r P n hs' (os ++ [v]) ps rs H O R → Go key dep r P (n + 1) hs os ps rs H O R
  | take {n : Nat} {hs hs' os H O : List Value} {v : Value} {ps rs M R : List Str} : rs ≠ [] → (∀ x ∈ rs, x ∈ P) → rs.length ≤ 8 → popK key hs = some (v, hs') → (key v).2 ∈ rs → uld rs.reverse [] (rs.filter (nearB dep r (upT r (key v).2))) = (M, []) →
      Go key dep r P n hs' (os ++ [v]) (ps ++ [upT r (key v).2]) M H O R → Go key dep r P (n + 1) hs os ps rs H O R
theorem Made1.introE {h₀ h' : Heap} {L : Addr} {m : Str → Option Value} {s : Shared} {news news' : List (Addr × Obj)} {G : Obj → Prop} {a : Addr} {o : Obj} {tk' : Nat} (e : news = news') (F : Fr h₀ L h' m) (N : News h₀ L h' ((a, o) :: news')) (hne : ∀ p ∈ news', p.1 ≠ a) (hG : G o) :
    Made1 h₀ L m s news G (.ref a) { s with heap := h', toks := tk' } := by subst e; exact ⟨h', tk', a, o, rfl, rfl, F, N, hne, hG⟩
theorem nameO {g h : Heap} {L x3 x5 : Addr} {y3 y5 : Obj} {a b c d x1 x2 x4 : Addr × Obj} {r : List (Addr × Obj)} {G : Prop} (_N : News g L h (a :: b :: c :: d :: x1 :: x2 :: (x3, y3) :: x4 :: (x5, y5) :: r)) (k : ∀ z3 z5, z3 = y3 → z5 = y5 → G) : G := k y3 y5 rfl rfl
theorem name5 {g h : Heap} {L a b c d e : Addr} {oa ob oc od oe : Obj} {r : List (Addr × Obj)} {G : Prop} (_N : News g L h ((a, oa) :: (b, ob) :: (c, oc) :: (d, od) :: (e, oe) :: r)) (k : ∀ a' b' c' d' e', a' = a → b' = b → c' = c → d' = d → e' = e → G) : G := k a b c d e rfl rfl rfl rfl rfl
/-- the ledger between the turns of the loop that fills the heap -/
noncomputable def PuP (key : Value → Int × Str) (ys : List Value) (Dr Dp Do Dh : Addr) (oR oP oO : Obj) (Λ : List (Addr × Obj)) (i : Nat) (news : List (Addr × Obj)) : Prop :=
  ∃ n, news = (Dr, oR) :: (Dp, oP) :: (Do, oO) :: (Dh, W.listOf ((ys.take i).foldl (pushK key) []).toArray n) :: Λ
theorem map_getD {P : List Str} {n : Nat} {β : Type} {f : Str → β} (hP : P.length = n) : (List.range n).map (fun i => f (P.getD i (Str.ofString ""))) = P.map f := by
  subst hP
  apply List.ext_getElem
  · simp
  · intro i h1 h2
    have hi : i < P.length := by simpa using h2
    simp [List.getD_eq_getElem?_getD, hi]
/-- the law's last test -/
noncomputable def EndOk (key : Value → Int × Str) (vs H O : List Value) : Prop := (vs.map key).Nodup ∧ (H.map key).Nodup ∧ ∀ S T : List Value, S.Perm H → S.Pairwise (fun a b => ltK (key a) (key b) = true) → T.Perm vs → T.Pairwise (fun a b => ltK (key a) (key b) = true) → O ++ S = T
theorem pre4 {a b c d D : Addr} {oa ob oc od : Obj} (h1 : @Ne Nat a D) (h2 : @Ne Nat b D) (h3 : @Ne Nat c D) (h4 : @Ne Nat d D) : ∀ p ∈ [(a, oa), (b, ob), (c, oc), (d, od)], p.1 ≠ D := fun p hp => by
  rcases List.mem_cons.mp hp with rfl | hp
  · exact h1
  rcases List.mem_cons.mp hp with rfl | hp
  · exact h2
  rcases List.mem_cons.mp hp with rfl | hp
  · exact h3
  · rw [List.mem_singleton.mp hp]; exact h4
theorem push_mem {key : Value → Int × Str} : ∀ (l hs : List Value), ∀ x ∈ l.foldl (pushK key) hs, x ∈ hs ∨ x ∈ l
  | [], _, _, h => .inl h
  | v :: l, hs, x, h => by
    rcases push_mem l (pushK key hs v) x h with h | h
    · rcases pushK_mem h with h | h
      · exact .inl h
      · rw [h]; exact .inr (.head _)
    · exact .inr (.tail _ h)
theorem push_len {key : Value → Int × Str} : ∀ (l hs : List Value), (l.foldl (pushK key) hs).length = hs.length + l.length
  | [], _ => rfl
  | v :: l, hs => by rw [List.foldl_cons, push_len l, pushK_length, List.length_cons]; omega
theorem push_succ {key : Value → Int × Str} {ys : List Value} {i : Nat} (hi : i < ys.length) : (ys.take (i + 1)).foldl (pushK key) [] = pushK key ((ys.take i).foldl (pushK key) []) (ys.getD i .none) := by
  rw [List.take_succ_eq_append_getElem hi, List.foldl_append, List.getD_eq_getElem?_getD, List.getElem?_eq_getElem hi]; rfl
theorem reg_lp : True := by
  k_with "call ref" => (k_here; (with_reducible show wpAny _ _ (call (Value.ref 28) [Value.ref _, _]) _ _ _); k_dflt (refine' heappush_c (key := keyOf rs) ?k1 ?k2 ?k3 ?k4 ?zc1 ?zc2 ?zc3 ?zc4 ?zc5 ?zc6 ?kd ?ku ?_; (case k1 => k_asm); (case k2 => k_asm); (case k3 => k_asm); (case k4 => k_asm); (case zc1 => exact News.get N' (.tail _ (.tail _ (.tail _ (.tail _ (.head _)))))); (case zc2 => exact News.fresh N' (.tail _ (.tail _ (.tail _ (.tail _ (.head _)))))); (case zc3 => exact (N' _ (.tail _ (.tail _ (.tail _ (.tail _ (.head _)))))).2.1); (case zc4 => exact hall9); (case zc5 => exact hv9); (case zc6 => exact hlen9); (case kd => ktr_room); (case ku => ktr_units)); intro n' h' tk' K' D'; (have F' := fr_set (pre := [(I, oI), (Dr, _), (Dp, _), (Do, _)]) (by k_asm) N' K'); (have N' := led_set (pre := [(I, oI), (Dr, _), (Dp, _), (Do, _)]) N' (pre4 (Ne.symm hI9) nDr nDp nDo) hlp K' D'); clear K' D'; (try k_sweep))
  k_with "exec Assign cons ListComp" => (k_here; (with_reducible show wpAny _ _ (exec (Stmt.Assign _ (Expr.ListComp _ [⟨_, _, [], _⟩] _ _) _) _) _ _ _); k_dflt (refine LCg.Assign_ListComp_U (by k_asm) (by rfl) (by with_unfolding_all rfl) (by rfl) (by decide) (by rfl) (by decide) (by rfl) (by rfl) (by rfl) ?_))
  k_with "subscriptTail" => (k_here; (with_reducible show wpAny _ _ (subscriptTail _ _ (Value.ref _) (Value.str _ _)) _ _ _); k_dflt (refine' kda_item (knd := PySem.strKind _ _) ?zi1 ?zi2 ?zi3 (strKind_is _ _ _ _) ?zi4 ?_; (case zi1 => k_asm); (case zi2 => k_mem); (case zi3 => assumption); (case zi4 => assumption)))
  k_with "call ref" => (k_here; (with_reducible show wpAny _ _ (call (Value.ref 176) [Value.ref _]) _ _ _); k_dflt (refine' depths_c ?k1 ?k2 ?k3 ?k4 ?za hs hP hlen hok ?kd ?ku ?_; (case za => exact IsList.up hl' (by k_asm)); walk_at "mine args"); intro Dd oD kvs h' tk' K' hdp hdo hDg hDn; (obtain ⟨N', hneD⟩ := news_new (by k_asm) (by k_asm) K' hDg hDn); (have F' := keep_fr (by k_asm) K'); clear K'; (try dsimp only); (try k_sweep))
  trivial
section
variable {w : World} {mean : ExcName → Option Value} {mg mb : Str → Option Value}
 {dp un : Nat} {gd : Option (List Code)} {cn : Str} {sn : List (Str × NameKind)} {sg sc : Bool} {sm : List (Str × Const)} {a : Addr} {ccd : Value} {cl : List (Str × Addr)} {outer : List Env} {A₀ : Around} {base h₀ : Heap} {L : Addr} {m : Str → Option Value} {s : Shared}
    {Q E : Value → Shared → Prop} (B : Below A₀ base outer h₀) (F : Fr h₀ L s.heap m) (X : (Mine.hd.heap_39 w.params).In h₀) (T : Top Mine.hd.view_39 (looseW Mine.hd.view_39 []) mean mg mb h₀)
include B F X T

theorem heappop_K {key : Value → Int × Str} {hs hs' : List Value} {v : Value} {n : Nat} {D : Addr} (hD : s.heap.get? D = some (W.listOf hs.toArray n)) (hh : h₀.get? D = none) (hL : D ≠ L) (hall : ∀ x ∈ hs, PairAt s.heap x (key x)) (hlen : hs.length ≤ 1000) (hpop : popK key hs = some (v, hs'))
    (hd : dp + 5 < recursionLimit) (hu : un + 80 < cLine) (hret : ∀ n' h' tk', But [D] s.heap h' → h'.get? D = some (W.listOf hs'.toArray n') → Q v {s with heap := h', toks := tk'}) :
    wpAny (model Challenge.rw_pd0139_01.row.prog w) (ktrTop dp un gd cn ⟨.function, sn, sg, sc, sm⟩ L a ccd cl outer) (call (.ref 35) [.ref D]) Q E s := by
  obtain ⟨ws, y, rfl, ⟨rfl, rfl, rfl⟩ | ⟨hw, rfl, vs', k, hsu, rfl⟩⟩ := popK_some hpop
  · exact heappop_1 B F X T hD hh hL hd hu hret
  · exact heappop_c B F X T hD hh hL (fun x hx => hall x (List.mem_append_left _ hx)) (hall y (List.mem_append_right _ (.head _))) (by rw [List.length_append] at hlen; omega) (by cases ws with | nil => exact absurd rfl hw | cons a b => rfl) hsu hd hu hret
theorem raised_c {x : Str} {tk t2 : Tok} {r : Int} (hr : r = 1 ∨ r = 2) (hx : x.length ≤ 100) (hx2 : (dirT x).length ≤ 100)
    (hd : dp + 5 < recursionLimit) (hu : un + 80 < cLine) (hret : ∀ t h' tk', (∀ b o, s.heap.get? b = some o → h'.get? b = some o) → Q (.str (upT r x) t) {s with heap := h', toks := tk'}) :
    wpAny (model Challenge.rw_pd0139_01.row.prog w) (ktrTop dp un gd cn ⟨.function, sn, sg, sc, sm⟩ L a ccd cl outer) (call (.ref 183) [.str x tk, .int r t2]) Q E s := by
  rcases hr with rfl | rfl
  · exact raised1_c B F X T hx hd hu hret
  · exact raised2_c B F X T hx hx2 hd hu hret
end
theorem Go.inv {key : Value → Int × Str} {dep : Str → Int} {r : Int} {P : List Str} {n : Nat} {hs os H O : List Value} {ps rr R : List Str} (h : Go key dep r P n hs os ps rr H O R) :
    (rr = [] ∧ hs = H ∧ os = O ∧ ps = R) ∨ ∃ n' v hs', n = n' + 1 ∧ rr ≠ [] ∧ (∀ x ∈ rr, x ∈ P) ∧ rr.length ≤ 8 ∧ popK key hs = some (v, hs') ∧
      ((¬ (key v).2 ∈ rr ∧ Go key dep r P n' hs' (os ++ [v]) ps rr H O R) ∨ ((key v).2 ∈ rr ∧ ∃ M, uld rr.reverse [] (rr.filter (nearB dep r (upT r (key v).2))) = (M, []) ∧ Go key dep r P n' hs' (os ++ [v]) (ps ++ [upT r (key v).2]) M H O R)) := by
  cases h with
  | done => exact .inl ⟨rfl, rfl, rfl, rfl⟩
  | skip h1 h2 h3 h4 h5 h6 => exact .inr ⟨_, _, _, rfl, h1, h2, h3, h4, .inl ⟨h5, h6⟩⟩
  | take h1 h2 h3 h4 h5 h6 h7 => exact .inr ⟨_, _, _, rfl, h1, h2, h3, h4, .inr ⟨h5, _, h6, h7⟩⟩
/-- what holds between the turns of the law's while -/
noncomputable def WhP (key : Value → Int × Str) (dep : Str → Int) (r : Int) (P PS : List Str) (H O : List Value) (rs : List (Addr × Obj)) (ys : List Value) (Dp Do Dh Di Dd cP cD cR : Addr) (oD oc oR : Obj) (m : Str → Option Value) (n : Nat) (m₁ : Str → Option Value) (news : List (Addr × Obj)) : Prop :=
  ∃ (hs os : List Value) (ps rr : List Str) (wr wp : List Value) (Dr : Addr) (oP : Obj) (nh no np nr : Nat) (A B C : Option Value) (cv : Option Value),
    news = (Dr, W.listOf wr.toArray nr) :: (Dp, W.listOf wp.toArray np) :: (Do, W.listOf os.toArray no) :: (Dh, W.listOf hs.toArray nh) :: (Di, LCg.lst ys) :: (Dd, oD) :: (cP, oP) :: (cD, oc) :: (cR, oR) :: rs ∧
    StrsOf wr rr ∧ StrsOf wp ps ∧ oP.data = .cell cv ∧ Go key dep r P n hs os ps rr H O PS ∧ (∀ x ∈ hs, x ∈ ys) ∧ (∀ x ∈ os, x ∈ ys) ∧ os.length + hs.length ≤ 8 ∧ ps.length ≤ os.length ∧
    (@Ne Nat Dr Dp ∧ @Ne Nat Dr Do ∧ @Ne Nat Dr Dh ∧ ∀ p ∈ (Di, LCg.lst ys) :: (Dd, oD) :: (cP, oP) :: (cD, oc) :: (cR, oR) :: rs, @Ne Nat p.1 Dr) ∧
    m₁ = fun y => if y = Str.ofString "rest" then some (.ref Dr) else if y = Str.ofString "lowest" then A else if y = Str.ofString "near" then B else if y = Str.ofString "strange" then C else m y
/-- in and out of WhP by one step each: nested constructors and destructors repeat the goal, which costs much in the compiled file -/
theorem WhP.mk {key : Value → Int × Str} {dep : Str → Int} {r : Int} {P PS : List Str} {H O : List Value} {rs : List (Addr × Obj)} {ys : List Value} {Dp Do Dh Di Dd cP cD cR : Addr} {oD oc oR : Obj} {m : Str → Option Value} {n : Nat} {m₁ : Str → Option Value} {news : List (Addr × Obj)}
    (hs os : List Value) (ps rr : List Str) (wr wp : List Value) (Dr : Addr) (oP : Obj) (nh no np nr : Nat) (A B C : Option Value) (cv : Option Value)
    (e : news = (Dr, W.listOf wr.toArray nr) :: (Dp, W.listOf wp.toArray np) :: (Do, W.listOf os.toArray no) :: (Dh, W.listOf hs.toArray nh) :: (Di, LCg.lst ys) :: (Dd, oD) :: (cP, oP) :: (cD, oc) :: (cR, oR) :: rs)
    (h1 : StrsOf wr rr) (h2 : StrsOf wp ps) (h3 : oP.data = .cell cv) (h4 : Go key dep r P n hs os ps rr H O PS) (h5 : ∀ x ∈ hs, x ∈ ys) (h6 : ∀ x ∈ os, x ∈ ys) (h7 : os.length + hs.length ≤ 8) (h8 : ps.length ≤ os.length)
    (h9 : @Ne Nat Dr Dp ∧ @Ne Nat Dr Do ∧ @Ne Nat Dr Dh ∧ ∀ p ∈ (Di, LCg.lst ys) :: (Dd, oD) :: (cP, oP) :: (cD, oc) :: (cR, oR) :: rs, @Ne Nat p.1 Dr)
    (em : m₁ = fun y => if y = Str.ofString "rest" then some (.ref Dr) else if y = Str.ofString "lowest" then A else if y = Str.ofString "near" then B else if y = Str.ofString "strange" then C else m y) :
    WhP key dep r P PS H O rs ys Dp Do Dh Di Dd cP cD cR oD oc oR m n m₁ news := ⟨hs, os, ps, rr, wr, wp, Dr, oP, nh, no, np, nr, A, B, C, cv, e, h1, h2, h3, h4, h5, h6, h7, h8, h9, em⟩
theorem WhP.elim {key : Value → Int × Str} {dep : Str → Int} {r : Int} {P PS : List Str} {H O : List Value} {rs : List (Addr × Obj)} {ys : List Value} {Dp Do Dh Di Dd cP cD cR : Addr} {oD oc oR : Obj} {m : Str → Option Value} {n : Nat} {m₁ : Str → Option Value} {news : List (Addr × Obj)} {K : (Str → Option Value) → List (Addr × Obj) → Prop}
    (h : WhP key dep r P PS H O rs ys Dp Do Dh Di Dd cP cD cR oD oc oR m n m₁ news)
    (go : ∀ (hs os : List Value) (ps rr : List Str) (wr wp : List Value) (Dr : Addr) (oP : Obj) (nh no np nr : Nat) (A B C : Option Value) (cv : Option Value), StrsOf wr rr → StrsOf wp ps → oP.data = .cell cv → Go key dep r P n hs os ps rr H O PS → (∀ x ∈ hs, x ∈ ys) → (∀ x ∈ os, x ∈ ys) → os.length + hs.length ≤ 8 → ps.length ≤ os.length →
      @Ne Nat Dr Dp → @Ne Nat Dr Do → @Ne Nat Dr Dh → (∀ p ∈ (Di, LCg.lst ys) :: (Dd, oD) :: (cP, oP) :: (cD, oc) :: (cR, oR) :: rs, @Ne Nat p.1 Dr) →
      K (fun y => if y = Str.ofString "rest" then some (.ref Dr) else if y = Str.ofString "lowest" then A else if y = Str.ofString "near" then B else if y = Str.ofString "strange" then C else m y)
        ((Dr, W.listOf wr.toArray nr) :: (Dp, W.listOf wp.toArray np) :: (Do, W.listOf os.toArray no) :: (Dh, W.listOf hs.toArray nh) :: (Di, LCg.lst ys) :: (Dd, oD) :: (cP, oP) :: (cD, oc) :: (cR, oR) :: rs)) : K m₁ news := by
  obtain ⟨hs, os, ps, rr, wr, wp, Dr, oP, nh, no, np, nr, A, B, C, cv, rfl, h1, h2, h3, h4, h5, h6, h7, h8, ⟨n1, n2, n3, n4⟩, rfl⟩ := h
  exact go hs os ps rr wr wp Dr oP nh no np nr A B C cv h1 h2 h3 h4 h5 h6 h7 h8 n1 n2 n3 n4
theorem ex3 {α β γ : Type} {P : α → β → γ → Prop} {C : Prop} (h : ∃ a b c, P a b c) (go : ∀ a b c, P a b c → C) : C := by
  obtain ⟨a, b, c, h⟩ := h
  exact go a b c h
theorem ex5 {α β γ δ ε : Type} {P : α → β → γ → δ → ε → Prop} {C : Prop} (h : ∃ a b c d e, P a b c d e) (go : ∀ a b c d e, P a b c d e → C) : C := by
  obtain ⟨a, b, c, d, e, h⟩ := h
  exact go a b c d e h
theorem tup_of {f : Nat → Int × Str} {h₀ h : Heap} {L : Addr} {rs : List (Addr × Obj)} (N : News h₀ L h rs) {is : List Nat} (hT : Two (fun i (p : Addr × Obj) => TupObj (f i).1 (f i).2 p.2) is rs) {v : Value} (hv : v ∈ rs.map fun p => Value.ref p.1) :
    ∃ a k x t u, v = .ref a ∧ (a, ({ cls := .type "tuple", data := .seq #[.int k t, .str x u] } : Obj)) ∈ rs ∧ keyOf rs v = (k, x) ∧ ∃ i ∈ is, f i = (k, x) := by
  obtain ⟨p, hp, rfl⟩ := List.mem_map.mp hv
  obtain ⟨i, hi⟩ := List.getElem?_of_mem hp
  obtain ⟨j, hji, hj⟩ := hT.flip.get hi
  have hk := pairOf_tup hj
  obtain ⟨t, u, e⟩ := hj
  exact ⟨p.1, (f j).1, (f j).2, t, u, rfl, by rw [← e]; exact hp, by rw [keyOf_mem N hp, hk], j, List.mem_of_getElem? hji, rfl⟩
theorem pre2 {a b D : Addr} {oa ob : Obj} (h1 : @Ne Nat a D) (h2 : @Ne Nat b D) : ∀ p ∈ [(a, oa), (b, ob)], p.1 ≠ D := fun p hp => by
  rcases List.mem_cons.mp hp with rfl | hp
  · exact h1
  · rw [List.mem_singleton.mp hp]; exact h2
theorem pre3 {a b c D : Addr} {oa ob oc : Obj} (h1 : @Ne Nat a D) (h2 : @Ne Nat b D) (h3 : @Ne Nat c D) : ∀ p ∈ [(a, oa), (b, ob), (c, oc)], p.1 ≠ D := fun p hp => by
  rcases List.mem_cons.mp hp with rfl | hp
  · exact h1
  · exact pre2 h2 h3 p hp
theorem pre6 {a b c d e f D : Addr} {oa ob oc od oe of : Obj} (h1 : @Ne Nat a D) (h2 : @Ne Nat b D) (h3 : @Ne Nat c D) (h4 : @Ne Nat d D) (h5 : @Ne Nat e D) (h6 : @Ne Nat f D) : ∀ p ∈ [(a, oa), (b, ob), (c, oc), (d, od), (e, oe), (f, of)], p.1 ≠ D := fun p hp => by
  rcases List.mem_cons.mp hp with rfl | hp
  · exact h1
  rcases List.mem_cons.mp hp with rfl | hp
  · exact h2
  · exact pre4 h3 h4 h5 h6 p hp
/-- the third object is another -/
theorem chg3 (Q : Addr → Prop) {a b : Addr × Obj} {c : Addr} {o o' : Obj} {t : List (Addr × Obj)} (h : ∀ p ∈ a :: b :: (c, o) :: t, Q p.1) : ∀ p ∈ a :: b :: (c, o') :: t, Q p.1 := fun p hp => by
  rcases List.mem_cons.mp hp with rfl | hp
  · exact h _ (.head _)
  rcases List.mem_cons.mp hp with rfl | hp
  · exact h _ (.tail _ (.head _))
  rcases List.mem_cons.mp hp with rfl | hp
  · exact h (c, o) (.tail _ (.tail _ (.head _)))
  · exact h p (.tail _ (.tail _ (.tail _ hp)))
noncomputable def keepN (dep : Str → Int) (r : Int) (post : Str) (v : Value) : Bool := match v with | .str x _ => nearB dep r post x | _ => false
theorem str_mem {ws : List Value} {rr : List Str} {v : Value} (h : StrsOf ws rr) (hv : v ∈ ws) : ∃ c t, v = .str c t ∧ c ∈ rr := by
  obtain ⟨l, rfl, rfl⟩ := h
  obtain ⟨p, hp, rfl⟩ := List.mem_map.mp hv
  exact ⟨p.1, p.2, rfl, List.mem_map.mpr ⟨p, hp, rfl⟩⟩
theorem filter_strs {p : Str → Bool} {k : Value → Bool} (hk : ∀ x t, k (.str x t) = p x) {ws : List Value} {rr : List Str} (h : StrsOf ws rr) : StrsOf (ws.filter k) (rr.filter p) := by
  obtain ⟨l, rfl, rfl⟩ := h
  refine ⟨l.filter fun q => p q.1, ?_, ?_⟩
  · induction l with
    | nil => rfl
    | cons q l ih =>
      simp only [strValues, List.map_cons, List.filter_cons, hk] at ih ⊢
      split
      · rw [List.map_cons, ih]
      · exact ih
  · induction l with
    | nil => rfl
    | cons q l ih =>
      simp only [List.map_cons, List.filter_cons] at ih ⊢
      split
      · rw [List.map_cons, ih]
      · exact ih
theorem led_turn {g g2 h h' : Heap} {L D1 D2 : Addr} {fs : List Addr} {news : List (Addr × Obj)} (N : News g L h news) (hk : ∀ b o, b ∉ [D1, D2] → b ≠ L → b ∉ fs → h.get? b = some o → h'.get? b = some o) (hT : KtsTurn fs g g2) (hfs : ∀ b ∈ fs, ∃ o, g.get? b = some o) (h1 : ∀ p ∈ news, @Ne Nat p.1 D1) (h2 : ∀ p ∈ news, @Ne Nat p.1 D2) : News g2 L h' news := fun p hp => by
  have z := N p hp
  refine ⟨hk _ _ (fun hm => ?_) z.2.1 (fun hm => ?_) z.1, z.2.1, hT.none_ _ z.2.2⟩
  · rcases List.mem_cons.mp hm with e | hm
    · exact h1 p hp e
    · exact h2 p hp (List.mem_singleton.mp hm)
  · obtain ⟨o, e⟩ := hfs _ hm
    rw [z.2.2] at e; cases e
theorem led_new {g h : Heap} {L a : Addr} {news : List (Addr × Obj)} (N : News g L h news) (hn : h.get? a = none) : ∀ p ∈ news, @Ne Nat p.1 a := fun p hp e => by
  have z := (N p hp).1
  rw [show p.1 = a from e, hn] at z; cases z
theorem led_join {g h : Heap} {L a b c d : Addr} {oa ob oc od : Obj} {news : List (Addr × Obj)} (N4 : News g L h [(b, ob), (a, oa), (c, oc), (d, od)]) (N : News g L h news) : News g L h ((b, ob) :: (a, oa) :: (d, od) :: news) := fun p hp => by
  rcases List.mem_cons.mp hp with rfl | hp
  · exact N4 _ (.head _)
  rcases List.mem_cons.mp hp with rfl | hp
  · exact N4 _ (.tail _ (.head _))
  rcases List.mem_cons.mp hp with rfl | hp
  · exact N4 _ (.tail _ (.tail _ (.tail _ (.head _))))
  · exact N p hp
theorem off1_ne {D : Addr} (l : List (Addr × Obj)) (h : LCg.Off1 D l) : ∀ p ∈ l, @Ne Nat p.1 D := by
  induction l with
  | nil => intro p hp; cases hp
  | cons q r ih =>
    intro p hp
    rcases List.mem_cons.mp hp with e | hp
    · rw [e]; exact h.1
    · exact ih h.2 p hp
theorem eq_lists {prog : Program} {w : World} {A : Around} {E : Value → Shared → Prop} {s : Shared} {h₀ : Heap} {L a b : Addr} {news : List (Addr × Obj)} {vs : List Value} {n k : Nat} {Q : Value → Shared → Prop} (N : News h₀ L s.heap news) (h1 : (a, W.listOf vs.toArray n) ∈ news) (h2 : (b, W.listOf vs.toArray k) ∈ news) (hu : A.units < cLine) (h : Q (.bool true) s) :
    wpAny (model prog w) A (compareOp .Eq (.ref a) (.ref b)) Q E s := by
  refine PySem.SeqAt.eq_listAt (e := fun _ => true) ⟨_, News.get N h1, rfl, _, rfl⟩ ⟨_, News.get N h2, rfl, _, rfl⟩ rfl hu (fun j _ _ => PySem.SeqAt.EqAt.same _) ?_
  have e : ((List.range vs.toArray.size).all fun _ => true) = true := List.all_eq_true.mpr fun _ _ => rfl
  rw [e]; exact h
theorem add_L {prog : Program} {w : World} {A : Around} {E : Value → Shared → Prop} {s : Shared} {h₀ : Heap} {L l b : Addr} {m : Str → Option Value} {news : List (Addr × Obj)} {vs ws : List Value} {n k : Nat} {Q : Value → Shared → Prop} (F : Fr h₀ L s.heap m) (N : News h₀ L s.heap news) (h1 : (l, W.listOf vs.toArray n) ∈ news) (h2 : (b, W.listOf ws.toArray k) ∈ news) (hsz : vs.length + ws.length ≤ 1000)
    (h : ∀ D c h', Fr h₀ L h' m → News h₀ L h' ((D, W.listOf (vs ++ ws).toArray c) :: news) → Q (.ref D) { s with heap := h' }) :
    wpAny (model prog w) A (binaryOp .Add (.ref l) (.ref b)) Q E s :=
  add_lists F N ⟨_, News.get N h1, rfl, _, rfl⟩ ⟨_, News.get N h2, rfl, _, rfl⟩ (fun h' F' N' => h _ _ h' F' N') (by rw [sizeLine_eq]; omega)
theorem fit_add {a b c : List Value} (h : a.length + b.length ≤ 8) (hp : c.Perm b) : a.length + c.length ≤ 1000 := by rw [hp.length_eq]; omega
theorem reg_lp2 : True := by
  k_with "tailx" => (repeat (first | exact hp9 | refine List.mem_cons_of_mem _ ?_))
  k_with "call builtin:sorted" => (k_here; (with_reducible show wpAny _ _ (call _ [Value.ref Dh]) _ _ _); k_dflt (refine' sorted_led (key := keyOf rs) ?z1 ?z2 ?z3 ?z4 ?z5 hnd2 ?_; (case z1 => k_asm); (case z2 => k_asm); (case z3 => exact ⟨_, News.get (by k_asm) (by k_mem), rfl, _, rfl⟩); (case z4 => exact hfew); (case z5 => exact fun h9 N9 v9 hv9 => pair_mem (f := fun i => (-(dep (P.getD i (Str.ofString ""))), P.getD i (Str.ofString ""))) (fun p hp9 => N9 p (by walk_at "tailx")) hG (hys ▸ hhs v9 hv9))); intro Ds S9 c9 h' F' N' l9 hS1 hS2; (try k_sweep))
  k_with "call builtin:sorted" => (k_here; (with_reducible show wpAny _ _ (call _ [Value.ref Di]) _ _ _); k_dflt (refine' sorted_led (key := keyOf rs) (vs := ys) ?z1 ?z2 ?z3 ?z4 ?z5 hnd1 ?_; (case z1 => k_asm); (case z2 => k_asm); (case z3 => exact ⟨_, News.get (by k_asm) (by k_mem), rfl, _, rfl⟩); (case z4 => exact hfew8); (case z5 => exact fun h9 N9 v9 hv9 => pair_mem (f := fun i => (-(dep (P.getD i (Str.ofString ""))), P.getD i (Str.ofString ""))) (fun p hp9 => N9 p (by walk_at "tailx")) hG (hys ▸ hv9))); intro Dt T9 c9 h' F' N' l9 hT1 hT2; (try k_sweep))
  k_with "binaryOp Add ref ref" => (k_here; (with_reducible show wpAny _ _ (binaryOp _ (Value.ref Do) (Value.ref Ds)) _ _ _); k_dflt (refine' add_L (vs := os) (ws := S9) ?z1 ?z2 ?z3 ?z4 ?z5 ?_; (case z1 => k_asm); (case z2 => k_asm); (case z3 => k_mem); (case z4 => k_mem); (case z5 => exact fit_add hln hS1)); intro Dq cq h' F' N'; (try k_sweep))
  k_with "compareOp Eq ref ref" => (k_here; (with_reducible show wpAny _ _ (compareOp _ (Value.ref Dq) (Value.ref Dt)) _ _ _); (rename News _ _ _ _ => Nq); rw [hend9 S9 T9 hS1 hS2 hT1 hT2] at Nq; k_dflt (refine' eq_lists (vs := T9) Nq ?z3 ?z4 ?z5 ?_; (case z3 => k_mem); (case z4 => k_mem); (case z5 => ktr_units)))
  k_with "FinA" => ((unfold LCg.FinA); intro Dn h' tk' F' N' o1n; (dsimp only))
  k_with "mine steps2" => repeat' (first | (k_unfold; (try dsimp only)) | ((with_reducible show wpAny _ _ (call (Value.ref 162) [Value.ref _, Value.ref _]) _ _ _); walk_at "uld") | walk1 | (dsimp only; walk1) | (leave1; (try dsimp only)))
  k_with "uld" => (k_here; (with_reducible show wpAny _ _ (call (Value.ref 162) [Value.ref _, Value.ref _]) _ _ _); (rename News _ _ _ ((Dn, _) :: (Dr, _) :: _) => Nq); (have hM1 := (hM (by assumption)).1); k_dflt (refine' uld_c ?k1 ?k2 ?k3 ?k4 XB TB DK ?u1 ?u2 ?u3 ?u4 ?u5 ?u6 ?u7 hwr hya ?u8 hM1 ?kd ?ku ?_; (case k1 => k_asm); (case k2 => k_asm); (case k3 => k_asm); (case k4 => k_asm); (case u1 => exact (Nq _ (.tail _ (.head _))).1); (case u2 => exact (Nq _ (.head _)).1); (case u3 => exact (Nq _ (.tail _ (.head _))).2.2); (case u4 => exact (Nq _ (.tail _ (.head _))).2.1); (case u5 => exact (Nq _ (.head _)).2.2); (case u6 => exact (Nq _ (.head _)).2.1); (case u7 => exact o1n.1); (case u8 => exact fit_uld h8); (case kd => ktr_room); (case ku => ktr_units)); intro ms yr ta tb n1' n2' n3 n4 h' tk' g2 hG2 hkeep F' N4 hms hyr hna hnb; (have hfs : ∀ b ∈ (envX cn ⟨.function, sn, sg, sc, sm⟩ L a ccd cl :: outer).filterMap (·.frame), ∃ o, g.get? b = some o := fun b hb => by obtain ⟨_, o, ho', _⟩ := B'.frames.mem hb; exact ⟨o, ho'⟩); (have Nt := led_turn (drop_hd (drop_hd Nq)) hkeep hG2.turn hfs (hDall _ _ _ _ _ _) (off1_ne _ o1n.2)); (have nta := led_new (drop_hd (drop_hd Nq)) hna); (have N' := led_join N4 Nt); (have T1 := T0.trans hG2.turn); (have B2 := hG2.below); (have X2 := hG2.frag); (have T2 := hG2.top); (have DK2 := hG2.dicts); clear B' X' T' DK T0 Nq N4 Nt hkeep hfs; (obtain rfl := strs_nil hyr); (try k_sweep))
  k_with "exec Assign cons ListComp" => (k_here; (with_reducible show wpAny _ _ (exec (Stmt.Assign _ (Expr.ListComp _ [⟨_, _, [_], _⟩] _ _) _) _) _ _ _); k_dflt (refine LCt.Assign_ListComp_T (by k_asm) (by rfl) (by with_unfolding_all rfl) (by rfl) (by decide) (by rfl) (by decide) (by rfl) (by rfl) (by rfl) ?_))
  k_with "CompSrcT" => (k_here; k_dflt (refine LCt.CompSrcT.ledger (by rfl) (by k_asm) (by k_asm) (by k_mem) hszr ?_); intro g8; k_dflt (refine' compT_filter (keepN dep r (upT r xv)) ?hS ?_ ?_ ?_; (case hS => exact Or.inr ⟨_, by k_mem, rfl, _, rfl⟩)); all_goals (first | (intro v' I' oI' C' oC' D' ys' m' h' tk' E' hv' hkp' hC' hx' F' N' off' ne'; obtain ⟨c, tc, hv9, hcr⟩ := str_mem hwr (by simpa using hv'); subst hv9; clear off' ne') | (intro v' I' oI' C' oC' D' ys' m' h' tk' E' hv' hC' hx' F' N' off' ne'; obtain ⟨c, tc, hv9, hcr⟩ := str_mem hwr (by simpa using hv'); subst hv9; clear off' ne'; (have hcP := hsub c hcr); (have hcl := hlen c hcP); (have hcs := hslash c hcP); (obtain ⟨tvc, hvc⟩ := hdp _ _ (hdep _ hcP)); (obtain ⟨tvz, hvz⟩ := hdp _ _ (hdep _ (hcp c hcP _ hpP)))) | (intro ys' hys'; (have hya : StrsOf ys' (rr.filter (nearB dep r (upT r xv))) := hys' ▸ filter_strs (fun _ _ => rfl) hwr); clear hys')))
  k_with "Same" => first | exact Same.intro (by k_asm) (by k_asm) | exact Same.intro (by k_asm) (drop_hd (by k_asm)) | exact Same.intro (by k_asm) (drop_hd (drop_hd (by k_asm)))
  k_with "call ref" => (k_here; (with_reducible show wpAny _ _ (call (Value.ref 155) [Value.ref _]) _ _ _); k_dflt (refine' commonpath_c (x := c) (y := upT r xv) (z := cpT c (upT r xv)) ?k1 ?k2 ?k3 ?k4 hcl hpl100 hcs hps ?zl rfl ?kd ?ku ?_; (case zl => exact ⟨_, News.get (by k_asm) (.head _), rfl, _, rfl⟩); walk_at "mine args"); intro t'; walk_at "mine back")
  k_with "storeName" => (k_here; (with_reducible show wpAny _ _ (storeName _ (PySem.Str.ofString "post") _) _ _ _); (rename News _ _ _ ((Dr, _) :: (Dp, _) :: _) => Nq); k_dflt (refine' store_cell (pre := [(Dr, _), (Dp, _), (Do, _), (Dh, _), (Di, _), (Dd, _)]) (by k_asm) Nq (pre6 ncr ncp nco nch nci ncd) hpostC rfl rfl rfl hoP ?_); intro h' oc' hoc' F' N'; (dsimp only [List.cons_append, List.nil_append] at N'); (try k_sweep))
  k_with "memx" => (repeat (first | exact hav | refine List.mem_cons_of_mem _ ?_))
  k_with "truthy ref" => (k_here; k_dflt (refine' truthy_n ?zt1 ?zt2 ?zt3 ?_; (case zt1 => k_asm); (case zt2 => k_mem); (case zt3 => first | exact hfit | exact Nat.zero_le _)); intro tkt; first | rw [hemp] | rw [hemp2])
  k_with "call ref" => (k_here; (with_reducible show wpAny _ _ (call (Value.ref 35) [Value.ref _]) _ _ _); k_dflt (refine' heappop_K (key := keyOf rs) ?k1 ?k2 ?k3 ?k4 ?zc1 ?zc2 ?zc3 ?zc4 ?zc5 hpop ?kd ?ku ?_; (case k1 => k_asm); (case k2 => k_asm); (case k3 => k_asm); (case k4 => k_asm); (case zc1 => exact News.get N' (.tail _ (.tail _ (.tail _ (.head _))))); (case zc2 => exact News.fresh N' (.tail _ (.tail _ (.tail _ (.head _))))); (case zc3 => exact (N' _ (.tail _ (.tail _ (.tail _ (.head _))))).2.1); (case zc4 => exact hall9); (case zc5 => exact hlen9); (case kd => ktr_room); (case ku => ktr_units)); intro n9 h' tk' K' D9; (have F' := fr_set (pre := [(Dr, _), (Dp, _), (Do, _)]) (by k_asm) N' K'); (have N' := led_set (pre := [(Dr, _), (Dp, _), (Do, _)]) N' (pre3 nrh nDp nDo) hlp9 K' D9); clear K' D9; (dsimp only [List.cons_append, List.nil_append] at N'); (try k_sweep))
  k_with "call ref" => (k_here; (with_reducible show wpAny _ _ (call (Value.ref 183) [Value.str _ _, Value.int _ _]) _ _ _); k_dflt (refine' raised_c ?k1 ?k2 ?k3 ?k4 hr hxl hxl2 ?kd ?ku ?_; walk_at "mine args"); intro t'; walk_at "mine back")
  k_with "call builtin:list.append" => (k_here; (with_reducible show wpAny _ _ (call _ [Value.ref Do, _]) _ _ _); (rename News _ _ _ ((Dr, _) :: (Dp, _) :: _) => Nq); k_dflt (refine append_led (D := Do) (pre := [(Dr, _), (Dp, _)]) (by k_asm) Nq (pre2 nro (Ne.symm nDop)) (hpostDo _) hfitO ?_); intro h' F' N'; (dsimp only [List.cons_append, List.nil_append] at N'); (try k_sweep))
  k_with "call builtin:list.append" => (k_here; (with_reducible show wpAny _ _ (call _ [Value.ref Dp, _]) _ _ _); (rename News _ _ _ ((Dr, _) :: (Dp, _) :: _) => Nq); k_dflt (refine append_led (D := Dp) (pre := [(Dr, _)]) (by k_asm) Nq (fun p hp => by rw [List.mem_singleton.mp hp]; exact nrp) (hpostDp _ _ _) hfitP ?_); intro h' F' N'; (dsimp only [List.cons_append, List.nil_append] at N'); (try k_sweep))
  k_with "subscriptTail Name UnaryOp ref int" => (k_here; k_dflt (refine' lget_last ?zl1 ?zl2 ?_ ?zl4; (case zl1 => k_asm); (case zl2 => k_mem); (case zl4 => with_unfolding_all rfl)))
  k_with "subscriptTail" => (k_here; (with_reducible show wpAny _ _ (subscriptTail _ _ (Value.ref av) (Value.int 1 _)) _ _ _); k_dflt (refine' pair_item1 (k := (kv, xv)) ?zl1 ?_ ?zl2; (case zl1 => exact ⟨_, News.get (by k_asm) (by walk_at "memx"), rfl, _, rfl⟩); (case zl2 => with_unfolding_all rfl)))
  k_with "compareOp In" => (k_here; k_dflt (refine' in_strs ?zn1 ?zn2 hwr (decide (xv ∈ rr)) hbin ?_; (case zn1 => k_asm); (case zn2 => k_mem)))
  trivial
theorem strs_nil {ws : List Value} (h : StrsOf ws []) : ws = [] := by
  obtain ⟨l, rfl, e⟩ := h
  rw [List.map_eq_nil_iff.mp e]; rfl
theorem fit_uld {rr : List Str} {p : Str → Bool} (h : rr.length ≤ 8) : rr.length + (rr.filter p).length ≤ 1000 := by
  have := List.length_filter_le p rr
  omega
theorem bindT {m : Str → Option Value} {R W N S : Str} {r w n s r0 a0 n0 s0 : Option Value} (h1 : W ≠ R) (h2 : N ≠ R) (h3 : S ≠ R) (h4 : N ≠ W) (h5 : S ≠ W) (h6 : S ≠ N) :
    (fun y => if y = S then s else if y = R then r else if y = N then n else (fun y => if y = W then w else if y = R then r0 else if y = W then a0 else if y = N then n0 else if y = S then s0 else m y) y) = fun y => if y = R then r else if y = W then w else if y = N then n else if y = S then s else m y := by
  funext y
  by_cases q1 : y = R
  · subst q1; simp [Ne.symm h1, Ne.symm h2, Ne.symm h3]
  by_cases q2 : y = W
  · subst q2; simp [h1, Ne.symm h4, Ne.symm h5]
  by_cases q3 : y = N
  · subst q3; simp [h2, h4, Ne.symm h6]
  by_cases q4 : y = S
  · subst q4; simp [h3, h5, h6]
  · simp [q1, q2, q3, q4]
theorem bindS {m : Str → Option Value} {R W N S : Str} {w r0 a0 n0 s0 : Option Value} (h1 : W ≠ R) :
    (fun y => if y = W then w else if y = R then r0 else if y = W then a0 else if y = N then n0 else if y = S then s0 else m y) = fun y => if y = R then r0 else if y = W then w else if y = N then n0 else if y = S then s0 else m y := by
  funext y
  by_cases q1 : y = R
  · subst q1; simp [Ne.symm h1]
  by_cases q2 : y = W
  · subst q2; simp [h1]
  · simp [q1, q2]
theorem nta3 {D a b c : Addr} {oa ob oc : Obj} {rest : List (Addr × Obj)} (h : ∀ p ∈ (a, oa) :: (b, ob) :: (c, oc) :: rest, @Ne Nat p.1 D) : @Ne Nat D a ∧ @Ne Nat D b ∧ @Ne Nat D c ∧ ∀ p ∈ rest, @Ne Nat p.1 D :=
  ⟨fun e => h _ (.head _) e.symm, fun e => h _ (.tail _ (.head _)) e.symm, fun e => h _ (.tail _ (.tail _ (.head _))) e.symm, fun p hp => h p (.tail _ (.tail _ (.tail _ hp)))⟩
theorem led_drop {g h : Heap} {L : Addr} {a b c : Addr × Obj} {rest : List (Addr × Obj)} (N : News g L h (a :: b :: c :: rest)) : News g L h (b :: rest) := fun p hp => by
  rcases List.mem_cons.mp hp with rfl | hp
  · exact N _ (.tail _ (.head _))
  · exact N p (.tail _ (.tail _ (.tail _ hp)))
theorem fit_next {a b c : Nat} (h : a + b ≤ 8) (h2 : c + 1 = b) : a + 1 + c ≤ 8 := by omega
theorem mem_snoc {os ys : List Value} {v : Value} (h : ∀ x ∈ os, x ∈ ys) (hv : v ∈ ys) : ∀ x ∈ os ++ [v], x ∈ ys := fun x hx => by
  rcases List.mem_append.mp hx with hx | hx
  · exact h x hx
  · rw [List.mem_singleton.mp hx]; exact hv
theorem fit_few {a b : Nat} (h : a + b ≤ 8) : b < 64 := by omega
theorem fit_os {a b : Nat} (h : a + b ≤ 8) : a ≤ 1000 := by omega
theorem fit_hs {a b : Nat} (h : a + b ≤ 8) : b ≤ 1000 := by omega
theorem fit_ps {a b c : Nat} (h : a + b ≤ 8) (h2 : c ≤ a) : c ≤ 1000 := by omega
theorem fit_rr {c : Nat} (h : c ≤ 8) : c ≤ 1000 := by omega
theorem fit_sz {c : Nat} (h : c ≤ 8) : c ≤ sizeLine := by rw [sizeLine_eq]; omega
theorem bind_start4 {m : Str → Option Value} {a b c d : Str} {v : Option Value} (h : m a = v) : m = fun y => if y = a then v else if y = b then m b else if y = c then m c else if y = d then m d else m y := by
  funext y
  by_cases h1 : y = a
  · rw [if_pos h1, h1, h]
  · by_cases h2 : y = b
    · rw [if_neg h1, if_pos h2, h2]
    · by_cases h3 : y = c
      · rw [if_neg h1, if_neg h2, if_pos h3, h3]
      · by_cases h4 : y = d
        · rw [if_neg h1, if_neg h2, if_neg h3, if_pos h4, h4]
        · rw [if_neg h1, if_neg h2, if_neg h3, if_neg h4]
section
variable {w : World} {mean : ExcName → Option Value} {mg mb : Str → Option Value}
 {dp un : Nat} {gd : Option (List Code)} {cn : Str} {sn : List (Str × NameKind)} {sg sc : Bool} {sm : List (Str × Const)} {a : Addr} {ccd : Value} {cl : List (Str × Addr)} {outer : List Env} {A₀ : Around} {base h₀ : Heap} {L : Addr} {m : Str → Option Value} {s : Shared}
    {Q E : Value → Shared → Prop} (B : Below A₀ base outer h₀) (F : Fr h₀ L s.heap m) (X : (Mine.hd.heap_39 w.params).In h₀) (T : Top Mine.hd.view_39 (looseW Mine.hd.view_39 []) mean mg mb h₀)
include B F X T
theorem posted_c (XB : (Mine.hd.heap_39 w.params).In base) (TB : Top Mine.hd.view_39 (looseW Mine.hd.view_39 []) mean mg mb base) (D : KtsDicts (outer.filterMap (·.frame)) h₀) {l : Addr} {vs : List Value} {P PS : List Str} {r : Int} {tr : Tok} (hr : r = 1 ∨ r = 2) (hl : s.heap.IsList l vs.toArray) (hs : StrsOf vs P) (hP : P.length = 8) (hlen : ∀ x ∈ P, x.length ≤ 100)
    (hdir : ∀ x ∈ P, dirT x ∈ P) (hslash : ∀ x ∈ P, Txt.startswith x (Str.ofString "/") = true) (hcp : ∀ x ∈ P, ∀ y ∈ P, cpT x y ∈ P) (dep : Str → Int) (hdep : ∀ x ∈ P, dacc (P.drop 1) x = some (dep x))
    (hok : ∀ i < 7, ∃ d, dacc ((P.drop 1).take i) (dirT ((P.drop 1).getD i (Str.ofString ""))) = some d)
    (hrun : ∀ (key : Value → Int × Str) (vs0 : List Value), vs0.map key = P.map (fun x => (-(dep x), x)) → ∃ n H O, Go key dep r P n (vs0.foldl (pushK key) []) [] [] P H O PS ∧ EndOk key vs0 H O)
    (hd : dp + 8 < recursionLimit) (hu : un + 120 < cLine) (hret : ∀ D ws n' h' tk' h₀', Gd A₀ base outer (Mine.hd.heap_39 w.params) Mine.hd.view_39 (looseW Mine.hd.view_39 []) mean mg mb h₀ h₀' → (∀ b o, b ≠ L → b ∉ outer.filterMap (·.frame) → s.heap.get? b = some o → h'.get? b = some o) → Fr h₀' L h' m → News h₀' L h' [(D, W.listOf (ws : List Value).toArray n')] → StrsOf ws PS → s.heap.get? D = none → Q (.ref D) {s with heap := h', toks := tk'}) :
    wpAny (model Challenge.rw_pd0139_01.row.prog w) (ktrTop dp un gd cn ⟨.function, sn, sg, sc, sm⟩ L a ccd cl outer) (call (.ref 188) [.ref l, .int r tr]) Q E s := by
  revert X; k_fill; intro X
  (refine wpAny_call ?_); k_dflt (refine' enterMSC (binds := [(Str.ofString "paths", .ref l), (Str.ofString "reach", .int r tr)]) ?k1 ?k2 ?k3 ?k4 ?k5 XB TB D ?kA ?kF ?kK ?k6 ?k7 ?k8 ?k9 ?kB ?kD ?_ ?c2 ?c3 ?c4; (case kA => exact rfl); (case kF => exact rfl); (case kK => exact rfl); (case k1 => k_asm); (case k2 => k_asm); (case k3 => exact X); (case k4 => exact News.nil); (case k5 => exact T); (case k6 => k_is); (case k7 => k_is); (case k8 => ktr_room); (case k9 => exact BindsTo.of_eq rfl); (case kB => exact rfl); (case kD => decide +kernel); (case c2 => exact rfl); (case c3 => exact rfl); (case c4 => exact rfl); k_whole)
  intro g' L' h' tk' cells' G' FG' F' N' Y' B' X' T' D' l1
  (try k_lt l1); k_cells Y'; (try simp only [List.cons_append, List.nil_append] at N'); (try dsimp only); (try k_fold)
  have hl' := isl_to hl G'
  replace F' : Fr g' L' h' (fun y => if y = Str.ofString "paths" then some (.ref l) else none) := by with_unfolding_all exact F'
  walk_at "mine steps"
  refine store_cell (pre := [(_, _), (_, _)]) (post := [_]) F' N' (fun p hp => ?_) (fun p hp => ?_) rfl rfl rfl (by assumption) ?_
  · rcases List.mem_cons.mp hp with rfl | hp
    · exact Ne.symm (hneD _ (.tail _ (.head _)))
    · rw [List.mem_singleton.mp hp]; exact Nat.ne_of_gt (Nat.lt_succ_self _)
  · rw [List.mem_singleton.mp hp]; exact Nat.ne_of_lt (Nat.lt_succ_self _)
  intro h' oc hoc F' N'
  dsimp only [List.cons_append, List.nil_append] at N'
  iterate 4 (first | (k_unfold; (try dsimp only)) | walk1 | (dsimp only; walk1))
  have hsz0 : vs.toArray.size = 8 := by rw [List.size_toArray, hs.length, hP]
  have hfit0 : vs.toArray.size ≤ sizeLine := by rw [hsz0, sizeLine_eq]; decide
  refine LCg.CompSrc.base (by rfl) F' N' hl' hfit0 ?_
  intro g8
  rw [hsz0]
  k_dflt (refine' comp_make (n := 8) (pre := [(_, _), (_, _), (_, _), (_, _)]) (post := []) (fun i => TupObj (-(dep (P.getD i (Str.ofString "")))) (P.getD i (Str.ofString ""))) ?hS ?_ ?_; (case hS => exact fun _ => Or.inl hl'))
  · rintro i v I oI C oC D2 ys rs m₂ h₁ tk₁ E' hi8 hv hoC hx F' N' off hne9
    have nIC := hne9.1
    have nID := hne9.2.1
    have nCD := hne9.2.2
    clear hne9
    simp only [List.cons_append, List.nil_append, List.append_nil] at N'
    obtain ⟨ti, rfl⟩ := str_at hs hv (by rw [hP]; exact hi8)
    have hiP := getD_memS (P := P) (i := i) (by rw [hP]; exact hi8)
    have hil := hlen _ hiP
    obtain ⟨tv, hva⟩ := hdp _ _ (hdep _ hiP)
    walk_at "mine steps"
    rename News g' L' _ ((_, _) :: (I, _) :: _) => Ne
    rename I < _ ∧ _ => l9
    exact Made1.introE (by simp only [List.cons_append, List.nil_append, List.append_nil]) (by k_asm) Ne (fun p hp => Nat.ne_of_lt (tb_ltOf (by exact l9) p hp)) ⟨_, _, rfl⟩
  · intro ys rs hG hys hap
    unfold LCg.FinA
    intro Di h' tk' F' N' o1'
    simp only [List.cons_append, List.nil_append, List.append_nil] at N' o1'
    dsimp only
    walk_at "mine steps"
    rename News g' L' _ ((_, _) :: (_, W.listOf vs.toArray _) :: _) => N1
    rename Fr g' L' _ _ => F1
    refine name5 N1 ?_
    intro Dt Dr Dp Do Dh e1 e2 e3 e4 e5
    subst e1 e2 e3 e4 e5
    rename Di < Dh ∧ _ => lh
    rename Dh < Do ∧ _ => lo
    rename Do < Dp ∧ _ => lp
    rename Dp < Dr ∧ _ => lr
    have N2 := drop_hd N1
    refine nameO N2 ?_
    intro oP oR e1 e2
    subst e1 e2
    have hΛ : ∀ p ∈ (Di, LCg.lst ys) :: (Dd, oD) :: (L' + 1 + 1 + 1, oP) :: (L' + 1 + 1, oc) :: (L' + 1, oR) :: rs, p.1 < Dh := fun p hp => tb_ltOf (l := (Di, LCg.lst ys) :: (Dd, oD) :: (L' + 1 + 1 + 1, oP) :: (L' + 1 + 1, oc) :: (L' + 1, oR) :: rs) lh p hp
    clear N1 lh
    replace lo := lo.1
    replace lp := lp.1
    replace lr := lr.1
    have hlp : ∀ p ∈ (Di, LCg.lst ys) :: (Dd, oD) :: (L' + 1 + 1 + 1, oP) :: (L' + 1 + 1, oc) :: (L' + 1, oR) :: rs, @Ne Nat p.1 Dh := fun p hp => Nat.ne_of_lt (hΛ p hp)
    have nDo : @Ne Nat Do Dh := Nat.ne_of_gt lo
    have nDp : @Ne Nat Dp Dh := Nat.ne_of_gt (Nat.lt_trans lo lp)
    have nDr : @Ne Nat Dr Dh := Nat.ne_of_gt (Nat.lt_trans (Nat.lt_trans lo lp) lr)
    have hys8 : ys.length = 8 := by rw [hys, List.length_map, ← hG.length]; rfl
    have hmem : ∀ i < 8, ys.getD i .none ∈ rs.map fun p => Value.ref p.1 := fun i hi => hys ▸ getD_mem (by rw [hys8]; exact hi)
    k_dflt (refine' For_invV g' rfl rfl ?_)
    walk_at "eval Name"
    k_dflt (refine list_led (PuP (keyOf rs) ys Dr Dp Do Dh _ _ _ _) rfl ⟨_, News.get N2 (.tail _ (.tail _ (.tail _ (.tail _ (.head _))))), rfl, _, rfl⟩ (N2 _ (.tail _ (.tail _ (.tail _ (.tail _ (.head _)))))).2.1 (Or.inr ⟨_, fun i news hj => by obtain ⟨n, rfl⟩ := hj; exact .tail _ (.tail _ (.tail _ (.tail _ (.head _))))⟩) F1 N2 ⟨_, rfl⟩ ?_ ?_)
    · rintro i news₁ h₁ tk₁ I oI hi ⟨n, rfl⟩ hne F' N'
      replace F' : Fr g' L' _ _ := F'
      replace N' : News g' L' _ _ := N'
      have hi8 : i < ys.length := hi
      have Nrs : News g' L' h₁ rs := fun p hp => N' p (.tail _ (.tail _ (.tail _ (.tail _ (.tail _ (.tail _ (.tail _ (.tail _ (.tail _ (.tail _ hp))))))))))
      have hpair : ∀ x ∈ ys, PairAt h₁ x (keyOf rs x) := fun x hx => pair_mem (f := fun i => (-(dep (P.getD i (Str.ofString ""))), P.getD i (Str.ofString ""))) Nrs hG (hys ▸ hx)
      have hall9 : ∀ x ∈ (ys.take i).foldl (pushK (keyOf rs)) [], PairAt h₁ x (keyOf rs x) := fun x hx => (push_mem _ _ x hx).elim (fun h => nomatch h) fun h => hpair x (List.mem_of_mem_take h)
      have hv9 : PairAt h₁ (ys.getD i .none) (keyOf rs (ys.getD i .none)) := hpair _ (getD_mem hi8)
      have hlen9 : ((ys.take i).foldl (pushK (keyOf rs)) []).length ≤ 100 := by rw [push_len, List.length_take, List.length_nil]; omega
      have hI9 := hne _ (.tail _ (.tail _ (.tail _ (.head _))))
      walk_at "mine steps"
      rename News g' L' _ _ => Ne
      dsimp only [List.cons_append, List.nil_append] at Ne
      refine LedTurn.go (Or.inl rfl) (by k_asm) Ne (fun p hp => ?_) ⟨_, by rw [push_succ hi8]; rfl⟩
      rcases List.mem_cons.mp hp with rfl | hp
      · exact hne _ (.head _)
      rcases List.mem_cons.mp hp with rfl | hp
      · exact hne _ (.tail _ (.head _))
      rcases List.mem_cons.mp hp with rfl | hp
      · exact hne _ (.tail _ (.tail _ (.head _)))
      rcases List.mem_cons.mp hp with rfl | hp
      · exact hI9
      · exact hne p (.tail _ (.tail _ (.tail _ (.tail _ hp))))
    · rintro news₁ h₁ tk₁ v ⟨n, rfl⟩ F' N'
      rw [List.take_of_length_le (Nat.le_refl _)] at N'
      obtain ⟨nn, H, O, hgo, hend⟩ := hrun (keyOf rs) ys (by
        have Nrs : News g' L' h₁ rs := fun p hp => N' p (.tail _ (.tail _ (.tail _ (.tail _ (.tail _ (.tail _ (.tail _ (.tail _ (.tail _ hp)))))))))
        rw [hys, two_keys (f := fun i => (-(dep (P.getD i (Str.ofString ""))), P.getD i (Str.ofString ""))) Nrs (fun _ h => h) hG]
        exact map_getD (f := fun x => (-(dep x), x)) hP)
      dsimp only
      walk1
      try (k_unfold; (try dsimp only))
      have hnil : StrsOf ([] : List Value) [] := ⟨[], rfl, rfl⟩
      k_dflt (refine While_G (fun g => Gd (ktrTop dp un gd cn ⟨.function, sn, sg, sc, sm⟩ L a ccd cl outer) base (envX cn ⟨.function, sn, sg, sc, sm⟩ L a ccd cl :: outer) (Mine.hd.heap_39 w.params) Mine.hd.view_39 (looseW Mine.hd.view_39 []) mean mg mb g' g) (WhP (keyOf rs) dep r P PS H O rs ys Dp Do Dh Di Dd (L' + 1 + 1 + 1) (L' + 1 + 1) (L' + 1) oD oc oR _) nn ⟨KtsTurn.refl, B', X', T', D'⟩ F' N' (WhP.mk (ys.foldl (pushK (keyOf rs)) []) [] [] P vs [] Dr oP _ _ _ _ _ _ _ _ rfl hs hnil (by assumption) hgo (fun x hx => (push_mem _ _ x hx).elim (fun h => nomatch h) fun h => h) (fun x hx => nomatch hx) (by rw [push_len, hys8]; decide) (Nat.le_refl _) ⟨Nat.ne_of_gt lr, Nat.ne_of_gt (Nat.lt_trans lp lr), nDr, fun p hp => Nat.ne_of_lt (Nat.lt_trans (hΛ p hp) (Nat.lt_trans lo (Nat.lt_trans lp lr)))⟩ (bind_start4 rfl)) ?_)
      clear B' X' T' D' hgo
      have nci : @Ne Nat Di (L' + 1 + 1 + 1) := fun e => o1'.2.1 e.symm
      have ncd : @Ne Nat Dd (L' + 1 + 1 + 1) := fun e => hneD (L' + 1 + 1 + 1, oP) (.head _) e.symm
      have hcDh : L' + 1 + 1 + 1 < Dh := hΛ (L' + 1 + 1 + 1, oP) (.tail _ (.tail _ (.head _)))
      have nch : @Ne Nat Dh (L' + 1 + 1 + 1) := Nat.ne_of_gt hcDh
      have nco : @Ne Nat Do (L' + 1 + 1 + 1) := Nat.ne_of_gt (Nat.lt_trans hcDh lo)
      have ncp : @Ne Nat Dp (L' + 1 + 1 + 1) := Nat.ne_of_gt (Nat.lt_trans (Nat.lt_trans hcDh lo) lp)
      have hpostC : ∀ p ∈ (L' + 1 + 1, oc) :: (L' + 1, oR) :: rs, p.1 ≠ L' + 1 + 1 + 1 := fun p hp => by
        rcases List.mem_cons.mp hp with rfl | hp
        · exact Nat.ne_of_lt (Nat.lt_succ_self _)
        rcases List.mem_cons.mp hp with rfl | hp
        · exact Nat.ne_of_lt (Nat.lt_succ_of_lt (Nat.lt_succ_self _))
        · exact fun e => hap p hp (L' + 1 + 1 + 1, oP) (.tail _ (.head _)) e.symm
      have hpostDp : ∀ o1 o2 o3, ∀ p ∈ (Do, o1) :: (Dh, o2) :: (Di, LCg.lst ys) :: (Dd, oD) :: (L' + 1 + 1 + 1, o3) :: (L' + 1 + 1, oc) :: (L' + 1, oR) :: rs, p.1 ≠ Dp := fun o1 o2 o3 p hp => by
        rcases List.mem_cons.mp hp with rfl | hp
        · exact Nat.ne_of_lt lp
        rcases List.mem_cons.mp hp with rfl | hp
        · exact Nat.ne_of_lt (Nat.lt_trans lo lp)
        · exact Nat.ne_of_lt (Nat.lt_trans (chg3 (fun a => a < Dh) hΛ p hp) (Nat.lt_trans lo lp))
      rintro g n m₁ news₁ h₁ tk₁ ⟨T0, B', X', T', DK⟩ hW
      refine WhP.elim (K := fun m₁ news₁ => Fr g L' h₁ m₁ → News g L' h₁ news₁ → _) hW ?_
      clear hW m₁ news₁
      intro hs1 os ps rr wr wp Dr oP nh no np nr vA vB vC cv hwr hwp hoP hgo1 hhs hos hln hpl nrp nro nrh hDr F' N'
      rcases hgo1.inv with hz | hz
      · have hend' : EndOk (keyOf rs) ys hs1 os := by rw [hz.2.1, hz.2.2.1]; exact hend
        have hwp : StrsOf wp PS := hz.2.2.2 ▸ hwp
        obtain rfl := strs_nil (show StrsOf wr [] from hz.1 ▸ hwr)
        have hnd1 := hend'.1
        have hnd2 := hend'.2.1
        have hend9 := hend'.2.2
        clear hend hend' hwr hgo1 hz
        have hemp : (!([] : List Value).isEmpty) = false := rfl
        have hfit : ([] : List Value).length ≤ 1000 := Nat.zero_le _
        have hfew : hs1.length < 64 := fit_few hln
        have hfew8 : ys.length < 64 := by rw [hys8]; decide
        walk_at "mine steps"
        try (k_unfold; (try dsimp only))
        rename Fr g L' _ _ => Fe
        rename News g L' _ _ => Ne
        have Np : News g L' _ [(Dp, W.listOf wp.toArray np)] := fun p hp => by rw [List.mem_singleton.mp hp]; exact Ne _ (by k_mem)
        refine LeaveM.go Fe Np T0 fun h₀' hg Fc Nc => ?_
        refine hret Dp wp np _ _ h₀' hg (fun b o hbL hbo q => Fe.keep _ _ (T0.other _ _ (G' b o (fun hm => nomatch hm) q) fun hm => (mem_fr rfl hm).elim hbL hbo)) Fc Nc hwp ?_
        cases q : s.heap.get? Dp with
        | none => rfl
        | some o =>
          obtain ⟨sl, e⟩ := T0.up (G' Dp o (fun hm => nomatch hm) q)
          rw [(Np _ (.head _)).2.2] at e; cases e
      · have Nrs : News g L' h₁ rs := fun p hp => N' p (.tail _ (.tail _ (.tail _ (.tail _ (.tail _ (.tail _ (.tail _ (.tail _ (.tail _ hp)))))))))
        refine ex3 hz ?_
        clear hz
        intro n' v hs' hz
        have hn1 : n' < n := Nat.lt_of_lt_of_eq (Nat.lt_succ_self n') hz.1.symm
        have hne := hz.2.1
        have hsub := hz.2.2.1
        have h8 := hz.2.2.2.1
        have hpop := hz.2.2.2.2.1
        have hcase := hz.2.2.2.2.2
        clear hz
        have hv1 := (popK_mem hpop).1
        have hv2 := (popK_mem hpop).2.1
        have hv3 := (popK_mem hpop).2.2
        refine ex5 (tup_of (f := fun i => (-(dep (P.getD i (Str.ofString ""))), P.getD i (Str.ofString ""))) Nrs hG (hys ▸ hhs _ hv1)) ?_
        intro av kv xv tv uv hz
        have ev := hz.1
        subst ev
        have hav := hz.2.1
        have hkv := hz.2.2.1
        have hxP : xv ∈ P := by
          obtain ⟨iv, hiv, hfv⟩ := hz.2.2.2
          rw [← (Prod.mk.inj hfv).2]; exact getD_memS (by rw [hP]; exact List.mem_range.mp hiv)
        clear hz
        rw [hkv] at hcase
        have hxl := hlen _ hxP
        have hxl2 := hlen _ (hdir _ hxP)
        have hemp : (!wr.isEmpty) = true := by
          cases wr with
          | nil => obtain ⟨l0, e0, e1⟩ := hwr; exact absurd (by rw [← e1, List.map_eq_nil_iff]; exact List.map_eq_nil_iff.mp e0.symm) hne
          | cons a b => rfl
        have hfit : wr.length ≤ 1000 := by rw [hwr.length]; exact fit_rr h8
        have hall9 : ∀ x ∈ hs1, PairAt h₁ x (keyOf rs x) := fun x hx => pair_mem (f := fun i => (-(dep (P.getD i (Str.ofString ""))), P.getD i (Str.ofString ""))) Nrs hG (hys ▸ hhs x hx)
        have hlen9 : hs1.length ≤ 1000 := fit_hs hln
        have hlp9 : ∀ p ∈ (Di, LCg.lst ys) :: (Dd, oD) :: (L' + 1 + 1 + 1, oP) :: (L' + 1 + 1, oc) :: (L' + 1, oR) :: rs, @Ne Nat p.1 Dh := chg3 (fun a => @Ne Nat a Dh) hlp
        have nDop : @Ne Nat Do Dp := Nat.ne_of_lt lp
        have hfitO : os.length ≤ 1000 := fit_os hln
        have hpostDo : ∀ nn, ∀ p ∈ (Dh, W.listOf hs'.toArray nn) :: (Di, LCg.lst ys) :: (Dd, oD) :: (L' + 1 + 1 + 1, oP) :: (L' + 1 + 1, oc) :: (L' + 1, oR) :: rs, p.1 ≠ Do := fun nn p hp => by
          rcases List.mem_cons.mp hp with rfl | hp
          · exact Ne.symm nDo
          · exact Nat.ne_of_lt (Nat.lt_trans (chg3 (fun a => a < Dh) hΛ p hp) lo)
        have hbin : rr.any (· == xv) = decide (xv ∈ rr) := by
          rw [Bool.eq_iff_iff]; simp
        clear Nrs
        have ncr : @Ne Nat Dr (L' + 1 + 1 + 1) := fun e => hDr (L' + 1 + 1 + 1, oP) (.tail _ (.tail _ (.head _))) e.symm
        have hfitP : wp.length ≤ 1000 := by rw [hwp.length]; exact fit_ps hln hpl
        have hszr : wr.toArray.size ≤ sizeLine := by rw [List.size_toArray, hwr.length]; exact fit_sz h8
        have hpP : upT r xv ∈ P := upT_mem hdir hxP
        have hpl100 := hlen _ hpP
        have hps := hslash _ hpP
        obtain ⟨tvp, hvp⟩ := hdp _ _ (hdep _ hpP)
        have hemp2 : (!([] : List Value).isEmpty) = false := rfl
        obtain ⟨M, hM⟩ : ∃ M, xv ∈ rr → uld rr.reverse [] (rr.filter (nearB dep r (upT r xv))) = (M, []) ∧ Go (keyOf rs) dep r P n' hs' (os ++ [.ref av]) (ps ++ [upT r xv]) M H O PS := by
          rcases hcase with ⟨h, _⟩ | ⟨_, M, h⟩
          · exact ⟨[], fun q => absurd q h⟩
          · exact ⟨M, fun _ => h⟩
        have hDall : ∀ o1 o2 o3 o4 o5 o6, ∀ p ∈ (Dp, o1) :: (Do, o2) :: (Dh, o3) :: (Di, o4) :: (Dd, o5) :: (L' + 1 + 1 + 1, o6) :: (L' + 1 + 1, oc) :: (L' + 1, oR) :: rs, @Ne Nat p.1 Dr := fun o1 o2 o3 o4 o5 o6 p hp => by
          rcases List.mem_cons.mp hp with rfl | hp
          · exact Ne.symm nrp
          rcases List.mem_cons.mp hp with rfl | hp
          · exact Ne.symm nro
          rcases List.mem_cons.mp hp with rfl | hp
          · exact Ne.symm nrh
          rcases List.mem_cons.mp hp with rfl | hp
          · exact hDr (Di, LCg.lst ys) (.head _)
          rcases List.mem_cons.mp hp with rfl | hp
          · exact hDr (Dd, oD) (.tail _ (.head _))
          rcases List.mem_cons.mp hp with rfl | hp
          · exact hDr (L' + 1 + 1 + 1, oP) (.tail _ (.tail _ (.head _)))
          · exact hDr p (.tail _ (.tail _ (.tail _ hp)))
        walk_at "mine steps2"
        · rename Fr g2 L' _ _ => Fe
          rename News g2 L' _ _ => Ne
          exact WhG.go (Or.inl rfl) ⟨T1, B2, X2, T2, DK2⟩ Fe (led_drop Ne) hn1 (WhP.mk hs' (os ++ [.ref av]) (ps ++ [upT r xv]) M ms _ ta oc' _ _ _ _ _ _ _ _ rfl hms hwp.snoc hoc' (hM (by assumption)).2 (fun x hx => hhs x (hv2 x hx)) (mem_snoc hos (hhs _ hv1)) (by rw [List.length_append, List.length_singleton]; exact fit_next hln hv3) (by rw [List.length_append, List.length_append]; exact Nat.succ_le_succ hpl) (nta3 nta) (bindT (by decide +kernel) (by decide +kernel) (by decide +kernel) (by decide +kernel) (by decide +kernel) (by decide +kernel)))
        · rename Fr g L' _ _ => Fe
          rename News g L' _ _ => Ne
          rcases hcase with ⟨_, hgo2⟩ | ⟨h, _⟩
          · exact WhG.go (Or.inl rfl) ⟨T0, B', X', T', DK⟩ Fe Ne hn1 (WhP.mk hs' (os ++ [.ref av]) ps rr wr wp Dr oP _ _ _ _ _ _ _ _ rfl hwr hwp hoP hgo2 (fun x hx => hhs x (hv2 x hx)) (mem_snoc hos (hhs _ hv1)) (by rw [List.length_append, List.length_singleton]; exact fit_next hln hv3) (by rw [List.length_append]; exact Nat.le_succ_of_le hpl) ⟨nrp, nro, nrh, hDr⟩ (bindS (by decide +kernel)))
          · exact absurd h (by assumption)
end
end
-- LI
section
theorem reg_none_LI : True := by
  w_top off
  k_with_none
  trivial
theorem strs_at {ys : List Value} {Y : List Str} {x : Str} (h : StrsOf ys Y) (hx : x ∈ Y) : ∃ hj : Y.idxOf x < ys.toArray.size, (match ys.toArray[Y.idxOf x] with | .str c _ => c == x | _ => false) = true ∧ (∀ k (hk : k < ys.toArray.size), k < Y.idxOf x → (match ys.toArray[k] with | .str c _ => c == x | _ => false) = false) := by
  obtain ⟨l, rfl, rfl⟩ := h
  have hsz : (strValues l).toArray.size = (l.map (·.1)).length := by simp [strValues]
  have hlt : (l.map (·.1)).idxOf x < (l.map (·.1)).length := List.idxOf_lt_length_iff.mpr hx
  have get : ∀ k (hk : k < (strValues l).toArray.size), (match (strValues l).toArray[k] with | .str c _ => c == x | _ => false) = ((l.map (·.1))[k]'(hsz ▸ hk) == x) := by
    intro k hk
    simp [strValues]
  refine ⟨hsz ▸ hlt, ?_, ?_⟩
  · rw [get, List.getElem_idxOf hlt]; simp
  · intro k hk hkj
    rw [get]
    exact List.not_of_lt_findIdx hkj |> fun h => by simpa using h
theorem strs_get {ys : List Value} {Y : List Str} (h : StrsOf ys Y) {i : Nat} {v : Value} (hv : ys.toArray[i]? = some v) : ∃ x t, Y[i]? = some x ∧ v = .str x t := by
  obtain ⟨l, rfl, rfl⟩ := h
  have e : (strValues l)[i]? = some v := by simpa using hv
  unfold strValues at e
  rw [List.getElem?_map] at e
  rw [List.getElem?_map]
  cases q : l[i]? with
  | none => rw [q] at e; cases e
  | some p => rw [q] at e; exact ⟨p.1, p.2, rfl, (Option.some.inj e).symm⟩
section
variable {prog : Program} {w : World} {A : Around} {E : Value → Shared → Prop} {s : Shared} {h₀ : Heap} {L D : Addr} {news : List (Addr × Obj)} {ys : List Value} {Y : List Str} {x : Str} {t : Tok} {n : Nat}
theorem str_index {Q : Value → Shared → Prop} (N : News h₀ L s.heap news) (hm : (D, listOf ys.toArray n) ∈ news) (hs : StrsOf ys Y) (hx : x ∈ Y) (hfit : Y.length ≤ 1000)
    (h : ∀ tk t', Q (.int ((Y.idxOf x : Nat) : Int) t') { s with toks := tk }) : wpAny (model prog w) A (call (.builtin "list.index") [.ref D, .str x t]) Q E s := by
  obtain ⟨hj, h1, h2⟩ := strs_at hs hx
  refine call_meets F.slot_list_index ⟨_, (N _ hm).1, rfl⟩ F.entry_list_index (F.args_list_index_2 _ _) (MeetsSeq.list_index D ys.toArray n (.str x t) _ (strs_eq hs) (Y.idxOf x) hj (by have := hs.length; rw [List.size_toArray] at hj; omega) h1 h2) ⟨(N _ hm).1, h _ _⟩
end
theorem two_idx {PS : List Str} {f : Str → Nat} {is : List Nat} {ys : List Value} (h : Two (fun i y => ∃ x, PS[i]? = some x ∧ IsI ((f x : Nat) : Int) y) is ys) : IntsAre ys (is.filterMap fun i => PS[i]?.map fun x => ((f x : Nat) : Int)) := by
  induction h with
  | nil => exact .nil
  | cons r _ ih =>
    obtain ⟨x, hx, t, rfl⟩ := r
    rw [List.filterMap_cons, hx]
    exact .cons _ _ ih
theorem fm_range {α β : Type} (g : α → β) : ∀ (PS : List α), (List.range PS.length).filterMap (fun i => PS[i]?.map g) = PS.map g
  | [] => rfl
  | a :: l => by
    rw [List.length_cons, List.range_succ_eq_map, List.filterMap_cons]
    simp only [List.getElem?_cons_zero, Option.map_some, List.filterMap_map, List.map_cons]
    exact congrArg (g a :: ·) (fm_range g l)
end
-- CR
section
theorem reg_none_CR : True := by
  w_top off
  k_with_none
  trivial
section
variable {prog : Program} {w : World} {A : Around} {E : Value → Shared → Prop} {s : Shared} {h₀ : Heap} {L : Addr} {m : Str → Option Value} {env : Env}
/-- what the source of a comprehension over a range must show -/
structure SrcCR (prog : Program) (w : World) (A : Around) (h₀ : Heap) (L : Addr) (m : Str → Option Value) (env : Env) (elt : Expr) (ifs : List Expr) (x y : Str) (scope : Scope) (cl : List (Str × Addr)) (n : Nat) (Q : Flow → Shared → Prop) (xv : Value) (s₁ : Shared) : Prop where
  ok : ∃ r t u v news, xv = .ref r ∧ A.handled = none ∧ Fr h₀ L s₁.heap m ∧ News h₀ L s₁.heap news ∧ IsRange s₁.heap r 0 (n : Int) 1 t u v ∧ Builtin.Range.small 0 (n : Int) 1 = true ∧ Builtin.Range.rangeSize 0 (n : Int) 1 = ((n : Nat) : Int) ∧ n ≤ sizeLine ∧ ∃ Inv : Nat → List Value → List (Addr × Obj) → Prop, Inv 0 [] news ∧
      ∀ s₂ : Shared, (∃ h, s₂ = { s₁ with heap := h }) → TurnC prog w A h₀ L m env elt ifs x scope cl s₂ (fun _ => True) (fun i v => ∃ t, v = .int (0 + (i : Int)) t) n Inv ∧
        ∀ D h' tk ys news', Fr h₀ L h' (fun z => if z = y then some (.ref D) else m z) → News h₀ L h' ((D, LCg.lst ys) :: news') → (∀ p ∈ news', p.1 ≠ D) → Inv n ys news' → Q .next { s₂ with heap := h', toks := tk }
theorem Assign_ListComp_CR {elt iter : Expr} {ifs : List Expr} {x y : Str} {px py : Pos} {scope : Scope} {cl : List (Str × Addr)} {pos spos : Pos} {Q : Flow → Shared → Prop} (n : Nat) (F₀ : Fr h₀ L s.heap m) (hLe : env.locals = L)
    (hsw : swapsWith (.ListComp elt [⟨.Name x px, iter, ifs, 0⟩] scope pos) (some (.Name y py)) spos.line env = pure true)
    (hclos : closureFor scope env = pure cl) (hcs : ∀ n, cellsFrom n scope.names cl = (x, n) :: cl) (hph : ∀ h, pushCells h scope.names = h.push { cls := .type "cell", data := .cell none }) (hkind : scope.kind = .function)
    (hnames : ∀ y ∈ scope.names, y.2 = .local → scope.names.lookup y.1 = some .local) (hx : scope.names.lookup x = some .cell)
    (hy : env.kindOf y = some .local) (hp : (env.scope.kind == .class || (env.scope.kind == .module && env.locals != env.globals)) = false)
    (h : wpAny (model prog w) A (eval iter env) (SrcCR prog w A h₀ L m env elt ifs x y scope cl n Q) E s)
    (hs : ∀ x, foldedSetIterable iter env x = pure x := by intro _; rfl) :
    wpAny (model prog w) A (exec (.Assign [.Name y py] (.ListComp elt [⟨.Name x px, iter, ifs, 0⟩] scope pos) spos) env) Q E s := by
  subst hLe
  rw [exec_Assign_Name_used _ _ _ _ hsw]
  refine wpAny_bind (wpAny_standAt (wpAny_bind ?_))
  show wpAny _ A (do let _ ← comprehension (.ListComp elt [⟨.Name x px, iter, ifs, 0⟩] scope pos) scope env _ (newList []) false (eval iter env) (some (assign (.Name y py) env))) _ _ s
  refine wpAny_bind (wpAny_mono (wpAny_comprehension_free (use := some (assign (.Name y py) env)) (Q := fun _ s' => Q .next s') rfl hs hclos hkind hnames
    (wpAny_mono h (fun xv s₁ h₁ => ?_) fun _ _ e => e)) (fun _ s' hq => wpAny_pure (wpAny_pure hq)) fun _ _ e => e)
  obtain ⟨r, t, u, v, news, rfl, hh, F, N, hr, hsm, hn, hsz, Inv, h0, R⟩ := h₁.ok
  refine wpAny_pyIter_range hr hsm ?_
  refine block_C (LCg.range_walks hh 0 n) hsz (fun i h st => ⟨_, st⟩) LCg.range_st hcs hph hkind hx (by show IsRangeIter _ _ _ _ _; rw [hn]; simpa using Heap.get?_push_size _ rfl) (fun b hb => ?_)
    (F.keeps fun _ _ e => Heap.get?_push_of_some _ e) (N.grown fun _ _ e => Heap.get?_push_of_some _ e) (Nat.ne_of_lt F.ns.lt) (next_is_new F) (fun p hp => Nat.ne_of_lt (Heap.lt_size (N p hp).1)) trivial Inv h0 (R _ ⟨_, rfl⟩).1 ?_
  · rw [List.mem_singleton.mp hb]
    show s₁.heap.objs.size < (s₁.heap.push _).objs.size
    rw [Heap.size_push]; exact Nat.lt_succ_self _
  · intro D C h tk m' ys news' F' N' o1 hn hC₀ hD₀ hCL hDL hCD offC hInv
    show wpAny _ A (assign (.Name y py) env (.ref D)) _ _ _
    refine wpAny_assign_Name (wpAny_storeName_local hy F'.ns (fun h₂ hn₂ hs₂ => ?_) hp)
    have hL₀ : h₀.get? env.locals = none := Heap.get?_none_of_le F'.above
    have F₂ : Fr h₀ env.locals h₂ (fun z => if z = y then some (.ref D) else m z) := ⟨hn₂, fun b o e => hs₂.extBut b o (fun q => by rw [q, hL₀] at e; cases e) (F'.keep b o e), F'.above⟩
    refine ⟨m', hn.sameBut hs₂ hCL, fun h'' hs'' => (R s₁ ⟨s₁.heap, rfl⟩).2 D h'' _ ys news' (F₂.change hs'' hCL hC₀) (fun p hp => ?_) o1 hInv⟩
    have z : h₂.get? p.1 = some p.2 := hs₂.extBut _ _ (N' p hp).2.1 (N' p hp).1
    refine ⟨hs''.extBut _ _ ?_ z, (N' p hp).2⟩
    rcases List.mem_cons.mp hp with rfl | hp
    · exact Ne.symm hCD
    · exact offC p hp
/-- no turn passes the test -/
theorem turnC_drop {ct elt : Expr} {x : Str} {scope : Scope} {cl : List (Str × Addr)} {s₂ : Shared} {S : List (Addr × Obj) → Prop} {P : Nat → Value → Prop} {n : Nat} {news : List (Addr × Obj)} (hS : S news)
    (turn : ∀ i v I oI C oC D X oX m₂ h tk (E' : Value → Shared → Prop), i < n → P i v → LCg.NsObj oC m₂ → oX.data = .cell (some v) → Fr h₀ L h m → News h₀ L h ((I, oI) :: (C, oC) :: (D, LCg.lst []) :: (X, oX) :: news) → (∀ p ∈ news, p.1 ≠ I ∧ p.1 ≠ C ∧ p.1 ≠ D ∧ p.1 ≠ X) → ((@Ne Nat I C) ∧ (@Ne Nat I D) ∧ (@Ne Nat C D) ∧ (@Ne Nat I X) ∧ (@Ne Nat C X) ∧ (@Ne Nat D X)) →
      wpAny (model prog w) A (isTrue ct (compEnvC scope ((x, X) :: cl) C env) (eval ct (compEnvC scope ((x, X) :: cl) C env))) (fun ok s' => ok = false ∧ Same h₀ L m s₂ ((I, oI) :: (C, oC) :: (D, LCg.lst []) :: (X, oX) :: news) s') E' { s₂ with heap := h, toks := tk }) :
    TurnC prog w A h₀ L m env elt [ct] x scope cl s₂ S P n (fun _ ys news₁ => news₁ = news ∧ ys = []) := by
  rintro i v I oI C oC D X oX ys news₁ m₂ h tk E' hi ⟨rfl, rfl⟩ hv hoC hoX F N off ne
  refine wpAny_tests_one ?_
  refine wpAny_mono (turn i v I oI C oC D X oX m₂ h tk E' hi hv hoC hoX F N off ne) (fun ok s' h' => ?_) fun _ _ e => e
  obtain ⟨rfl, h₁, tk₁, rfl, F₁, N₁⟩ := h'
  exact ⟨h₁, tk₁, _, rfl, F₁, N₁, off, hS, rfl, rfl⟩
end
end
-- G1
section
theorem reg_none_G1 : True := by
  w_top off
  k_with_none
  trivial
theorem leK_trans {a b c : Int × Str} (h1 : ltK b a = false) (h2 : ltK c b = false) : ltK c a = false := by
  cases h : ltK c a with
  | false => rfl
  | true =>
    by_cases e : b = a
    · rw [e] at h2; rw [h2] at h; cases h
    · rw [ltK_trans h (ltK_total e h1)] at h2; cases h2
theorem ltK_asymm {a b : Int × Str} (h : ltK a b = true) : ltK b a = false := by
  cases h2 : ltK b a with
  | false => rfl
  | true => have := ltK_trans h h2; rw [ltK_irrefl] at this; cases this
theorem gset {vs : List Value} {p : Nat} (hp : p < vs.length) (x : Value) (i : Nat) : (vs.set p x).getD i .none = if i = p then x else vs.getD i .none := by
  rw [List.getD_eq_getElem?_getD, List.getElem?_set]
  by_cases h : i = p
  · subst h; simp [hp]
  · rw [if_neg h, if_neg (fun e => h e.symm), List.getD_eq_getElem?_getD]
/-- no entry of the heap is below its parent -/
noncomputable def HP (key : Value → Int × Str) (vs : List Value) : Prop := ∀ i, 0 < i → i < vs.length → ltK (key (vs.getD i .none)) (key (vs.getD ((i - 1) / 2) .none)) = false
theorem swap_perm {vs : List Value} {p q : Nat} (hp : p < vs.length) (hq : q < vs.length) (hne : p ≠ q) (x : Value) : ((vs.set p (vs.getD q .none)).set q x).Perm (vs.set p x) := by
  have h := List.set_set_perm (as := vs.set p x) (i := p) (j := q) (by simpa using hp) (by simpa using hq)
  have e1 : (vs.set p x)[q]'(by simpa using hq) = vs.getD q .none := by
    rw [List.getElem_set_ne hne, List.getD_eq_getElem?_getD, List.getElem?_eq_getElem hq]; rfl
  have e2 : (vs.set p x)[p]'(by simpa using hp) = x := List.getElem_set_self ..
  rw [e1, e2, List.set_set] at h
  exact h
theorem sdn_perm {key : Value → Int × Str} {new : Value} : ∀ (f : Nat) (vs : List Value) (pos : Nat), pos < vs.length → (sdn key new f vs pos).Perm (vs.set pos new)
  | 0, vs, pos, _ => List.Perm.refl _
  | f + 1, vs, pos, hp => by
    unfold sdn
    split
    · exact List.Perm.refl _
    · split
      · refine (sdn_perm f _ _ (by rw [List.length_set]; omega)).trans ?_
        exact swap_perm hp (by omega) (by omega) new
      · exact List.Perm.refl _
theorem sdn_heap {key : Value → Int × Str} {new : Value} : ∀ (f : Nat) (vs : List Value) (pos : Nat), pos < vs.length → pos ≤ f →
    (∀ i, 0 < i → i < vs.length → i ≠ pos → ltK (key ((vs.set pos new).getD i .none)) (key ((vs.set pos new).getD ((i - 1) / 2) .none)) = false) →
    (∀ i, 0 < i → i < vs.length → (i - 1) / 2 = pos → 0 < pos → ltK (key (vs.getD i .none)) (key (vs.getD ((pos - 1) / 2) .none)) = false) → HP key (sdn key new f vs pos)
  | 0, vs, pos, hp, hf, h1, h2 => fun i h0 hi => h1 i h0 (by simpa [sdn] using hi) (by omega)
  | f + 1, vs, pos, hp, hf, h1, h2 => by
    unfold sdn
    split
    · rename_i hz
      exact fun i h0 hi => h1 i h0 (by simpa using hi) (by omega)
    · rename_i hz
      split
      · rename_i hlt
        have hq : (pos - 1) / 2 < vs.length := by omega
        have hqp : (pos - 1) / 2 ≠ pos := by omega
        have hl : (vs.set pos (vs.getD ((pos - 1) / 2) .none)).length = vs.length := List.length_set ..
        have hq' : (pos - 1) / 2 < (vs.set pos (vs.getD ((pos - 1) / 2) .none)).length := by rw [hl]; exact hq
        have q1 : ∀ i, 0 < i → i < vs.length → i ≠ pos → ltK (key (vs.getD i .none)) (key (if (i - 1) / 2 = pos then new else vs.getD ((i - 1) / 2) .none)) = false := fun i a b c => by
          have := h1 i a b c
          rw [gset hp, gset hp, if_neg c] at this
          exact this
        refine sdn_heap f _ _ (by rw [hl]; exact hq) (by omega) (fun i h0 hi hne => ?_) (fun i h0 hi hpar h3 => ?_)
        · rw [hl] at hi
          rw [gset hq', gset hq', gset hp, gset hp, if_neg hne]
          by_cases hip : i = pos
          · subst hip
            rw [if_pos rfl, if_pos rfl]
            exact ltK_asymm hlt
          · rw [if_neg hip]
            by_cases c1 : (i - 1) / 2 = (pos - 1) / 2
            · rw [if_pos c1]
              have := q1 i h0 hi hip
              rw [if_neg (by omega), c1] at this
              exact leK_trans (ltK_asymm hlt) this
            · rw [if_neg c1]
              by_cases c2 : (i - 1) / 2 = pos
              · rw [if_pos c2]
                exact h2 i h0 hi c2 (by omega)
              · rw [if_neg c2]
                have := q1 i h0 hi hip
                rw [if_neg c2] at this
                exact this
        · rw [hl] at hi
          rw [gset hp, gset hp, if_neg (show ¬ ((pos - 1) / 2 - 1) / 2 = pos by omega)]
          have a1 := q1 ((pos - 1) / 2) h3 hq hqp
          rw [if_neg (show ¬ ((pos - 1) / 2 - 1) / 2 = pos by omega)] at a1
          by_cases hip : i = pos
          · rw [if_pos hip]; exact a1
          · rw [if_neg hip]
            have a2 := q1 i h0 hi hip
            rw [if_neg (by omega), hpar] at a2
            exact leK_trans a1 a2
      · rename_i hlt
        intro i h0 hi
        rw [List.length_set] at hi
        by_cases hip : i = pos
        · subst hip
          rw [gset hp, gset hp, if_pos rfl, if_neg (by omega)]
          simpa using hlt
        · exact h1 i h0 hi hip
theorem sup_heap {key : Value → Int × Str} : ∀ (f : Nat) (vs : List Value) (p : Nat), p < vs.length → vs.length ≤ p + f →
    (∀ i, 0 < i → i < vs.length → i ≠ p → (i - 1) / 2 ≠ p → ltK (key (vs.getD i .none)) (key (vs.getD ((i - 1) / 2) .none)) = false) →
    (∀ i, 0 < i → i < vs.length → (i - 1) / 2 = p → 0 < p → ltK (key (vs.getD i .none)) (key (vs.getD ((p - 1) / 2) .none)) = false) →
    ∀ vs' k, sup key f vs p = (vs', k) → k < vs'.length ∧ vs'.length = vs.length ∧ vs'.length ≤ 2 * k + 1 ∧ (∀ i, 0 < i → i < vs'.length → i ≠ k → (i - 1) / 2 ≠ k → ltK (key (vs'.getD i .none)) (key (vs'.getD ((i - 1) / 2) .none)) = false) ∧ ∀ y, (vs'.set k y).Perm (vs.set p y)
  | 0, vs, p, hp, hf, h1, h2, vs', k, e => by omega
  | f + 1, vs, p, hp, hf, h1, h2, vs', k, e => by
    unfold sup at e
    split at e
    · rename_i hc
      have hck := kid_lt (key := key) hc
      have hkid : kid key vs p = 2 * p + 2 ∧ ltK (key (vs.getD (2 * p + 1) .none)) (key (vs.getD (2 * p + 2) .none)) = false ∨ kid key vs p = 2 * p + 1 ∧ (2 * p + 2 < vs.length → ltK (key (vs.getD (2 * p + 2) .none)) (key (vs.getD (2 * p + 1) .none)) = false) := by
        unfold kid
        split
        · rename_i h; exact .inl ⟨rfl, h.2⟩
        · rename_i h
          refine .inr ⟨rfl, fun h3 => ?_⟩
          cases q : ltK (key (vs.getD (2 * p + 1) .none)) (key (vs.getD (2 * p + 2) .none)) with
          | false => exact absurd ⟨h3, q⟩ h
          | true => exact ltK_asymm q
      generalize kid key vs p = c at e hck hkid
      have hcp : (c - 1) / 2 = p ∧ c ≠ p ∧ 0 < c ∧ p < c := by omega
      have hsib : ∀ i, 0 < i → i < vs.length → (i - 1) / 2 = p → i ≠ c → ltK (key (vs.getD i .none)) (key (vs.getD c .none)) = false := by
        intro i a b d g
        rcases hkid with ⟨hk, hk2⟩ | ⟨hk, hk2⟩
        · obtain rfl : i = 2 * p + 1 := by omega
          rw [hk]; exact hk2
        · obtain rfl : i = 2 * p + 2 := by omega
          rw [hk]; exact hk2 b
      clear hkid
      have hl : (vs.set p (vs.getD c .none)).length = vs.length := List.length_set ..
      have := sup_heap f (vs.set p (vs.getD c .none)) c (by rw [hl]; exact hck) (by rw [hl]; omega) (fun i a b d g => ?_) (fun i a b d g => ?_) vs' k e
      · obtain ⟨r1, r2, r3, r4, r5⟩ := this
        exact ⟨r1, r2.trans hl, r3, r4, fun y => (r5 y).trans (swap_perm hp hck (Ne.symm hcp.2.1) y)⟩
      · rw [hl] at b
        rw [gset hp, gset hp]
        by_cases c1 : i = p
        · subst c1
          rw [if_pos rfl, if_neg (by omega)]
          exact h2 c hcp.2.2.1 hck hcp.1 a
        · rw [if_neg c1]
          by_cases c2 : (i - 1) / 2 = p
          · rw [if_pos c2]; exact hsib i a b c2 d
          · rw [if_neg c2]; exact h1 i a b c1 c2
      · rw [hl] at b
        rw [gset hp, gset hp, if_neg (by omega), if_pos hcp.1]
        have := h1 i a b (by omega) (by omega)
        rw [d] at this
        exact this
    · rename_i hc
      obtain ⟨rfl, rfl⟩ := Prod.mk.inj e
      exact ⟨hp, rfl, by omega, h1, fun y => List.Perm.refl _⟩
theorem hp_min {key : Value → Int × Str} {vs : List Value} (h : HP key vs) : ∀ n i, i ≤ n → i < vs.length → ltK (key (vs.getD i .none)) (key (vs.getD 0 .none)) = false
  | 0, i, h0, hi => by obtain rfl : i = 0 := by omega
                       exact ltK_irrefl
  | n + 1, i, h0, hi => by
    by_cases hz : i = 0
    · subst hz; exact ltK_irrefl
    · exact leK_trans (hp_min h n ((i - 1) / 2) (by omega) (by omega)) (h i (by omega) hi)
theorem pop_ok {key : Value → Int × Str} {hs hs' : List Value} {v : Value} (h : HP key hs) (e : popK key hs = some (v, hs')) : HP key hs' ∧ hs.Perm (v :: hs') ∧ ∀ x ∈ hs, ltK (key x) (key v) = false := by
  obtain ⟨ws, y, rfl, ⟨rfl, rfl, rfl⟩ | ⟨hw, rfl, vs', k, hsu, rfl⟩⟩ := popK_some e
  · exact ⟨fun i _ hi => absurd hi (Nat.not_lt_zero i), List.Perm.refl _, fun x hx => by rw [List.mem_singleton.mp hx]; exact ltK_irrefl⟩
  · have hp : 0 < ws.length := List.length_pos_iff.mpr hw
    have ga : ∀ i, i < ws.length → (ws ++ [y]).getD i .none = ws.getD i .none := fun i hi => by
      rw [List.getD_eq_getElem?_getD, List.getElem?_append_left hi, List.getD_eq_getElem?_getD]
    have hl : (ws.set 0 y).length = ws.length := List.length_set ..
    obtain ⟨r1, r2, r3, r4, r5⟩ := sup_heap (key := key) (ws.set 0 y).length (ws.set 0 y) 0 (by rw [hl]; exact hp) (by omega) (fun i a b c d => by
      rw [hl] at b
      rw [gset hp, gset hp, if_neg c, if_neg d]
      have := h i a (by rw [List.length_append]; omega)
      rw [ga i b, ga _ (by omega)] at this
      exact this) (fun i a b c d => absurd d (Nat.lt_irrefl 0)) vs' k hsu
    have hl2 : (vs'.set k y).length = vs'.length := List.length_set ..
    refine ⟨sdn_heap k _ k (by rw [hl2]; exact r1) (Nat.le_refl _) (fun i a b c => ?_) (fun i a b c d => ?_), ?_, ?_⟩
    · rw [hl2] at b
      rw [List.set_set, gset r1, gset r1, if_neg c, if_neg (by omega)]
      exact r4 i a b c (by omega)
    · rw [hl2] at b; omega
    · have p1 := (sdn_perm (key := key) (new := y) k (vs'.set k y) k (by rw [hl2]; exact r1))
      rw [List.set_set] at p1
      have p2 := p1.trans (r5 y)
      rw [List.set_set] at p2
      cases ws with
      | nil => exact absurd rfl hw
      | cons w0 t =>
        show ((w0 :: t) ++ [y]).Perm (w0 :: _)
        refine (List.Perm.cons w0 ?_)
        refine List.Perm.trans ?_ p2.symm
        exact List.perm_append_comm (l₁ := t) (l₂ := [y])
    · intro x hx
      obtain ⟨i, hi, rfl⟩ := List.mem_iff_getElem.mp hx
      have := hp_min h i i (Nat.le_refl _) hi
      rw [ga 0 hp, List.getD_eq_getElem?_getD, List.getElem?_eq_getElem hi] at this
      exact this
theorem push_ok {key : Value → Int × Str} {hs : List Value} {v : Value} (h : HP key hs) : HP key (pushK key hs v) ∧ (pushK key hs v).Perm (v :: hs) := by
  have hl : hs.length < (hs ++ [v]).length := by simp
  have e : (hs ++ [v]).set hs.length v = hs ++ [v] := by simp
  have ga : ∀ i, i < hs.length → (hs ++ [v]).getD i .none = hs.getD i .none := fun i hi => by
    rw [List.getD_eq_getElem?_getD, List.getElem?_append_left hi, List.getD_eq_getElem?_getD]
  refine ⟨sdn_heap _ _ _ hl (Nat.le_refl _) (fun i a b c => ?_) (fun i a b c d => ?_), ?_⟩
  · rw [e]
    rw [List.length_append, List.length_singleton] at b
    rw [ga i (by omega), ga _ (by omega)]
    exact h i a (by omega)
  · rw [List.length_append, List.length_singleton] at b; omega
  · have := sdn_perm (key := key) (new := v) hs.length (hs ++ [v]) hs.length hl
    rw [e] at this
    exact this.trans (List.perm_append_comm (l₁ := hs) (l₂ := [v]))
theorem pushes_ok {key : Value → Int × Str} : ∀ (l hs : List Value), HP key hs → HP key (l.foldl (pushK key) hs) ∧ (l.foldl (pushK key) hs).Perm (l ++ hs)
  | [], hs, h => ⟨h, List.Perm.refl _⟩
  | v :: l, hs, h => by
    obtain ⟨h1, h2⟩ := push_ok (v := v) h
    obtain ⟨h3, h4⟩ := pushes_ok l _ h1
    exact ⟨h3, h4.trans ((List.Perm.append_left l h2).trans List.perm_middle)⟩
theorem pop_some {key : Value → Int × Str} {hs : List Value} (h : hs ≠ []) : ∃ v hs', popK key hs = some (v, hs') := by
  unfold popK
  split
  · rename_i e; exact absurd (List.reverse_eq_nil_iff.mp e) h
  · split
    · exact ⟨_, _, rfl⟩
    · exact ⟨_, _, rfl⟩
end
-- G2
section
theorem reg_none_G2 : True := by
  w_top off
  k_with_none
  trivial
noncomputable def kf (dep : Str → Int) (x : Str) : Int × Str := (-(dep x), x)
/-- the posts, by the order of the items -/
noncomputable def greedy (dep : Str → Int) (r : Int) : List Str → List Str → List Str
  | [], _ => []
  | x :: suf, rs => if x ∈ rs then upT r x :: greedy dep r suf (rs.reverse.filter fun y => !nearB dep r (upT r x) y) else greedy dep r suf rs
theorem greedy_nil {dep : Str → Int} {r : Int} : ∀ suf, greedy dep r suf [] = []
  | [] => rfl
  | x :: suf => by unfold greedy; rw [if_neg (List.not_mem_nil)]; exact greedy_nil suf
theorem uld_ok {p : Str → Bool} : ∀ (X M Y : List Str), X.Nodup → Y.Perm (X.filter p) → uld X M Y = (M ++ X.filter (fun y => !p y), [])
  | [], M, Y, _, h => by
    obtain rfl : Y = [] := List.Perm.eq_nil h
    simp [uld]
  | x :: r, M, Y, hn, h => by
    obtain ⟨hx, hr⟩ := List.nodup_cons.mp hn
    unfold uld
    cases hp : p x with
    | true =>
      rw [List.filter_cons, if_pos hp] at h
      rw [if_pos (h.symm.subset (.head _)), List.filter_cons, if_neg (by simp [hp])]
      refine uld_ok r M _ hr ?_
      have := h.erase x
      rwa [List.erase_cons_head] at this
    | false =>
      rw [List.filter_cons, if_neg (by simp [hp])] at h
      rw [if_neg (fun hm => hx (List.mem_filter.mp (h.subset hm)).1), List.filter_cons, if_pos (by simp [hp]), uld_ok r _ Y hr h]
      simp
theorem go_ok {key : Value → Int × Str} {dep : Str → Int} {r : Int} {P : List Str} (hself : ∀ x ∈ P, nearB dep r (upT r x) x = true) : ∀ (suf : List Str) (hs os : List Value) (ps rs : List Str), HP key hs → (hs.map key).Perm (suf.map (kf dep)) → suf.Pairwise (fun a b => ltK (kf dep a) (kf dep b) = true) → rs.Nodup → (∀ x ∈ rs, x ∈ suf) → (∀ x ∈ rs, x ∈ P) → rs.length ≤ 8 →
    ∃ H O, Go key dep r P suf.length hs os ps rs H (os ++ O) (ps ++ greedy dep r suf rs) ∧ (O ++ H).Perm hs ∧ O.Pairwise (fun a b => ltK (key a) (key b) = true) ∧ ∀ a ∈ O, ∀ b ∈ H, ltK (key a) (key b) = true
  | suf, hs, os, ps, [], hh, hp, hsrt, hn, hsub, hP, h8 => ⟨hs, [], by rw [greedy_nil, List.append_nil, List.append_nil]; exact .done, List.Perm.refl _, .nil, fun a ha => nomatch ha⟩
  | [], hs, os, ps, y :: rs, hh, hp, hsrt, hn, hsub, hP, h8 => nomatch hsub y (.head _)
  | x :: suf, hs, os, ps, y :: rs, hh, hp, hsrt, hn, hsub, hP, h8 => by
    have hne : y :: rs ≠ [] := List.cons_ne_nil _ _
    generalize y :: rs = rr at hn hsub hP h8 hne
    have hh0 : hs ≠ [] := fun e => by rw [e] at hp; have := hp.length_eq; simp at this
    obtain ⟨v, hs', hpop⟩ := pop_some (key := key) hh0
    obtain ⟨hh', hpm, hmin⟩ := pop_ok hh hpop
    obtain ⟨hx1, hx2⟩ := List.pairwise_cons.mp hsrt
    have hkv : key v = kf dep x := by
      have m1 : key v ∈ (x :: suf).map (kf dep) := hp.subset (List.mem_map.mpr ⟨v, hpm.symm.subset (.head _), rfl⟩)
      obtain ⟨v0, hv0, e0⟩ := List.mem_map.mp (hp.symm.subset (List.mem_map.mpr ⟨x, .head _, rfl⟩ : kf dep x ∈ (x :: suf).map (kf dep)))
      have m2 := hmin v0 hv0
      obtain ⟨z, hz, ez⟩ := List.mem_map.mp m1
      rcases List.mem_cons.mp hz with rfl | hz
      · exact ez.symm
      · rw [e0, ← ez, hx1 z hz] at m2; cases m2
    have hp' : (hs'.map key).Perm (suf.map (kf dep)) := by
      have := (hpm.map key).symm.trans hp
      rw [List.map_cons, List.map_cons, hkv] at this
      exact this.cons_inv
    have hlt : ∀ b ∈ hs', ltK (key v) (key b) = true := fun b hb => by
      obtain ⟨z, hz, ez⟩ := List.mem_map.mp (hp'.subset (List.mem_map.mpr ⟨b, hb, rfl⟩))
      rw [hkv, ← ez]; exact hx1 z hz
    have hk2 : (key v).2 = x := by rw [hkv]; rfl
    by_cases hx : x ∈ rr
    · have hu := uld_ok (p := nearB dep r (upT r x)) rr.reverse [] (rr.filter (nearB dep r (upT r x))) ((List.reverse_perm _).nodup_iff.mpr hn) ((List.reverse_perm rr).filter _).symm
      rw [List.nil_append] at hu
      have hM : ∀ z ∈ rr.reverse.filter (fun y => !nearB dep r (upT r x) y), z ∈ rr ∧ nearB dep r (upT r x) z = false := fun z hz => by
        have := List.mem_filter.mp hz
        exact ⟨List.mem_reverse.mp this.1, by simpa using this.2⟩
      obtain ⟨H, O, g1, g2, g3, g4⟩ := go_ok hself suf hs' (os ++ [v]) (ps ++ [upT r x]) (rr.reverse.filter fun y => !nearB dep r (upT r x) y) hh' hp' hx2 (((List.reverse_perm _).nodup_iff.mpr hn).filter _) (fun z hz => by
        obtain ⟨a, b⟩ := hM z hz
        rcases List.mem_cons.mp (hsub z a) with rfl | h
        · rw [hself z (hP z a)] at b; cases b
        · exact h) (fun z hz => hP z (hM z hz).1) (Nat.le_trans (List.length_filter_le _ _) (by rw [List.length_reverse]; exact h8))
      refine ⟨H, v :: O, ?_, ?_, ?_, ?_⟩
      · rw [greedy, if_pos hx]
        rw [List.append_assoc, List.append_assoc] at g1
        exact Go.take hne hP h8 hpop (hk2 ▸ hx) (by rw [hk2]; exact hu) (by rw [hk2]; exact g1)
      · exact (List.Perm.cons v g2).trans hpm.symm
      · exact List.pairwise_cons.mpr ⟨fun b hb => hlt b (g2.subset (List.mem_append_left _ hb)), g3⟩
      · intro a ha b hb
        rcases List.mem_cons.mp ha with rfl | ha
        · exact hlt b (g2.subset (List.mem_append_right _ hb))
        · exact g4 a ha b hb
    · obtain ⟨H, O, g1, g2, g3, g4⟩ := go_ok hself suf hs' (os ++ [v]) ps rr hh' hp' hx2 hn (fun z hz => by
        rcases List.mem_cons.mp (hsub z hz) with rfl | h
        · exact absurd hz hx
        · exact h) hP h8
      refine ⟨H, v :: O, ?_, ?_, ?_, ?_⟩
      · rw [greedy, if_neg hx]
        rw [List.append_assoc] at g1
        exact Go.skip hne hP h8 hpop (hk2 ▸ hx) g1
      · exact (List.Perm.cons v g2).trans hpm.symm
      · exact List.pairwise_cons.mpr ⟨fun b hb => hlt b (g2.subset (List.mem_append_left _ hb)), g3⟩
      · intro a ha b hb
        rcases List.mem_cons.mp ha with rfl | ha
        · exact hlt b (g2.subset (List.mem_append_right _ hb))
        · exact g4 a ha b hb
theorem kf_inj {dep : Str → Int} {a b : Str} (h : kf dep a = kf dep b) : a = b := congrArg Prod.snd h
theorem run_ok {dep : Str → Int} {r : Int} {P srt : List Str} (hself : ∀ x ∈ P, nearB dep r (upT r x) x = true) (hn : P.Nodup) (h8 : P.length ≤ 8) (hp : srt.Perm P) (hs : srt.Pairwise (fun a b => ltK (kf dep a) (kf dep b) = true)) (key : Value → Int × Str) (vs0 : List Value) (hk : vs0.map key = P.map (kf dep)) :
    ∃ n H O, Go key dep r P n (vs0.foldl (pushK key) []) [] [] P H O (greedy dep r srt P) ∧ EndOk key vs0 H O := by
  obtain ⟨h1, h2⟩ := pushes_ok (key := key) vs0 [] (fun i _ hi => absurd hi (Nat.not_lt_zero i))
  rw [List.append_nil] at h2
  have hkn : (vs0.map key).Nodup := by
    rw [hk]
    exact List.Pairwise.map _ (fun a b hab e => hab (kf_inj e)) hn
  obtain ⟨H, O, g1, g2, g3, g4⟩ := go_ok (key := key) hself srt _ [] [] P h1 ((h2.map key).trans (by rw [hk]; exact (hp.map _).symm)) hs hn (fun x hx => hp.symm.subset hx) (fun x hx => hx) h8
  rw [List.nil_append, List.nil_append] at g1
  have g5 := g2.trans h2
  refine ⟨_, H, O, g1, hkn, ?_, fun S T hS hS2 hT hT2 => ?_⟩
  · have := (g5.map key).symm.nodup_iff.mp hkn
    rw [List.map_append] at this
    exact (List.nodup_append.mp this).2.1
  · refine List.Perm.eq_of_pairwise (le := fun a b => ltK (key a) (key b) = true) (fun a b _ _ h1 h2 => ?_) ?_ hT2 ((List.Perm.append_left O hS).trans (g5.trans hT.symm))
    · rw [ltK_asymm h1] at h2; cases h2
    · exact List.pairwise_append.mpr ⟨g3, hS2, fun a ha b hb => g4 a ha b (hS.subset hb)⟩
theorem srt_ok (dep : Str → Int) {P : List Str} (hn : P.Nodup) : ∃ srt : List Str, srt.Perm P ∧ srt.Pairwise (fun a b => ltK (kf dep a) (kf dep b) = true) := by
  refine ⟨P.mergeSort (fun a b => !ltK (kf dep b) (kf dep a)), List.mergeSort_perm _ _, ?_⟩
  have h1 := List.pairwise_mergeSort (le := fun a b => !ltK (kf dep b) (kf dep a)) (fun a b c h1 h2 => by
    simp only [Bool.not_eq_true'] at *
    exact leK_trans h1 h2) (fun a b => by
    cases h : ltK (kf dep b) (kf dep a) with
    | false => rfl
    | true => rw [ltK_asymm h]; rfl) P
  have h2 : (P.mergeSort (fun a b => !ltK (kf dep b) (kf dep a))).Nodup := (List.mergeSort_perm P _).nodup_iff.mpr hn
  refine (h1.and h2).imp (fun {a b} h => ?_)
  obtain ⟨h3, h4⟩ := h
  simp only [Bool.not_eq_true'] at h3
  exact ltK_total (fun e => h4 (kf_inj e).symm) h3
/-- steps between two paths -/
noncomputable def dT (dep : Str → Int) (x y : Str) : Int := dep x + dep y - 2 * dep (cpT x y)
theorem near_iff {dep : Str → Int} {r : Int} {p x : Str} : nearB dep r p x = decide (dT dep x p ≤ r) := rfl
theorem greedy_ok {dep : Str → Int} {r : Int} {P : List Str} (hself : ∀ x ∈ P, nearB dep r (upT r x) x = true) (hkey : ∀ x ∈ P, ∀ y ∈ P, dep y ≤ dep x → r < dT dep y (upT r x) → 2 * r < dT dep x y) :
    ∀ (suf rs : List Str), suf.Pairwise (fun a b => ltK (kf dep a) (kf dep b) = true) → rs.Nodup → (∀ x ∈ rs, x ∈ suf) → (∀ x ∈ rs, x ∈ P) →
    ∃ xs : List Str, greedy dep r suf rs = xs.map (upT r) ∧ xs.Nodup ∧ (∀ x ∈ xs, x ∈ rs) ∧ xs.Pairwise (fun x y => 2 * r < dT dep x y) ∧ ∀ y ∈ rs, ∃ p ∈ greedy dep r suf rs, dT dep y p ≤ r
  | [], rs, hs, hn, hsub, hP => ⟨[], rfl, .nil, (fun x hx => nomatch hx), .nil, fun y hy => nomatch hsub y hy⟩
  | x :: suf, rs, hs, hn, hsub, hP => by
    obtain ⟨hx1, hx2⟩ := List.pairwise_cons.mp hs
    unfold greedy
    by_cases hx : x ∈ rs
    · rw [if_pos hx]
      have hM : ∀ z ∈ rs.reverse.filter (fun y => !nearB dep r (upT r x) y), z ∈ rs ∧ nearB dep r (upT r x) z = false := fun z hz => by
        have := List.mem_filter.mp hz
        exact ⟨List.mem_reverse.mp this.1, by simpa using this.2⟩
      have hsuf : ∀ z ∈ rs.reverse.filter (fun y => !nearB dep r (upT r x) y), z ∈ suf := fun z hz => by
        obtain ⟨a, b⟩ := hM z hz
        rcases List.mem_cons.mp (hsub z a) with rfl | h
        · rw [hself z (hP z a)] at b; cases b
        · exact h
      obtain ⟨xs, e, hxn, hxs, hpw, hcov⟩ := greedy_ok hself hkey suf (rs.reverse.filter fun y => !nearB dep r (upT r x) y) hx2 (((List.reverse_perm _).nodup_iff.mpr hn).filter _) hsuf (fun z hz => hP z (hM z hz).1)
      refine ⟨x :: xs, by rw [e]; rfl, List.nodup_cons.mpr ⟨fun hm => ?_, hxn⟩, fun z hz => ?_, List.pairwise_cons.mpr ⟨fun y hy => ?_, hpw⟩, fun y hy => ?_⟩
      · obtain ⟨a, b⟩ := hM x (hxs x hm)
        rw [hself x (hP x a)] at b; cases b
      · rcases List.mem_cons.mp hz with rfl | hz
        · exact hx
        · exact (hM z (hxs z hz)).1
      · obtain ⟨a, b⟩ := hM y (hxs y hy)
        refine hkey x (hP x hx) y (hP y a) ?_ ?_
        · have h := hx1 y (hsuf y (hxs y hy))
          unfold ltK at h
          by_cases e : (kf dep x).1 = (kf dep y).1
          · have e' : -(dep x) = -(dep y) := e
            omega
          · rw [if_neg e] at h
            have h' : -(dep x) < -(dep y) := of_decide_eq_true h
            omega
        · rw [near_iff] at b
          have := of_decide_eq_false b
          omega
      · cases h : nearB dep r (upT r x) y with
        | true =>
          rw [near_iff] at h
          exact ⟨_, .head _, of_decide_eq_true h⟩
        | false =>
          obtain ⟨p, hp, hd⟩ := hcov y (List.mem_filter.mpr ⟨List.mem_reverse.mpr hy, by rw [h]; rfl⟩)
          exact ⟨p, .tail _ hp, hd⟩
    · rw [if_neg hx]
      exact greedy_ok hself hkey suf rs hx2 hn (fun z hz => by
        rcases List.mem_cons.mp (hsub z hz) with rfl | h
        · exact absurd hz hx
        · exact h) hP
end
-- G3
section
theorem reg_none_G3 : True := by
  w_top off
  k_with_none
  trivial
theorem sl_eq : Str.ofString "/" = ⟨#[47]⟩ := by decide +kernel
/-- texts glued by a slash, as codes -/
noncomputable def gl : List (List Nat) → List Nat
  | [] => []
  | [x] => x
  | x :: y :: r => x ++ 47 :: gl (y :: r)
theorem gl_cons {x y : List Nat} {r : List (List Nat)} : gl (x :: y :: r) = x ++ 47 :: gl (y :: r) := rfl
theorem app_inj {x y A B : List Nat} : (47 ∉ x) → (47 ∉ y) → x ++ 47 :: A = y ++ 47 :: B → x = y ∧ A = B := by
  induction x generalizing y with
  | nil =>
    intro hx hy e
    cases y with
    | nil => exact ⟨rfl, (List.cons.inj e).2⟩
    | cons b y => exact absurd (by rw [(List.cons.inj e).1]; exact .head _) hy
  | cons a x ih =>
    intro hx hy e
    cases y with
    | nil => exact absurd (by rw [← (List.cons.inj e).1]; exact .head _) hx
    | cons b y =>
      obtain ⟨e1, e2⟩ := List.cons.inj e
      obtain ⟨e3, e4⟩ := ih (fun h => hx (.tail _ h)) (fun h => hy (.tail _ h)) e2
      exact ⟨by rw [e1, e3], e4⟩
theorem gl_inj : ∀ {ps qs : List (List Nat)}, ps ≠ [] → qs ≠ [] → (∀ p ∈ ps, 47 ∉ p) → (∀ q ∈ qs, 47 ∉ q) → gl ps = gl qs → ps = qs
  | [], _, h, _, _, _, _ => absurd rfl h
  | _, [], _, h, _, _, _ => absurd rfl h
  | [x], [y], _, _, _, _, e => by rw [show x = y from e]
  | [x], y :: z :: r, _, _, hp, _, e => by
    have e' : x = y ++ 47 :: gl (z :: r) := e
    exact absurd (by rw [e']; simp) (hp x (.head _))
  | x :: z :: r, [y], _, _, _, hq, e => by
    have e' : x ++ 47 :: gl (z :: r) = y := e
    exact absurd (by rw [← e']; simp) (hq y (.head _))
  | x :: z :: r, y :: u :: t, _, _, hp, hq, e => by
    obtain ⟨e1, e2⟩ := app_inj (hp x (.head _)) (hq y (.head _)) e
    rw [e1, gl_inj (List.cons_ne_nil _ _) (List.cons_ne_nil _ _) (fun p h => hp p (.tail _ h)) (fun q h => hq q (.tail _ h)) e2]
theorem join_gl : ∀ xs : List Str, (Str.join ⟨#[47]⟩ xs).cps.toList = gl (xs.map fun x => x.cps.toList)
  | [] => rfl
  | [x] => rfl
  | x :: y :: r => by
    have ih := join_gl (y :: r)
    show ((x.cps ++ #[47]) ++ (Str.join ⟨#[47]⟩ (y :: r)).cps).toList = _
    rw [Array.toList_append, Array.toList_append, ih]
    simp [gl]
theorem str_ext {x y : Str} (h : x.cps.toList = y.cps.toList) : x = y := by
  cases x; cases y; exact congrArg _ (Array.toList_inj.mp h)
/-- the split of a glued text -/
theorem split_gl {ps : List Str} (h0 : ps ≠ []) (hf : ∀ p ∈ ps, 47 ∉ p.cps.toList) {x : Str} (hx : x.cps.toList = gl (ps.map fun x => x.cps.toList)) : Txt.split x ⟨#[47]⟩ = ps := by
  have h1 := StrLaws.join_split x ⟨#[47]⟩
  have h2 := StrLaws.split_free x 47
  have h3 : gl ((Txt.split x ⟨#[47]⟩).map fun x => x.cps.toList) = gl (ps.map fun x => x.cps.toList) := by
    rw [← join_gl, h1, hx]
  have hne : Txt.split x ⟨#[47]⟩ ≠ [] := by
    unfold Txt.split
    split
    · exact List.cons_ne_nil _ _
    · split
      · exact List.cons_ne_nil _ _
      · intro e
        have := congrArg List.length e
        simp [Builtin.Str.partsBetween] at this
  have h4 := gl_inj (by simpa using hne) (by simpa using h0) (fun p hp => by
    obtain ⟨q, hq, rfl⟩ := List.mem_map.mp hp
    exact h2 q hq) (fun p hp => by
    obtain ⟨q, hq, rfl⟩ := List.mem_map.mp hp
    exact hf q hq) h3
  have inj : ∀ {a b : List Str}, a.map (fun x => x.cps.toList) = b.map (fun x => x.cps.toList) → a = b := by
    intro a
    induction a with
    | nil => intro b h; cases b with
      | nil => rfl
      | cons => simp at h
    | cons u a ih =>
      intro b h
      cases b with
      | nil => simp at h
      | cons v b =>
        rw [List.map_cons, List.map_cons] at h
        obtain ⟨e1, e2⟩ := List.cons.inj h
        rw [str_ext e1, ih e2]
  exact inj h4
theorem rfind_snoc (b : List Nat) {c : Nat} (hc : c ≠ 47) : Txt.rfind ⟨(b ++ [47, c]).toArray⟩ ⟨#[47]⟩ = (b.length : Int) := by
  have at1 : ∀ i, StrLaws.At ⟨(b ++ [47, c]).toArray⟩ ⟨#[47]⟩ (⟨(b ++ [47, c]).toArray⟩ : Str).length i ↔ (b ++ [47, c])[i]? = some 47 := fun i => StrLaws.subAt_one ⟨(b ++ [47, c]).toArray⟩ 47 i
  have h0 : (b ++ [47, c])[b.length]? = some 47 := by simp
  have h1 : ∀ k, b.length < k → (b ++ [47, c])[k]? ≠ some 47 := fun k hk e => by
    rw [List.getElem?_append_right (Nat.le_of_lt hk)] at e
    match q : k - b.length, e with
    | 0, _ => omega
    | 1, e => rw [List.getElem?_cons_succ, List.getElem?_cons_zero] at e; exact hc (Option.some.inj e)
    | n + 2, e => simp at e
  unfold Txt.rfind
  rcases StrLaws.last_spec ⟨(b ++ [47, c]).toArray⟩ ⟨#[47]⟩ with ⟨_, h⟩ | ⟨i, e, h, h2⟩
  · exact absurd ((at1 _).mpr h0) (h _)
  · rw [e]
    show (i : Int) = b.length
    rcases Nat.lt_trichotomy i b.length with h3 | h3 | h3
    · exact absurd ((at1 _).mpr h0) (h2 _ h3)
    · rw [h3]
    · exact absurd ((at1 _).mp h) (h1 _ h3)
theorem slice_snoc (b : List Nat) (c : Nat) : Txt.slice ⟨(b ++ [47, c]).toArray⟩ none (some ((b.length : Int) + 1)) = ⟨(b ++ [47]).toArray⟩ := by
  have h := StrLaws.sliceText_to (x := ⟨(b ++ [47, c]).toArray⟩) (j := (b.length : Int) + 1) ⟨by omega, by simp⟩
  refine Eq.trans h ?_
  have e : ((b.length : Int) + 1 - 0).toNat = b.length + 1 := by omega
  rw [e]
  have e2 : List.take (b.length + 1) b = b := List.take_of_length_le (Nat.le_succ _)
  simp [List.take_append, e2]
theorem mul_all (n : Nat) : ∀ c ∈ (Txt.mul ⟨#[47]⟩ (n : Int)).cps.toList, c = 47 := by
  have key : ∀ (k : Nat) (a : Array Nat), (∀ c ∈ a.toList, c = 47) → ∀ c ∈ ((List.replicate k #[47]).foldl (· ++ ·) a).toList, c = 47 := by
    intro k
    induction k with
    | zero => intro a h; exact h
    | succ k ih =>
      intro a h
      rw [List.replicate_succ, List.foldl_cons]
      refine ih _ (fun c hc => ?_)
      simp at hc
      rcases hc with hc | hc
      · exact h c (by simpa using hc)
      · exact hc
  unfold Txt.mul
  split
  · intro c hc; simp [Str.empty] at hc
  · split
    · intro c hc; simpa using hc
    · exact key _ _ (fun c hc => by simp at hc)
theorem rstrip_snoc {b : List Nat} {d : Nat} (hd : d ≠ 47) : Txt.rstripChars ⟨(b ++ [d] ++ [47]).toArray⟩ ⟨#[47]⟩ = ⟨(b ++ [d]).toArray⟩ := by
  have hg : (((⟨(b ++ [d] ++ [47]).toArray⟩ : Str).cps.toList.drop 0).reverse.takeWhile (#[47] : Array Nat).contains).length = 1 := by
    have e : (b ++ [d] ++ [47]).reverse = 47 :: d :: b.reverse := by simp
    show ((b ++ [d] ++ [47]).reverse.takeWhile _).length = 1
    rw [e, List.takeWhile_cons, if_pos (by simp), List.takeWhile_cons, if_neg (by simpa using hd)]
    rfl
  have hl : (⟨(b ++ [d] ++ [47]).toArray⟩ : Str).length = b.length + 2 := by simp [Str.length]
  unfold Txt.rstripChars Txt.stripBy
  have hlo : stripLo (#[47] : Array Nat).contains false ⟨(b ++ [d] ++ [47]).toArray⟩ = 0 := rfl
  have hhi : stripHi (#[47] : Array Nat).contains true ⟨(b ++ [d] ++ [47]).toArray⟩ 0 = b.length + 1 := by
    unfold stripHi
    rw [if_pos rfl, hg, hl]; omega
  rw [if_neg]
  · unfold PySem.stripped
    show Builtin.Str.strSub _ (stripLo (#[47] : Array Nat).contains false _) (stripHi (#[47] : Array Nat).contains true _ (stripLo (#[47] : Array Nat).contains false _)) = _
    rw [hlo, hhi]
    apply str_ext
    simp [Builtin.Str.strSub, List.take_append]
  · show ¬ stripSame (#[47] : Array Nat).contains false true _ = true
    unfold stripSame
    rw [hlo, hhi, hl]
    simp
theorem dir_snoc {b : List Nat} {c : Nat} (hc : c ≠ 47) (hb : b = [] ∨ ∃ b' d, b = b' ++ [d] ∧ d ≠ 47) : dirT ⟨(b ++ [47, c]).toArray⟩ = if b = [] then ⟨#[47]⟩ else ⟨b.toArray⟩ := by
  unfold dirT
  rw [sl_eq, rfind_snoc b hc, slice_snoc b c, if_neg (by simp [Str.length])]
  rcases hb with rfl | ⟨b', d, rfl, hd⟩
  · rw [if_pos rfl]
    have : ((⟨([] ++ [47] : List Nat).toArray⟩ : Str) != Txt.mul ⟨#[47]⟩ ((⟨([] ++ [47] : List Nat).toArray⟩ : Str).length : Int)) = false := by decide +kernel
    rw [if_pos this]; rfl
  · rw [if_neg, if_neg (by simp)]
    · exact rstrip_snoc hd
    · intro h
      have h2 : (⟨(b' ++ [d] ++ [47]).toArray⟩ : Str) = Txt.mul ⟨#[47]⟩ ((⟨(b' ++ [d] ++ [47]).toArray⟩ : Str).length : Int) := by
        simpa using h
      have h3 := mul_all (⟨(b' ++ [d] ++ [47]).toArray⟩ : Str).length d (by rw [← h2]; simp)
      exact hd h3
end
-- G4
section
theorem reg_none_G4 : True := by
  w_top off
  k_with_none
  trivial
noncomputable def code (k : Int) : Nat := (Txt.charAt (Str.ofString "dafcgbe") (k.fmod 7)).getD 0
theorem lett_code (k : Int) : lett k = ⟨#[code k]⟩ := rfl
theorem code_ok (k : Int) : code k ≠ 47 ∧ code k ≠ 46 := by
  obtain ⟨j, hj, e⟩ := lett_cases k
  unfold code
  rw [e]
  have : ∀ j < 7, (Txt.charAt (Str.ofString "dafcgbe") (j : Nat)).getD 0 ≠ 47 ∧ (Txt.charAt (Str.ofString "dafcgbe") (j : Nat)).getD 0 ≠ 46 := by decide +kernel
  exact this j hj
theorem code_inj {t : Int} {i j : Nat} (hi : i < 7) (hj : j < 7) (h : code ((i : Int) + t) = code ((j : Int) + t)) : i = j := by
  obtain ⟨a, ha, ea⟩ := lett_cases ((i : Int) + t)
  obtain ⟨b, hb, eb⟩ := lett_cases ((j : Int) + t)
  unfold code at h
  rw [ea, eb] at h
  have : ∀ a < 7, ∀ b < 7, (Txt.charAt (Str.ofString "dafcgbe") (a : Nat)).getD 0 = (Txt.charAt (Str.ofString "dafcgbe") (b : Nat)).getD 0 → a = b := by decide +kernel
  have e := this a ha b hb h
  rw [Int.fmod_eq_emod_of_nonneg _ (by decide)] at ea eb
  omega
/-- the path of a word of places -/
noncomputable def pstr (t : Int) (l : List Nat) : Str := Str.ofString "/" ++ Txt.join (Str.ofString "/") (l.map fun k : Nat => lett ((k : Int) + t))
noncomputable def cds (t : Int) (l : List Nat) : List Nat := 47 :: gl (l.map fun k : Nat => [code ((k : Int) + t)])
theorem pstr_cds (t : Int) (l : List Nat) : (pstr t l).cps.toList = cds t l := by
  unfold pstr cds
  rw [sl_eq]
  show ((#[47] : Array Nat) ++ (Txt.join ⟨#[47]⟩ (l.map fun k : Nat => lett ((k : Int) + t))).cps).toList = _
  have e : Txt.join ⟨#[47]⟩ (l.map fun k : Nat => lett ((k : Int) + t)) = Str.join ⟨#[47]⟩ (l.map fun k : Nat => lett ((k : Int) + t)) := StrLaws.glued_eq_join _ _
  rw [e, Array.toList_append, join_gl, List.map_map]
  rfl
theorem pstr_eq (t : Int) (l : List Nat) : pstr t l = ⟨(cds t l).toArray⟩ := str_ext (by rw [pstr_cds])
theorem gl_snoc : ∀ {xs : List (List Nat)} {y : List Nat}, xs ≠ [] → gl (xs ++ [y]) = gl xs ++ 47 :: y
  | [], _, h => absurd rfl h
  | [x], y, _ => rfl
  | x :: z :: r, y, _ => by
    have ih := gl_snoc (xs := z :: r) (y := y) (List.cons_ne_nil _ _)
    show x ++ 47 :: gl ((z :: r) ++ [y]) = (x ++ 47 :: gl (z :: r)) ++ 47 :: y
    rw [ih]; simp
noncomputable def bs (t : Int) (l : List Nat) : List Nat := if l = [] then [] else cds t l
theorem cds_snoc (t : Int) (l : List Nat) (k : Nat) : cds t (l ++ [k]) = bs t l ++ [47, code ((k : Int) + t)] := by
  unfold cds bs
  by_cases h : l = []
  · subst h; rfl
  · rw [if_neg h, List.map_append]
    show 47 :: gl (_ ++ [_]) = _
    rw [gl_snoc (by simpa using h)]
    unfold cds
    simp
theorem bs_end (t : Int) (l : List Nat) : bs t l = [] ∨ ∃ b' d, bs t l = b' ++ [d] ∧ d ≠ 47 := by
  rcases List.eq_nil_or_concat l with rfl | ⟨l', k, rfl⟩
  · exact .inl rfl
  · refine .inr ⟨bs t l' ++ [47], code ((k : Int) + t), ?_, (code_ok _).1⟩
    rw [List.concat_eq_append]
    rw [show bs t (l' ++ [k]) = cds t (l' ++ [k]) from if_neg (by simp), cds_snoc]
    simp
theorem dir_pstr (t : Int) (l : List Nat) (k : Nat) : dirT (pstr t (l ++ [k])) = pstr t l := by
  rw [pstr_eq, cds_snoc, dir_snoc (code_ok _).1 (bs_end t l)]
  by_cases h : l = []
  · subst h
    rw [if_pos (show bs t [] = [] from rfl)]
    exact str_ext (by rw [pstr_cds]; rfl)
  · rw [show bs t l = cds t l from if_neg h, if_neg (show ¬ cds t l = [] from List.cons_ne_nil _ _), pstr_eq]
theorem pstr_nil (t : Int) : pstr t [] = Str.ofString "/" := by
  rw [sl_eq]; exact str_ext (by rw [pstr_cds]; rfl)
theorem dir_drop (t : Int) (l : List Nat) : dirT (pstr t l) = pstr t l.dropLast := by
  rcases List.eq_nil_or_concat l with rfl | ⟨l', k, rfl⟩
  · show dirT (pstr t []) = pstr t []
    rw [pstr_nil]
    decide +kernel
  · rw [List.concat_eq_append, dir_pstr, List.dropLast_concat]
theorem join_pstr (t : Int) (l : List Nat) (k : Nat) : joinT (pstr t l) (lett ((k : Int) + t)) = pstr t (l ++ [k]) := by
  have hc : (pstr t (l ++ [k])).cps.toList = bs t l ++ [47, code ((k : Int) + t)] := by rw [pstr_cds, cds_snoc]
  unfold joinT
  by_cases h : l = []
  · subst h
    rw [pstr_nil, if_pos (by decide +kernel), sl_eq]
    exact str_ext (by rw [hc]; rfl)
  · have he : ¬ Txt.endswith (pstr t l) (Str.ofString "/") = true := by
      rw [sl_eq]
      intro e
      unfold Txt.endswith at e
      rw [Bool.and_eq_true] at e
      have e2 := (StrLaws.subAt_one (pstr t l) 47 ((pstr t l).length - 1)).mp ⟨by
        have := of_decide_eq_true e.1
        have e1 : (⟨#[47]⟩ : Str).length = 1 := rfl
        rw [e1] at this ⊢; omega, e.2⟩
      have hl : (pstr t l).length = (cds t l).length := by rw [pstr_eq]; exact List.size_toArray ..
      rcases bs_end t l with q | ⟨b', d, q, hd⟩
      · rw [show bs t l = cds t l from if_neg h] at q; cases q
      · rw [show bs t l = cds t l from if_neg h] at q
        rw [pstr_cds, hl, q] at e2
        simp at e2
        exact hd e2
    rw [if_neg he, sl_eq]
    refine str_ext ?_
    rw [hc, show bs t l = cds t l from if_neg h, ← pstr_cds]
    show ((pstr t l).cps ++ ((#[47] : Array Nat) ++ (#[code ((k : Int) + t)] : Array Nat))).toList = _
    simp
theorem comps_pstr (t : Int) (l : List Nat) : compsOf (pstr t l) = l.map fun k : Nat => lett ((k : Int) + t) := by
  have hk : (l.map fun k : Nat => lett ((k : Int) + t)).filter keepS = l.map fun k : Nat => lett ((k : Int) + t) := by
    rw [List.filter_eq_self]
    intro a ha
    obtain ⟨k, _, rfl⟩ := List.mem_map.mp ha
    rw [lett_code]
    have e : Str.ofString "." = ⟨#[46]⟩ := by decide +kernel
    have hn : (⟨#[code ((k : Int) + t)]⟩ : Str) ≠ ⟨#[46]⟩ := fun q => (code_ok ((k : Int) + t)).2 (by
      have := congrArg (fun s : Str => s.cps.toList) q
      simpa using this)
    unfold keepS
    rw [e]
    simp only [Bool.and_eq_true, bne_iff_ne, Bool.not_eq_true']
    exact ⟨rfl, hn⟩
  have h0 : keepS (⟨#[]⟩ : Str) = false := by decide +kernel
  unfold compsOf
  rw [sl_eq]
  by_cases h : l = []
  · subst h
    rw [split_gl (ps := [⟨#[]⟩, ⟨#[]⟩]) (by simp) (by simp) (by rw [pstr_cds]; rfl)]
    simp [h0]
  · have hf : ∀ p ∈ (⟨#[]⟩ : Str) :: l.map (fun k : Nat => lett ((k : Int) + t)), 47 ∉ p.cps.toList := fun p hp => by
      rcases List.mem_cons.mp hp with rfl | hp
      · simp
      · obtain ⟨k, _, rfl⟩ := List.mem_map.mp hp
        rw [lett_code]
        simpa using Ne.symm (code_ok ((k : Int) + t)).1
    have hx : (pstr t l).cps.toList = gl (((⟨#[]⟩ : Str) :: l.map (fun k : Nat => lett ((k : Int) + t))).map fun x => x.cps.toList) := by
      rw [pstr_cds]
      unfold cds
      cases l with
      | nil => exact absurd rfl h
      | cons a r =>
        rw [List.map_cons, List.map_cons, List.map_cons, List.map_cons, gl_cons, List.map_map]
        rfl
    rw [split_gl (List.cons_ne_nil _ _) hf hx, List.filter_cons, if_neg (by rw [h0]; decide), hk]
theorem starts_pstr (t : Int) (l : List Nat) : Txt.startswith (pstr t l) (Str.ofString "/") = true := by
  rw [sl_eq]
  have := (StrLaws.subAt_one (pstr t l) 47 0).mpr (by rw [pstr_cds]; rfl)
  unfold Txt.startswith
  rw [Bool.and_eq_true]
  exact ⟨decide_eq_true this.1, this.2⟩
theorem map_inj {α β : Type} {f : α → β} : ∀ {a b : List α}, (∀ x ∈ a, ∀ y ∈ b, f x = f y → x = y) → a.map f = b.map f → a = b
  | [], [], _, _ => rfl
  | [], _ :: _, _, h => by simp at h
  | _ :: _, [], _, h => by simp at h
  | x :: a, y :: b, hi, h => by
    rw [List.map_cons, List.map_cons] at h
    obtain ⟨e1, e2⟩ := List.cons.inj h
    rw [hi x (.head _) y (.head _) e1, map_inj (fun u hu v hv => hi u (.tail _ hu) v (.tail _ hv)) e2]
theorem lett_inj {t : Int} {i j : Nat} (hi : i < 7) (hj : j < 7) (h : lett ((i : Int) + t) = lett ((j : Int) + t)) : i = j := by
  rw [lett_code, lett_code] at h
  refine code_inj (t := t) hi hj ?_
  have := congrArg (fun s : Str => s.cps.toList) h
  simpa using this
theorem pstr_inj {t : Int} {a b : List Nat} (ha : ∀ k ∈ a, k < 7) (hb : ∀ k ∈ b, k < 7) (h : pstr t a = pstr t b) : a = b := by
  have := congrArg compsOf h
  rw [comps_pstr, comps_pstr] at this
  exact map_inj (fun x hx y hy e => lett_inj (ha x hx) (hb y hy) e) this
theorem lcp_map {α β : Type} [DecidableEq α] [DecidableEq β] {f : α → β} : ∀ {a b : List α}, (∀ x ∈ a, ∀ y ∈ b, f x = f y → x = y) → lcpL (a.map f) (b.map f) = (lcpL a b).map f
  | [], [], _ => rfl
  | [], _ :: _, _ => rfl
  | _ :: _, [], _ => rfl
  | x :: a, y :: b, hi => by
    rw [List.map_cons, List.map_cons, lcpL, lcpL]
    by_cases e : x = y
    · subst e
      rw [if_pos rfl, if_pos rfl, List.map_cons, lcp_map (fun u hu v hv => hi u (.tail _ hu) v (.tail _ hv))]
    · rw [if_neg e, if_neg (fun q => e (hi x (.head _) y (.head _) q))]; rfl
theorem cp_pstr {t : Int} {a b : List Nat} (ha : ∀ k ∈ a, k < 7) (hb : ∀ k ∈ b, k < 7) : cpT (pstr t a) (pstr t b) = pstr t (lcpL a b) := by
  unfold cpT
  rw [comps_pstr, comps_pstr, lcp_map (fun x hx y hy e => lett_inj (ha x hx) (hb y hy) e)]
  rfl
end
-- G5
section
theorem reg_none_G5 : True := by
  w_top off
  k_with_none
  trivial
/-- the words of the nodes: the places on the way -/
noncomputable def jw (us : List Int) : Nat → List (List Nat)
  | 0 => [[]]
  | i + 1 => jw us i ++ [(jw us i).getD (us.getD i 0).toNat [] ++ [i]]
noncomputable def Ups (us : List Int) : Prop := ∀ j < 7, 0 ≤ us.getD j 0 ∧ us.getD j 0 ≤ j
theorem jw_len (us : List Int) : ∀ i, (jw us i).length = i + 1
  | 0 => rfl
  | i + 1 => by rw [jw, List.length_append, jw_len us i]; rfl
theorem getD_memW {l : List (List Nat)} {i : Nat} (h : i < l.length) : l.getD i [] ∈ l := by
  rw [List.getD_eq_getElem?_getD, List.getElem?_eq_getElem h]; exact List.getElem_mem h
theorem up_lt {us : List Int} (hb : Ups us) {i : Nat} (hi : i < 7) : (us.getD i 0).toNat < i + 1 := by
  have := hb i hi; omega
theorem jw_up {us : List Int} (hb : Ups us) {i : Nat} (hi : i < 7) : (jw us i).getD (us.getD i 0).toNat [] ∈ jw us i := getD_memW (by rw [jw_len]; exact up_lt hb hi)
theorem jw_jn {us : List Int} (hb : Ups us) (t : Int) : ∀ i ≤ 7, jn us t i = (jw us i).map (pstr t)
  | 0, _ => by rw [jn, jw, List.map_cons, pstr_nil]; rfl
  | i + 1, h => by
    have ih := jw_jn hb t i (by omega)
    have hlt : (us.getD i 0).toNat < (jw us i).length := by rw [jw_len]; exact up_lt hb (by omega)
    rw [jn, jw, List.map_append, ih, List.map_cons, List.map_nil, ← join_pstr]
    have e : ((jw us i).map (pstr t)).getD (us.getD i 0).toNat (Str.ofString "") = pstr t ((jw us i).getD (us.getD i 0).toNat []) := by
      generalize (us.getD i 0).toNat = q at hlt
      rw [List.getD_eq_getElem?_getD, List.getD_eq_getElem?_getD, List.getElem?_map, List.getElem?_eq_getElem hlt]; rfl
    rw [e]
theorem jw_lt {us : List Int} (hb : Ups us) : ∀ i ≤ 7, ∀ w ∈ jw us i, ∀ p ∈ w, p < i
  | 0, _, w, hw, p, hp => by rw [List.mem_singleton.mp hw] at hp; cases hp
  | i + 1, h, w, hw, p, hp => by
    have ih := jw_lt hb i (by omega)
    rcases List.mem_append.mp hw with hw | hw
    · exact Nat.lt_succ_of_lt (ih w hw p hp)
    · rw [List.mem_singleton.mp hw] at hp
      rcases List.mem_append.mp hp with hp | hp
      · exact Nat.lt_succ_of_lt (ih _ (jw_up hb (by omega)) p hp)
      · rw [List.mem_singleton.mp hp]; exact Nat.lt_succ_self i
theorem jw_nd {us : List Int} (hb : Ups us) : ∀ i ≤ 7, ∀ w ∈ jw us i, w.Nodup
  | 0, _, w, hw => by rw [List.mem_singleton.mp hw]; exact .nil
  | i + 1, h, w, hw => by
    rcases List.mem_append.mp hw with hw | hw
    · exact jw_nd hb i (by omega) w hw
    · rw [List.mem_singleton.mp hw]
      refine List.nodup_append.mpr ⟨jw_nd hb i (by omega) _ (jw_up hb (by omega)), by simp, fun a ha b hb' => ?_⟩
      have := jw_lt hb i (by omega) _ (jw_up hb (by omega)) a ha
      rw [List.mem_singleton.mp hb']; omega
theorem jw_nodup {us : List Int} (hb : Ups us) : ∀ i ≤ 7, (jw us i).Nodup
  | 0, _ => by simp [jw]
  | i + 1, h => by
    refine List.nodup_append.mpr ⟨jw_nodup hb i (by omega), by simp, fun a ha b hb' => ?_⟩
    rw [List.mem_singleton.mp hb']
    intro e
    have := jw_lt hb i (by omega) a ha i (by rw [e]; simp)
    omega
theorem jw_drop {us : List Int} (hb : Ups us) : ∀ i ≤ 7, ∀ w ∈ jw us i, w.dropLast ∈ jw us i
  | 0, _, w, hw => by rw [List.mem_singleton.mp hw]; exact .head _
  | i + 1, h, w, hw => by
    refine List.mem_append_left _ ?_
    rcases List.mem_append.mp hw with hw | hw
    · exact jw_drop hb i (by omega) w hw
    · rw [List.mem_singleton.mp hw, List.dropLast_concat]
      exact jw_up hb (by omega)
theorem min_a (n k : Nat) : min (min (n - k) n - 1) (n - k) = n - (k + 1) := by
  rw [Nat.min_eq_left (Nat.sub_le n k), Nat.min_eq_left (Nat.sub_le (n - k) 1)]
  rfl
theorem jw_take {us : List Int} (hb : Ups us) {w : List Nat} (hw : w ∈ jw us 7) : ∀ k, w.take (w.length - k) ∈ jw us 7
  | 0 => by rw [Nat.sub_zero, List.take_length]; exact hw
  | k + 1 => by
    have := jw_drop hb 7 (Nat.le_refl 7) _ (jw_take hb hw k)
    rw [List.dropLast_eq_take, List.take_take, List.length_take] at this
    rw [min_a] at this
    exact this
theorem jw_pre {us : List Int} (hb : Ups us) : ∀ i ≤ 7, ∀ u ∈ jw us i, ∀ u1 p u2, u = u1 ++ p :: u2 → u1 = (jw us p).getD (us.getD p 0).toNat []
  | 0, _, u, hu, u1, p, u2, e => by rw [List.mem_singleton.mp hu] at e; simp at e
  | i + 1, h, u, hu, u1, p, u2, e => by
    rcases List.mem_append.mp hu with hu | hu
    · exact jw_pre hb i (by omega) u hu u1 p u2 e
    · rw [List.mem_singleton.mp hu] at e
      rcases List.eq_nil_or_concat u2 with rfl | ⟨u2', z, rfl⟩
      · obtain ⟨e1, e2⟩ := List.append_inj' e rfl
        rw [← (List.cons.inj e2).1, e1]
      · rw [List.concat_eq_append, ← List.cons_append, ← List.append_assoc] at e
        obtain ⟨e1, _⟩ := List.append_inj' e rfl
        exact jw_pre hb i (by omega) _ (jw_up hb (by omega)) u1 p u2' e1
theorem lcp_take {α : Type} [DecidableEq α] : ∀ (a b : List α) (n : Nat), lcpL (a.take n) b = (lcpL a b).take n
  | [], b, n => by rw [List.take_nil]; cases b <;> simp [lcpL]
  | x :: a, [], n => by cases n <;> simp [lcpL]
  | x :: a, y :: b, 0 => by simp [lcpL]
  | x :: a, y :: b, n + 1 => by
    rw [List.take_succ_cons, lcpL, lcpL]
    split
    · rw [List.take_succ_cons, lcp_take a b n]
    · rfl
theorem lcp_pre {α : Type} [DecidableEq α] : ∀ (a b : List α), lcpL a b = a.take (lcpL a b).length
  | [], b => by cases b <;> simp [lcpL]
  | x :: a, [] => by simp [lcpL]
  | x :: a, y :: b => by
    rw [lcpL]
    split
    · rw [List.length_cons, List.take_succ_cons, ← lcp_pre a b]
    · rfl
theorem lcp_le {α : Type} [DecidableEq α] (a b : List α) : (lcpL a b).length ≤ a.length := by
  have := congrArg List.length (lcp_pre a b)
  rw [List.length_take] at this
  omega
theorem lcp_ultra {α : Type} [DecidableEq α] : ∀ (a b c : List α), min (lcpL a b).length (lcpL b c).length ≤ (lcpL a c).length
  | [], b, c => by cases b <;> simp [lcpL]
  | x :: a, [], c => by simp [lcpL]
  | x :: a, y :: b, [] => by simp [lcpL]
  | x :: a, y :: b, z :: c => by
    rw [lcpL, lcpL, lcpL]
    have ih := lcp_ultra a b c
    by_cases h1 : x = y
    · by_cases h2 : y = z
      · rw [if_pos h1, if_pos h2, if_pos (h1.trans h2)]
        simp only [List.length_cons]; omega
      · rw [if_neg h2]; simp
    · rw [if_neg h1]; simp
theorem lcp_filter : ∀ (u v : List Nat), u.Nodup → (∀ p u1 u2 v1 v2, u = u1 ++ p :: u2 → v = v1 ++ p :: v2 → u1 = v1) → (u.filter fun x => v.any (· == x)).length = (lcpL u v).length
  | [], v, _, _ => by cases v <;> simp [lcpL]
  | a :: u, [], _, _ => by simp [lcpL]
  | a :: u, b :: v, hn, hc => by
    obtain ⟨ha, hu⟩ := List.nodup_cons.mp hn
    rw [lcpL]
    by_cases e : a = b
    · subst e
      rw [if_pos rfl, List.filter_cons, if_pos (by simp), List.length_cons, List.length_cons]
      congr 1
      rw [← lcp_filter u v hu (fun p u1 u2 v1 v2 e1 e2 => by
        have := hc p (a :: u1) u2 (a :: v1) v2 (by rw [e1]; rfl) (by rw [e2]; rfl)
        exact (List.cons.inj this).2)]
      congr 1
      refine List.filter_congr fun x hx => ?_
      have : (a == x) = false := by
        simp only [beq_eq_false_iff_ne]; rintro rfl; exact ha hx
      rw [List.any_cons, this, Bool.false_or]
    · rw [if_neg e]
      have : (a :: u).filter (fun x => (b :: v).any (· == x)) = [] := by
        rw [List.filter_eq_nil_iff]
        intro x hx hm
        obtain ⟨y, hy, he⟩ := List.any_eq_true.mp hm
        have hxy : y = x := by simpa using he
        subst hxy
        obtain ⟨u1, u2, e1⟩ := List.append_of_mem hx
        obtain ⟨v1, v2, e2⟩ := List.append_of_mem hy
        have h1 := hc y u1 u2 v1 v2 e1 e2
        subst h1
        cases u1 with
        | nil => exact e ((List.cons.inj e1).1.trans (List.cons.inj e2).1.symm)
        | cons c u1 => exact e ((List.cons.inj e1).1.trans (List.cons.inj e2).1.symm)
      rw [this]
theorem jw_get {us : List Int} {k : Nat} : ∀ {i : Nat}, k < i → (jw us i).getD (k + 1) [] = (jw us k).getD (us.getD k 0).toNat [] ++ [k]
  | 0, h => absurd h (Nat.not_lt_zero k)
  | i + 1, h => by
    rw [jw, List.getD_eq_getElem?_getD]
    by_cases e : k = i
    · subst e
      rw [List.getElem?_append_right (by rw [jw_len]; exact Nat.le_refl _), jw_len, Nat.sub_self]; rfl
    · rw [List.getElem?_append_left (by rw [jw_len]; omega), ← List.getD_eq_getElem?_getD]
      exact jw_get (by omega)
theorem jw_zero (us : List Int) : ∀ i, (jw us i).getD 0 [] = []
  | 0 => rfl
  | i + 1 => by
    rw [jw, List.getD_eq_getElem?_getD, List.getElem?_append_left (by rw [jw_len]; omega), ← List.getD_eq_getElem?_getD]
    exact jw_zero us i
theorem abv_jw {us : List Int} (hb : Ups us) : ∀ (f k i : Nat), k ≤ f → k ≤ i → i ≤ 7 → abv us f (k : Int) = (((jw us i).getD k []).reverse.map fun p : Nat => (p : Int) + 1) ++ [0]
  | 0, k, i, h1, h2, h3 => by
    obtain rfl : k = 0 := by omega
    rw [jw_zero]; rfl
  | f + 1, 0, i, h1, h2, h3 => by
    rw [jw_zero]
    rfl
  | f + 1, k + 1, i, h1, h2, h3 => by
    have b := hb k (by omega)
    rw [abv, if_pos (by omega), show ((k + 1 : Nat) : Int) - 1 = (k : Int) by omega, Int.toNat_natCast, jw_get (by omega : k < i)]
    obtain ⟨m, hm⟩ : ∃ m : Nat, us.getD k 0 = m := ⟨(us.getD k 0).toNat, by omega⟩
    rw [hm] at b ⊢
    rw [abv_jw hb f m k (by omega) (by omega) (by omega), Int.toNat_natCast]
    simp
noncomputable def dW (a b : List Nat) : Int := (a.length : Int) + (b.length : Int) - 2 * ((lcpL a b).length : Int)
theorem step_jw {us : List Int} (hb : Ups us) {a b : Nat} (ha : a < 8) (hb8 : b < 8) : stepVal us a b = dW ((jw us 7).getD a []) ((jw us 7).getD b []) := by
  unfold stepVal dW
  rw [abv_jw hb 7 a 7 (by omega) (by omega) (by omega), abv_jw hb 7 b 7 (by omega) (by omega) (by omega)]
  have ma := getD_memW (l := jw us 7) (i := a) (by rw [jw_len]; omega)
  have mb := getD_memW (l := jw us 7) (i := b) (by rw [jw_len]; omega)
  generalize (jw us 7).getD a [] = u at ma
  generalize (jw us 7).getD b [] = v at mb
  have key : (((u.reverse.map fun p : Nat => (p : Int) + 1) ++ [0]).filter fun x => ((v.reverse.map fun p : Nat => (p : Int) + 1) ++ [0]).any (· == x)).length = (lcpL u v).length + 1 := by
    have hz : ([(0 : Int)].filter fun x => ((v.reverse.map fun p : Nat => (p : Int) + 1) ++ [0]).any (· == x)).length = 1 := by
      rw [List.filter_cons, if_pos (by simp)]; rfl
    rw [List.filter_append, List.length_append, hz, List.filter_map, List.length_map]
    congr 1
    rw [← lcp_filter u v (jw_nd hb 7 (Nat.le_refl 7) u ma) (fun p u1 u2 v1 v2 e1 e2 => (jw_pre hb 7 (Nat.le_refl 7) u ma u1 p u2 e1).trans (jw_pre hb 7 (Nat.le_refl 7) v mb v1 p v2 e2).symm)]
    rw [List.filter_reverse, List.length_reverse]
    congr 1
    refine List.filter_congr fun x hx => ?_
    rw [Bool.eq_iff_iff]
    simp only [Function.comp, List.any_eq_true, List.mem_append, List.mem_map, List.mem_reverse, List.mem_singleton, beq_iff_eq]
    constructor
    · rintro ⟨y, ⟨p, hp, rfl⟩ | rfl, he⟩
      · exact ⟨p, hp, by omega⟩
      · omega
    · rintro ⟨y, hy, rfl⟩
      exact ⟨_, .inl ⟨y, hy, rfl⟩, rfl⟩
  rw [key]
  simp
  omega
theorem dW_comm (a b : List Nat) : dW a b = dW b a := by
  unfold dW; rw [lcpL_comm a b]; omega
theorem dW_tri (a b c : List Nat) : dW a c ≤ dW a b + dW b c := by
  have h1 := lcp_ultra a b c
  have h2 := lcp_le b c
  have h3 : (lcpL a b).length ≤ b.length := by rw [lcpL_comm]; exact lcp_le b a
  unfold dW
  omega
theorem up_key {x y : List Nat} {r : Nat} (hl : y.length ≤ x.length) (h : (r : Int) < dW y (x.take (x.length - r))) : 2 * (r : Int) < dW x y := by
  unfold dW at h ⊢
  rw [lcpL_comm y, lcp_take, List.length_take, List.length_take] at h
  have := lcp_le x y
  omega
theorem up_self (x : List Nat) (r : Nat) : dW x (x.take (x.length - r)) ≤ (r : Int) := by
  unfold dW
  rw [lcpL_comm x, lcp_take, List.length_take, List.length_take, lcpL_self]
  omega
end
-- G6
section
theorem reg_none_G6 : True := by
  w_top off
  k_with_none
  trivial
/-- a set of nodes far apart -/
noncomputable def Pack (us : List Int) (r : Int) (l : List Int) : Prop := l.Pairwise fun x y => 2 * r < stepVal us x.toNat y.toNat
theorem most_ok {us : List Int} {r : Int} : ∀ (f : Nat) (l : List Int), l.length ≤ f → (∀ S : List Int, S.Sublist l → Pack us r S → (S.length : Int) ≤ mostI us r f l) ∧ ∃ S : List Int, S.Sublist l ∧ Pack us r S ∧ (S.length : Int) = mostI us r f l
  | 0, l, h => by
    obtain rfl : l = [] := List.eq_nil_of_length_eq_zero (Nat.le_zero.mp h)
    refine ⟨fun S hS _ => ?_, [], .slnil, .nil, rfl⟩
    rw [List.sublist_nil.mp hS]; exact Int.le_refl _
  | f + 1, [], h => by
    refine ⟨fun S hS _ => ?_, [], .slnil, .nil, rfl⟩
    rw [List.sublist_nil.mp hS]; exact Int.le_refl _
  | f + 1, x :: xs, h => by
    have hx : xs.length ≤ f := by rw [List.length_cons] at h; omega
    obtain ⟨a1, S1, s1, p1, e1⟩ := most_ok f xs hx
    obtain ⟨a2, S2, s2, p2, e2⟩ := most_ok f (xs.filter fun y => decide (2 * r < stepVal us x.toNat y.toNat)) (Nat.le_trans (List.length_filter_le _ _) hx)
    rw [mostI]
    refine ⟨fun S hS hp => ?_, ?_⟩
    · cases hS with
      | cons _ hS => have := a1 S hS hp; omega
      | cons_cons _ hS =>
        obtain ⟨q1, q2⟩ := List.pairwise_cons.mp hp
        rename_i S'
        have hs : S'.Sublist (xs.filter fun y => decide (2 * r < stepVal us x.toNat y.toNat)) := by
          have := hS.filter fun y => decide (2 * r < stepVal us x.toNat y.toNat)
          rwa [List.filter_eq_self.mpr (fun y hy => decide_eq_true (q1 y hy))] at this
        have := a2 S' hs q2
        rw [List.length_cons]; omega
    · by_cases hm : mostI us r f xs ≤ 1 + mostI us r f (xs.filter fun y => decide (2 * r < stepVal us x.toNat y.toNat))
      · refine ⟨x :: S2, .cons_cons x (s2.trans List.filter_sublist), List.pairwise_cons.mpr ⟨fun y hy => ?_, p2⟩, by rw [List.length_cons]; omega⟩
        exact of_decide_eq_true (List.mem_filter.mp (s2.subset hy)).2
      · exact ⟨S1, .cons x s1, p1, by omega⟩
theorem pigeon {α β : Type} [BEq β] [LawfulBEq β] {R : α → β → Prop} : ∀ (S : List α) (l : List β), (∀ s ∈ S, ∃ p ∈ l, R s p) → S.Pairwise (fun s s' => ∀ p, R s p → R s' p → False) → S.length ≤ l.length
  | [], l, _, _ => Nat.zero_le _
  | s :: S, l, h, hp => by
    obtain ⟨p, hpl, hr⟩ := h s (.head _)
    obtain ⟨q1, q2⟩ := List.pairwise_cons.mp hp
    have := pigeon S (l.erase p) (fun s' hs' => by
      obtain ⟨p', hp', hr'⟩ := h s' (.tail _ hs')
      refine ⟨p', (List.mem_erase_of_ne (fun e => q1 s' hs' p hr (by rw [← e]; exact hr'))).mpr hp', hr'⟩) q2
    rw [List.length_erase_of_mem hpl] at this
    have := List.length_pos_of_mem hpl
    rw [List.length_cons]; omega
theorem pair_mem2 {α : Type} {R : α → α → Prop} (hs : ∀ a b, R a b → R b a) : ∀ {l : List α}, l.Pairwise R → ∀ a ∈ l, ∀ b ∈ l, a ≠ b → R a b
  | [], _, a, ha, _, _, _ => nomatch ha
  | x :: l, hp, a, ha, b, hb, hne => by
    obtain ⟨q1, q2⟩ := List.pairwise_cons.mp hp
    rcases List.mem_cons.mp ha with rfl | ha'
    · rcases List.mem_cons.mp hb with rfl | hb'
      · exact absurd rfl hne
      · exact q1 b hb'
    · rcases List.mem_cons.mp hb with rfl | hb'
      · exact hs _ _ (q1 a ha')
      · exact pair_mem2 hs q2 a ha' b hb' hne
/-- what the plain law must give of the paths -/
structure PlainOk (P : List Str) (r : Int) (dep : Str → Int) (PS : List Str) : Prop where
  hP : P.length = 8
  hlen : ∀ x ∈ P, x.length ≤ 100
  hdir : ∀ x ∈ P, dirT x ∈ P
  hslash : ∀ x ∈ P, Txt.startswith x (Str.ofString "/") = true
  hcp : ∀ x ∈ P, ∀ y ∈ P, cpT x y ∈ P
  hdep : ∀ x ∈ P, dacc (P.drop 1) x = some (dep x)
  hok : ∀ i < 7, ∃ d, dacc ((P.drop 1).take i) (dirT ((P.drop 1).getD i (Str.ofString ""))) = some d
  hrun : ∀ (key : Value → Int × Str) (vs0 : List Value), vs0.map key = P.map (fun x => (-(dep x), x)) → ∃ n H O, Go key dep r P n (vs0.foldl (pushK key) []) [] [] P H O PS ∧ EndOk key vs0 H O
  hsub : ∀ x ∈ PS, x ∈ P
  hnd : P.Nodup
  hps : PS.length ≤ 8
noncomputable def depT (x : Str) : Int := ((compsOf x).length : Int)
theorem dep_pstr (t : Int) (l : List Nat) : depT (pstr t l) = (l.length : Int) := by
  unfold depT; rw [comps_pstr, List.length_map]
theorem dacc_jn {us : List Int} (hb : Ups us) (t : Int) : ∀ i ≤ 7, ∀ w ∈ jw us i, dacc ((jn us t i).drop 1) (pstr t w) = some (w.length : Int)
  | 0, _, w, hw => by
    rw [List.mem_singleton.mp hw, pstr_nil]
    show (if Str.ofString "/" = Str.ofString "/" then some (0 : Int) else none) = some 0
    rw [if_pos rfl]
  | i + 1, h, w, hw => by
    have e : (jn us t (i + 1)).drop 1 = (jn us t i).drop 1 ++ [pstr t ((jw us i).getD (us.getD i 0).toNat [] ++ [i])] := by
      have h1 := jw_jn hb t (i + 1) h
      have h2 := jw_jn hb t i (by omega)
      rw [h1, h2, jw, List.map_append, List.drop_append_of_le_length (by rw [List.length_map, jw_len]; omega)]
      rfl
    rw [e]
    unfold dacc
    rw [List.foldl_append, List.foldl_cons, List.foldl_nil]
    show updF (dacc ((jn us t i).drop 1)) (pstr t ((jw us i).getD (us.getD i 0).toNat [] ++ [i])) (pstr t w) = _
    unfold updF
    have hu := jw_up hb (show i < 7 by omega)
    rcases List.mem_append.mp hw with hw' | hw'
    · rw [if_neg]
      · exact dacc_jn hb t i (by omega) w hw'
      · intro q
        have l1 := jw_lt hb i (by omega) w hw'
        have := pstr_inj (fun k hk => by have := l1 k hk; omega) (fun k hk => by
          rcases List.mem_append.mp hk with hk | hk
          · have := jw_lt hb i (by omega) _ hu k hk; omega
          · rw [List.mem_singleton.mp hk]; omega) q
        have := l1 i (by rw [this]; simp)
        omega
    · rw [List.mem_singleton.mp hw', if_pos rfl, dir_pstr, dacc_jn hb t i (by omega) _ hu]
      simp
theorem jn_take {us : List Int} {t : Int} : ∀ n i, (jn us t (i + n)).take (i + 1) = jn us t i
  | 0, i => by
    show (jn us t i).take (i + 1) = jn us t i
    exact List.take_of_length_le (by rw [jn_len]; exact Nat.le_refl _)
  | n + 1, i => by
    rw [← Nat.add_assoc, jn, List.take_append_of_le_length (by rw [jn_len]; omega)]
    exact jn_take n i
theorem up_pstr {t : Int} {w : List Nat} {r : Nat} (hr : r = 1 ∨ r = 2) : upT (r : Int) (pstr t w) = pstr t (w.take (w.length - r)) := by
  unfold upT
  rcases hr with rfl | rfl
  · rw [if_pos (show ((1 : Nat) : Int) = 1 from rfl), dir_drop, List.dropLast_eq_take]
  · rw [if_neg (by decide), dir_drop, dir_drop, List.dropLast_eq_take, List.dropLast_eq_take, List.take_take, List.length_take, min_a]
theorem plain_ok {us : List Int} {tn r : Int} (hl7 : us.length = 7) (hub : ∀ j < 7, 0 ≤ us.getD j 0 ∧ us.getD j 0 ≤ j) (hr : r = 1 ∨ r = 2) (ht : 0 ≤ tn ∧ tn < 7) : ∃ dep PS, PlainOk (jn us tn 7) r dep PS ∧ (∀ i < 8, ∃ p ∈ PS.map fun x => (jn us tn 7).idxOf x, stepVal us p i ≤ r) ∧ (PS.length : Int) = mostI us r 8 [0, 1, 2, 3, 4, 5, 6, 7] := by
  have hb : Ups us := hub
  have hP8 : (jn us tn 7).length = 8 := jn_len us tn 7
  have hPJ := jw_jn hb tn 7 (Nat.le_refl 7)
  have hw7 := jw_lt hb 7 (Nat.le_refl 7)
  have hof : ∀ x ∈ jn us tn 7, ∃ w ∈ jw us 7, x = pstr tn w := fun x hx => by
    rw [hPJ] at hx
    obtain ⟨w, hw, rfl⟩ := List.mem_map.mp hx
    exact ⟨w, hw, rfl⟩
  have hto : ∀ w ∈ jw us 7, pstr tn w ∈ jn us tn 7 := fun w hw => by rw [hPJ]; exact List.mem_map.mpr ⟨w, hw, rfl⟩
  have hnd : (jn us tn 7).Nodup := by
    rw [hPJ]
    refine List.pairwise_map.mpr ((jw_nodup hb 7 (Nat.le_refl 7)).imp_of_mem fun {a b} ha hb' hne e => hne (pstr_inj (hw7 a ha) (hw7 b hb') e))
  obtain ⟨rn, rfl, hrn⟩ : ∃ rn : Nat, r = (rn : Int) ∧ (rn = 1 ∨ rn = 2) := by
    rcases hr with rfl | rfl
    · exact ⟨1, rfl, .inl rfl⟩
    · exact ⟨2, rfl, .inr rfl⟩
  have hcp : ∀ a ∈ jw us 7, ∀ b ∈ jw us 7, cpT (pstr tn a) (pstr tn b) = pstr tn (lcpL a b) := fun a ha b hb' => cp_pstr (hw7 a ha) (hw7 b hb')
  have hdW : ∀ a ∈ jw us 7, ∀ b ∈ jw us 7, dT depT (pstr tn a) (pstr tn b) = dW a b := fun a ha b hb' => by
    unfold dT dW
    rw [hcp a ha b hb', dep_pstr, dep_pstr, dep_pstr]
  have hup : ∀ w ∈ jw us 7, w.take (w.length - rn) ∈ jw us 7 := fun w hw => jw_take hb hw rn
  have hself : ∀ x ∈ jn us tn 7, nearB depT (rn : Int) (upT (rn : Int) x) x = true := fun x hx => by
    obtain ⟨w, hw, rfl⟩ := hof x hx
    rw [near_iff, up_pstr hrn, hdW w hw _ (hup w hw)]
    exact decide_eq_true (up_self w rn)
  have hkey : ∀ x ∈ jn us tn 7, ∀ y ∈ jn us tn 7, depT y ≤ depT x → (rn : Int) < dT depT y (upT (rn : Int) x) → 2 * (rn : Int) < dT depT x y := fun x hx y hy h1 h2 => by
    obtain ⟨w, hw, rfl⟩ := hof x hx
    obtain ⟨v, hv, rfl⟩ := hof y hy
    rw [dep_pstr, dep_pstr] at h1
    rw [up_pstr hrn, hdW v hv _ (hup w hw)] at h2
    rw [hdW w hw v hv]
    exact up_key (by omega) h2
  have hdir : ∀ x ∈ jn us tn 7, dirT x ∈ jn us tn 7 := fun x hx => by
    obtain ⟨w, hw, rfl⟩ := hof x hx
    rw [dir_drop]
    exact hto _ (jw_drop hb 7 (Nat.le_refl 7) w hw)
  obtain ⟨srt, hs1, hs2⟩ := srt_ok depT hnd
  obtain ⟨xs, e, hxn, hxs, hpw, hcov⟩ := greedy_ok hself hkey srt (jn us tn 7) hs2 hnd (fun x hx => hs1.symm.subset hx) (fun x hx => hx)
  have hrun := run_ok hself hnd (Nat.le_of_eq hP8) hs1 hs2
  generalize greedy depT (rn : Int) srt (jn us tn 7) = PS at e hcov hrun
  have hsub : ∀ x ∈ PS, x ∈ jn us tn 7 := fun x hx => by
    rw [e] at hx
    obtain ⟨y, hy, rfl⟩ := List.mem_map.mp hx
    exact upT_mem hdir (hxs y hy)
  have hpl : PS.length = xs.length := by rw [e, List.length_map]
  have hx8 : xs.length ≤ 8 := by
    rw [← hP8]
    exact pigeon (R := fun a b => a = b) xs _ (fun s hs => ⟨s, hxs s hs, rfl⟩) (hxn.imp fun {a b} hne p h1 h2 => hne (h1.trans h2.symm))
  have hJ : ∀ i < 8, (jw us 7).getD i [] ∈ jw us 7 := fun i hi => getD_memW (by rw [jw_len]; exact hi)
  have hidx : ∀ x ∈ jn us tn 7, (jn us tn 7).idxOf x < 8 ∧ pstr tn ((jw us 7).getD ((jn us tn 7).idxOf x) []) = x := fun x hx => by
    have h1 : (jn us tn 7).idxOf x < (jn us tn 7).length := List.idxOf_lt_length_iff.mpr hx
    have h2 : (jn us tn 7)[(jn us tn 7).idxOf x]? = some x := by rw [List.getElem?_eq_getElem h1, List.getElem_idxOf h1]
    refine ⟨hP8 ▸ h1, ?_⟩
    generalize (jn us tn 7).idxOf x = q at h1 h2
    rw [hPJ, List.getElem?_map] at h2
    rw [hP8] at h1
    rw [List.getElem?_eq_getElem (by rw [jw_len]; exact h1)] at h2
    rw [List.getD_eq_getElem?_getD, List.getElem?_eq_getElem (by rw [jw_len]; exact h1)]
    exact Option.some.inj h2
  have hstep : ∀ i < 8, ∀ j < 8, stepVal us i j = dT depT (pstr tn ((jw us 7).getD i [])) (pstr tn ((jw us 7).getD j [])) := fun i hi j hj => by
    rw [hdW _ (hJ i hi) _ (hJ j hj), step_jw hb hi hj]
  have hcomm : ∀ x ∈ jn us tn 7, ∀ y ∈ jn us tn 7, dT depT x y = dT depT y x := fun x hx y hy => by
    obtain ⟨w, hw, rfl⟩ := hof x hx
    obtain ⟨v, hv, rfl⟩ := hof y hy
    rw [hdW w hw v hv, hdW v hv w hw, dW_comm]
  have hcov8 : ∀ i < 8, ∃ y ∈ PS, dT depT (pstr tn ((jw us 7).getD i [])) y ≤ (rn : Int) := fun i hi => hcov _ (hto _ (hJ i hi))
  refine ⟨depT, PS, ⟨hP8, fun x hx => ?_, hdir, fun x hx => ?_, fun x hx y hy => ?_, fun x hx => ?_, fun i hi => ?_, hrun, hsub, hnd, by omega⟩, fun i hi => ?_, ?_⟩
  · have := jn_mem us tn 7 hub x hx; omega
  · obtain ⟨w, hw, rfl⟩ := hof x hx
    exact starts_pstr tn w
  · obtain ⟨w, hw, rfl⟩ := hof x hx
    obtain ⟨v, hv, rfl⟩ := hof y hy
    rw [hcp w hw v hv, lcp_pre, show (lcpL w v).length = w.length - (w.length - (lcpL w v).length) by have := lcp_le w v; omega]
    exact hto _ (jw_take hb hw _)
  · obtain ⟨w, hw, rfl⟩ := hof x hx
    rw [dacc_jn hb tn 7 (Nat.le_refl 7) w hw, dep_pstr]
  · have e1 : ((jn us tn 7).drop 1).take i = (jn us tn i).drop 1 := by
      have := jn_take (us := us) (t := tn) (7 - i) i
      rw [show i + (7 - i) = 7 by omega] at this
      rw [← this, List.drop_take]
      rfl
    have e2 : ((jn us tn 7).drop 1).getD i (Str.ofString "") = pstr tn ((jw us i).getD (us.getD i 0).toNat [] ++ [i]) := by
      rw [hPJ, ← jw_get (show i < 7 from hi)]
      have hlt : i + 1 < (jw us 7).length := by rw [jw_len]; omega
      have h3 : (((jw us 7).map (pstr tn)).drop 1)[i]? = some (pstr tn ((jw us 7)[i + 1]'hlt)) := by
        rw [List.getElem?_drop, Nat.add_comm, List.getElem?_map, List.getElem?_eq_getElem hlt]; rfl
      have h4 : (jw us 7).getD (i + 1) [] = (jw us 7)[i + 1]'hlt := by
        rw [List.getD_eq_getElem?_getD, List.getElem?_eq_getElem hlt]; rfl
      rw [List.getD_eq_getElem?_getD, h3, h4]; rfl
    rw [e1, e2, dir_pstr]
    exact ⟨_, dacc_jn hb tn i (by omega) _ (jw_up hb hi)⟩
  · obtain ⟨y, hy, hd⟩ := hcov8 i hi
    obtain ⟨q1, q2⟩ := hidx y (hsub y hy)
    refine ⟨_, List.mem_map.mpr ⟨y, hy, rfl⟩, ?_⟩
    rw [hstep _ q1 i hi, q2, hcomm y (hsub y hy) _ (hto _ (hJ i hi))]
    exact hd
  · obtain ⟨a1, S, s1, p1, e1⟩ := most_ok (us := us) (r := (rn : Int)) 8 [0, 1, 2, 3, 4, 5, 6, 7] (Nat.le_refl 8)
    have h07 : ∀ x ∈ ([0, 1, 2, 3, 4, 5, 6, 7] : List Int), 0 ≤ x ∧ x < 8 := by decide
    refine Int.le_antisymm ?_ ?_
    · have hb1 := a1 (([0, 1, 2, 3, 4, 5, 6, 7] : List Int).filter fun z => decide (pstr tn ((jw us 7).getD z.toNat []) ∈ xs)) List.filter_sublist (by
        have hn8 : (([0, 1, 2, 3, 4, 5, 6, 7] : List Int).filter fun z => decide (pstr tn ((jw us 7).getD z.toNat []) ∈ xs)).Nodup := List.Pairwise.filter _ (by decide)
        refine hn8.imp_of_mem fun {a b} ha hb' hne => ?_
        obtain ⟨ha1, ha2⟩ := List.mem_filter.mp ha
        obtain ⟨hb1, hb2⟩ := List.mem_filter.mp hb'
        have ha3 := h07 a ha1
        have hb3 := h07 b hb1
        rw [hstep _ (by omega) _ (by omega)]
        refine pair_mem2 (R := fun x y => x ∈ jn us tn 7 ∧ y ∈ jn us tn 7 → 2 * (rn : Int) < dT depT x y) (fun x y h1 h2 => by rw [hcomm x h2.2 y h2.1 |>.symm]; exact h1 ⟨h2.2, h2.1⟩) (hpw.imp (S := fun x y => x ∈ jn us tn 7 ∧ y ∈ jn us tn 7 → 2 * (rn : Int) < dT depT x y) (fun h _ => h)) _ (of_decide_eq_true ha2) _ (of_decide_eq_true hb2) (fun q => ?_) ⟨hxs _ (of_decide_eq_true ha2), hxs _ (of_decide_eq_true hb2)⟩
        have h5 := pstr_inj (hw7 _ (hJ a.toNat (by omega))) (hw7 _ (hJ b.toNat (by omega))) q
        have h6 : a.toNat = b.toNat := by
          have hj := jw_nodup hb 7 (Nat.le_refl 7)
          have la : a.toNat < (jw us 7).length := by rw [jw_len]; omega
          have lb : b.toNat < (jw us 7).length := by rw [jw_len]; omega
          rw [List.getD_eq_getElem?_getD, List.getElem?_eq_getElem la, List.getD_eq_getElem?_getD, List.getElem?_eq_getElem lb] at h5
          rcases Nat.lt_trichotomy a.toNat b.toNat with h7 | h7 | h7
          · exact absurd h5 (List.pairwise_iff_getElem.mp hj _ _ la lb h7)
          · exact h7
          · exact absurd h5.symm (List.pairwise_iff_getElem.mp hj _ _ lb la h7)
        exact hne (by omega))
      have hb2 : xs.length ≤ (([0, 1, 2, 3, 4, 5, 6, 7] : List Int).filter fun z => decide (pstr tn ((jw us 7).getD z.toNat []) ∈ xs)).length := by
        refine pigeon (R := fun x (z : Int) => x = pstr tn ((jw us 7).getD z.toNat [])) xs _ (fun x hx => ?_) (hxn.imp fun {a b} hne p h1 h2 => hne (h1.trans h2.symm))
        obtain ⟨q1, q2⟩ := hidx x (hxs x hx)
        refine ⟨(((jn us tn 7).idxOf x : Nat) : Int), List.mem_filter.mpr ⟨?_, decide_eq_true ?_⟩, ?_⟩
        · have : ∀ q < 8, ((q : Nat) : Int) ∈ ([0, 1, 2, 3, 4, 5, 6, 7] : List Int) := by decide
          exact this _ q1
        · rw [Int.toNat_natCast, q2]; exact hx
        · rw [Int.toNat_natCast, q2]
      omega
    · have : S.length ≤ PS.length := by
        refine pigeon (R := fun (z : Int) y => y ∈ PS ∧ dT depT (pstr tn ((jw us 7).getD z.toNat [])) y ≤ (rn : Int)) S PS (fun z hz => ?_) ?_
        · have h8 := h07 z (s1.subset hz)
          obtain ⟨y, hy, hd⟩ := hcov8 z.toNat (by omega)
          exact ⟨y, hy, hy, hd⟩
        · refine p1.imp_of_mem fun {a b} ha hb' h y h1 h2 => ?_
          have ha3 := h07 a (s1.subset ha)
          have hb3 := h07 b (s1.subset hb')
          rw [hstep _ (by omega) _ (by omega)] at h
          obtain ⟨v, hv, rfl⟩ := hof y (hsub y h1.1)
          have h3 := h1.2
          have h4 := h2.2
          rw [hdW _ (hJ _ (by omega)) v hv] at h3 h4
          rw [hdW _ (hJ _ (by omega)) _ (hJ _ (by omega))] at h
          have h5 := dW_tri ((jw us 7).getD a.toNat []) v ((jw us 7).getD b.toNat [])
          rw [dW_comm v] at h5
          omega
      omega
end
-- LW
section
theorem reg_none_LW : True := by
  w_top off
  k_with_none
  trivial
theorem reg_hdr_LW_1 : True := by
  k_with_none
  k_with "mine enter" => (refine wpAny_call ?_; k_dflt (refine' enterM ?k1 ?k2 ?k3 ?k4 ?k5 ?kA ?kF ?kK ?k6 ?k7 ?k8 ?k9 ?kB ?_ ?c2 ?c3 ?c4 ?c5; (case kA => exact rfl); (case kF => exact rfl); (case kK => exact rfl); (case k1 => k_asm); (case k2 => k_asm); (case k3 => k_asm); (case k4 => first | k_asm | exact News.nil); (case k5 => k_asm); (case k6 => k_is); (case k7 => k_is); (case k8 => ktr_room); (case k9 => exact BindsTo.of_eq rfl); (case c5 => decide); (case kB => exact locs rfl); (case c2 => exact rfl); (case c3 => exact rfl); (case c4 => exact rfl); k_whole); intro g' L' h' G' FG' F' N' B' X' T'; (try dsimp only); (try k_fold))
  k_with "mine back" => (intro h' tk' K'; (have F' := keep_fr (by k_asm) K'); (have N' := keep_news (by k_asm) K'); clear K'; (try dsimp only); (try k_sweep))
  k_with "mine args" => ((case k1 => k_asm); (case k2 => k_asm); (case k3 => k_asm); (case k4 => k_asm); (case kd => ktr_room); (case ku => ktr_units))
  k_with "mine enterC" => (refine wpAny_call ?_; k_dflt (refine' enterMC ?k1 ?k2 ?k3 ?k4 ?k5 ?kA ?kF ?kK ?k6 ?k7 ?k8 ?k9 ?kB ?kD ?_ ?c2 ?c3 ?c4; (case kA => exact rfl); (case kF => exact rfl); (case kK => exact rfl); (case k1 => k_asm); (case k2 => k_asm); (case k3 => k_asm); (case k4 => first | k_asm | exact News.nil); (case k5 => k_asm); (case k6 => k_is); (case k7 => k_is); (case k8 => ktr_room); (case k9 => exact BindsTo.of_eq rfl); (case kB => exact rfl); (case kD => decide +kernel); (case c2 => exact rfl); (case c3 => exact rfl); (case c4 => exact rfl); k_whole); intro g' L' h' tk' cells' G' FG' F' N' Y' B' X' T' l1; (try k_lt l1); k_cells Y'; (try simp only [List.cons_append, List.nil_append] at N'); (try dsimp only); (try k_fold))
  k_with "mine steps" => repeat' (first | (k_unfold; (try dsimp only)) | walk1 | (dsimp only; walk1) | (leave1; (try dsimp only)))
  trivial
theorem reg_hdr_LW_2 : True := by
  k_with "k_ne" => (refine neN ?_; (try dsimp only); first | with_reducible assumption | exact Ne.symm (by with_reducible assumption))
  k_with "FinE" => ((unfold LCg.FinE); intro D' h' tk' F' N' o1'; (try dsimp only [LCg.Off1] at o1'); (repeat (have h9' := o1'.1; replace o1' := o1'.2)); (try clear o1'); (try simp only [List.nil_append, List.cons_append] at N'); (try dsimp only))
  k_with "FinA" => ((unfold LCg.FinA); intro D' h' tk' F' N' o1'; (try dsimp only [LCg.Off1] at o1'); (repeat (have h9' := o1'.1; replace o1' := o1'.2)); (try clear o1'); (try simp only [List.nil_append, List.cons_append] at N'); (try dsimp only))
  k_with "CompRest" => (with_unfolding_all first | (refine LCg.CompRest.succ ?_; intro v' I' oI' C' oC' D' m' h' tk' E' hv' hC' hx' F' N' off' ne'; (first | lcg_open hv' | (obtain ⟨t9', hv9'⟩ := hv'; subst hv9')); (try dsimp only [LCg.Off3] at off'); (have h9' := ne'.1; have h9' := ne'.2.1; have h9' := ne'.2.2; clear ne'); (repeat (have h9' := off'.1.1; have h9' := off'.1.2.1; have h9' := off'.1.2.2; replace off' := off'.2)); (try clear off')) | refine LCg.CompRest.zero ?_)
  trivial

structure Stop (P : Prop) : Prop where
  go : P
theorem us_ok (f : Int → Int) : (List.map (fun k => (f k).fmod (k + 1)) (rangeKs 0 ((7 : Int) - 0).toNat)).length = 7 ∧ ∀ j < 7, 0 ≤ (List.map (fun k => (f k).fmod (k + 1)) (rangeKs 0 ((7 : Int) - 0).toNat)).getD j 0 ∧ (List.map (fun k => (f k).fmod (k + 1)) (rangeKs 0 ((7 : Int) - 0).toNat)).getD j 0 ≤ j := by
  have e : rangeKs 0 (7 - 0 : Int).toNat = [0, 1, 2, 3, 4, 5, 6] := by decide
  rw [e]
  refine ⟨rfl, fun j hj => ?_⟩
  have key : ∀ k : Int, 0 ≤ k → 0 ≤ (f k).fmod (k + 1) ∧ (f k).fmod (k + 1) ≤ k := fun k hk => ⟨Int.fmod_nonneg_of_pos _ (by omega), by have := Int.fmod_lt_of_pos (f k) (show (0 : Int) < k + 1 by omega); omega⟩
  match j, hj with
  | 0, _ => exact key 0 (by decide)
  | 1, _ => exact key 1 (by decide)
  | 2, _ => exact key 2 (by decide)
  | 3, _ => exact key 3 (by decide)
  | 4, _ => exact key 4 (by decide)
  | 5, _ => exact key 5 (by decide)
  | 6, _ => exact key 6 (by decide)
theorem r_ok (x : Int) : 1 + x.fmod 2 = 1 ∨ 1 + x.fmod 2 = 2 := by
  have h1 := Int.fmod_nonneg_of_pos x (show (0 : Int) < 2 by decide)
  have h2 := Int.fmod_lt_of_pos x (show (0 : Int) < 2 by decide)
  omega
theorem t_ok (x : Int) : 0 ≤ x.fmod 7 ∧ x.fmod 7 < 7 := ⟨Int.fmod_nonneg_of_pos _ (by decide), Int.fmod_lt_of_pos _ (by decide)⟩
theorem pick12 {g h : Heap} {L : Addr} {d u x1 x2 x3 x4 x5 c5 c4 c3 c2 c1 : Addr × Obj} (N : News g L h [d, u, x1, x2, x3, x4, x5, c5, c4, c3, c2, c1]) : News g L h [d, u, c5, c4, c3, c2] := fun p hp => N p (by
  rcases List.mem_cons.mp hp with rfl | hp
  · exact .head _
  rcases List.mem_cons.mp hp with rfl | hp
  · exact .tail _ (.head _)
  · exact List.mem_append_left [c1] (List.mem_append_right [d, u, x1, x2, x3, x4, x5] hp))
theorem all4 {P : Addr × Obj → Prop} {a b c d : Addr × Obj} (h1 : P a) (h2 : P b) (h3 : P c) (h4 : P d) : ∀ p ∈ [a, b, c, d], P p := fun p hp => by
  rcases List.mem_cons.mp hp with rfl | hp
  · exact h1
  rcases List.mem_cons.mp hp with rfl | hp
  · exact h2
  rcases List.mem_cons.mp hp with rfl | hp
  · exact h3
  · rw [List.mem_singleton.mp hp]; exact h4
theorem all1 {P : Addr × Obj → Prop} {a : Addr × Obj} (h1 : P a) : ∀ p ∈ [a], P p := fun p hp => by rw [List.mem_singleton.mp hp]; exact h1
theorem fr_back {g g2 h : Heap} {L : Addr} {m : Str → Option Value} (T : KtsTurn [] g g2) (F : Fr g2 L h m) : Fr g L h m := ⟨F.ns, fun b o e => F.keep b o (T.other b o e (fun hb => nomatch hb)), Nat.le_trans (Nat.le_of_eq T.size.symm) F.above⟩
theorem news_back {g g2 h h' : Heap} {L D : Addr} {o : Obj} {news : List (Addr × Obj)} (T : KtsTurn [] g g2) (N : News g L h news) (hk : ∀ b o, b ≠ L → b ∉ ([] : List Addr) → h.get? b = some o → h'.get? b = some o) (N2 : News g2 L h' [(D, o)]) (hn : h.get? D = none) : News g L h' ((D, o) :: news) ∧ ∀ p ∈ news, p.1 ≠ D := by
  refine ⟨fun p hp => ?_, fun p hp e => ?_⟩
  · rcases List.mem_cons.mp hp with rfl | hp
    · have z := N2 _ (.head _)
      refine ⟨z.1, z.2.1, ?_⟩
      cases q : g.get? D with
      | none => rfl
      | some o' => rw [show g2.get? D = some o' from T.other D o' q (fun hb => nomatch hb)] at z; exact absurd z.2.2 (fun e => nomatch e)
    · have z := N p hp
      exact ⟨hk _ _ z.2.1 (fun hb => nomatch hb) z.1, z.2.1, z.2.2⟩
  · have z := (N p hp).1
    rw [e, hn] at z; cases z
theorem pick8 {g h : Heap} {L : Addr} {x d2 d1 u c5 c4 c3 c2 : Addr × Obj} (N : News g L h [x, d2, d1, u, c5, c4, c3, c2]) : News g L h [x, u, c5, c4, c2] := fun p hp => N p (by
  rcases List.mem_cons.mp hp with rfl | hp
  · exact .head _
  rcases List.mem_cons.mp hp with rfl | hp
  · exact .tail _ (.tail _ (.tail _ (.head _)))
  rcases List.mem_cons.mp hp with rfl | hp
  · exact .tail _ (.tail _ (.tail _ (.tail _ (.head _))))
  rcases List.mem_cons.mp hp with rfl | hp
  · exact .tail _ (.tail _ (.tail _ (.tail _ (.tail _ (.head _)))))
  · rw [List.mem_singleton.mp hp]
    exact .tail _ (.tail _ (.tail _ (.tail _ (.tail _ (.tail _ (.tail _ (.head _))))))))
theorem all3 {P : Addr × Obj → Prop} {a b c : Addr × Obj} (h1 : P a) (h2 : P b) (h3 : P c) : ∀ p ∈ [a, b, c], P p := fun p hp => by
  rcases List.mem_cons.mp hp with rfl | hp
  · exact h1
  rcases List.mem_cons.mp hp with rfl | hp
  · exact h2
  · rw [List.mem_singleton.mp hp]; exact h3
theorem all2 {P : Addr × Obj → Prop} {a b : Addr × Obj} (h1 : P a) (h2 : P b) : ∀ p ∈ [a, b], P p := fun p hp => by
  rcases List.mem_cons.mp hp with rfl | hp
  · exact h1
  · rw [List.mem_singleton.mp hp]; exact h2
theorem allr {P : Addr × Obj → Prop} {a b : Addr × Obj} {rs : List (Addr × Obj)} (h1 : P a) (h2 : P b) (h3 : ∀ p ∈ rs, P p) : ∀ p ∈ a :: b :: rs, P p := fun p hp => by
  rcases List.mem_cons.mp hp with rfl | hp
  · exact h1
  rcases List.mem_cons.mp hp with rfl | hp
  · exact h2
  · exact h3 p hp
theorem news_tab {g h h' : Heap} {L : Addr} {m : Str → Option Value} {rows : List (Addr × Obj)} {a b u c5 c4 c2 : Addr × Obj} (F : Fr g L h m) (N0 : News g L h [b, u, c5, c4, c2]) (N : News g L h' [a, b, u, c5, c4, c2]) (hrows : ∀ p ∈ rows, h'.get? p.1 = some p.2 ∧ h.get? p.1 = none) : News g L h' (a :: b :: c5 :: c4 :: c2 :: rows) ∧ ∀ p ∈ rows, p.1 ≠ c5.1 := by
  refine ⟨fun p hp => ?_, fun p hp e => ?_⟩
  · rcases List.mem_cons.mp hp with rfl | hp
    · exact N _ (.head _)
    rcases List.mem_cons.mp hp with rfl | hp
    · exact N _ (.tail _ (.head _))
    rcases List.mem_cons.mp hp with rfl | hp
    · exact N _ (.tail _ (.tail _ (.tail _ (.head _))))
    rcases List.mem_cons.mp hp with rfl | hp
    · exact N _ (.tail _ (.tail _ (.tail _ (.tail _ (.head _)))))
    rcases List.mem_cons.mp hp with rfl | hp
    · exact N _ (.tail _ (.tail _ (.tail _ (.tail _ (.tail _ (.head _))))))
    · obtain ⟨h1, h2⟩ := hrows p hp
      refine ⟨h1, ?_, ?_⟩
      · intro e
        obtain ⟨oL, _, _, e2, _⟩ := F.ns
        rw [e, e2] at h2; cases h2
      · cases q : g.get? p.1 with
        | none => rfl
        | some o' => have := F.keep _ _ q; rw [h2] at this; cases this
  · have z := (N0 c5 (.tail _ (.tail _ (.head _)))).1
    rw [← e, (hrows p hp).2] at z; cases z
theorem ints_map {α : Type} {f : α → Int} : ∀ {vs : List Value} {l : List α}, IntsAre vs (l.map f) → ∀ v ∈ vs, ∃ a ∈ l, ∃ t, v = .int (f a) t
  | _, [], h, v, hv => by cases h; cases hv
  | _, a :: l, h, v, hv => by
    cases h with
    | cons n t h =>
      rcases List.mem_cons.mp hv with rfl | hv
      · exact ⟨a, .head _, t, rfl⟩
      · obtain ⟨b, hb, t', e⟩ := ints_map h v hv
        exact ⟨b, .tail _ hb, t', e⟩
theorem ints_map' {α : Type} {f : α → Int} : ∀ {vs : List Value} {l : List α}, IntsAre vs (l.map f) → ∀ a ∈ l, ∃ v ∈ vs, ∃ t, v = .int (f a) t
  | _, [], h, a, ha => by cases ha
  | _, b :: l, h, a, ha => by
    cases h with
    | cons n t h =>
      rcases List.mem_cons.mp ha with rfl | ha
      · exact ⟨_, .head _, t, rfl⟩
      · obtain ⟨v, hv, t', e⟩ := ints_map' h a ha
        exact ⟨v, .tail _ hv, t', e⟩
theorem post_at {P PS : List Str} {vs : List Value} (hP : P.length = 8) (hsub : ∀ x ∈ PS, x ∈ P) (h : IntsAre vs (PS.map fun x => ((P.idxOf x : Nat) : Int))) : ∀ v ∈ vs, ∃ (p : Nat) (t : Tok), v = .int ((p : Nat) : Int) t ∧ p < 8 := fun v hv => by
  obtain ⟨x, hx, t, e⟩ := ints_map h v hv
  exact ⟨_, t, e, hP ▸ List.idxOf_lt_length_iff.mpr (hsub x hx)⟩
noncomputable def keepB (us : List Int) (r z : Int) (v : Value) : Bool := match v with | .int p _ => decide (stepVal us p.toNat z.toNat ≤ r) | _ => false
noncomputable abbrev keepOf {keep : Value → Bool} {vs : List Value} (_ : (!(List.filter keep vs).isEmpty) = true) : Value → Bool := keep
theorem range8 {ys : List Value} (h : CarriedAll ys (List.map PyData.int (rangeInts 0 1 (8 - 0 : Int).toNat))) : IntsAre ys [0, 1, 2, 3, 4, 5, 6, 7] := by
  have e : rangeInts 0 1 (8 - 0 : Int).toNat = [0, 1, 2, 3, 4, 5, 6, 7] := by decide
  rw [e] at h
  simpa using ints_of_carried h
theorem bare_no {us : List Int} {r : Int} {P PS : List Str} {vs : List Value} (h : IntsAre vs (PS.map fun x => ((P.idxOf x : Nat) : Int))) (hcov : ∀ i < 8, ∃ p ∈ PS.map fun x => P.idxOf x, stepVal us p i ≤ r) : ∀ i : Nat, i < 8 → (!(vs.filter (keepB us r (0 + (i : Int)))).isEmpty) = true := fun i hi => by
  obtain ⟨p, hp, hs⟩ := hcov i hi
  obtain ⟨x, hx, rfl⟩ := List.mem_map.mp hp
  obtain ⟨v, hv, t, rfl⟩ := ints_map' h x hx
  have hm : Value.int ((P.idxOf x : Nat) : Int) t ∈ vs.filter (keepB us r (0 + (i : Int))) := by
    rw [List.mem_filter]
    refine ⟨hv, ?_⟩
    show decide (stepVal us ((P.idxOf x : Nat) : Int).toNat (0 + (i : Int)).toNat ≤ r) = true
    rw [Int.zero_add, Int.toNat_natCast, Int.toNat_natCast]
    exact decide_eq_true hs
  cases q : vs.filter (keepB us r (0 + (i : Int))) with
  | nil => rw [q] at hm; cases hm
  | cons a l => rfl
theorem tab_of {g h : Heap} {L D : Addr} {news rows : List (Addr × Obj)} {refs : List Value} {us : List Int} (N : News g L h news) (hD : (D, LCg.lst refs) ∈ news) (hs : ∀ p ∈ rows, p ∈ news) (hrefs : refs = rows.map (fun p : Addr × Obj => Value.ref p.1)) (hR : Two (fun i (p : Addr × Obj) => IntsObj (stepRow us i) p.2) (List.range 8) rows) : TabAt h D us := by
  refine ⟨refs, ⟨_, N.get hD, rfl, _, rfl⟩, by rw [hrefs, List.length_map, ← hR.length]; rfl, fun i hi => ?_⟩
  obtain ⟨p, hp, ws, n1, ho, hx⟩ := hR.get (i := i) (a := i) (by simp [hi])
  have hm := hs p (List.mem_of_getElem? hp)
  refine ⟨p.1, ws, by rw [hrefs, List.getElem?_map, hp]; rfl, ⟨_, N.get hm, by rw [ho], n1, by rw [ho]⟩, hx⟩
noncomputable def IdxI (PS P : List Str) (i : Nat) (y : Value) : Prop := ∃ x, PS[i]? = some x ∧ IsI ((P.idxOf x : Nat) : Int) y
theorem reg_lw : True := by
  k_with "call ref" => (k_here; (with_reducible show wpAny _ _ (call (Value.ref 169) [Value.ref _, Value.int _ _]) _ _ _); refine Stop.go ?_)
  k_with "call ref" => (k_here; (with_reducible show wpAny _ _ (call (Value.ref 188) [Value.ref _, Value.int _ _]) _ _ _); refine Stop.go ?_)
  k_with "getMethod ref" => (k_here; (with_reducible show wpAny _ _ (getMethod (Value.ref _) (PySem.Str.ofString "index") _) _ _ _); k_dflt (refine' kf_method ?zN ?zm PySem.F.slot_list_index PySem.F.type_list_index ?_; (case zN => k_asm); (case zm => first | k_mem | exact List.Mem.tail _ (List.Mem.tail _ (List.Mem.tail _ (List.Mem.tail _ (List.Mem.head _)))))))
  k_with "call builtin:list.index" => (k_here; (with_reducible show wpAny _ _ (call (Value.builtin _) [Value.ref _, Value.str _ _]) _ _ _); k_dflt (refine' str_index ?zN ?zm hws1 hxP hP8 ?_; (case zN => k_asm); (case zm => k_mem)); intro tkx tx)
  k_with "Same" => first | exact Same.intro (by k_asm) (by k_asm) | exact Same.intro (by k_asm) (drop_hd (by k_asm))
  k_with "call ref" => (k_here; (with_reducible show wpAny _ _ (call (Value.ref 200) [Value.ref _]) _ _ _); refine Stop.go ?_)
  k_with "exec Assign cons ListComp" => (k_here; (with_reducible show wpAny _ _ (exec (Stmt.Assign _ (Expr.ListComp _ [⟨_, _, [_], _⟩] _ _) _) _) _ _ _); refine Stop.go ?_)
  k_with "memr" => (intro p hp; (repeat (first | exact hp | refine List.mem_cons_of_mem _ ?_)))
  k_with "eval ListComp" => (k_here; (with_reducible show wpAny _ _ (eval (Expr.ListComp _ [⟨_, _, [_], _⟩] _ _) _) _ _ _); k_dflt (refine LCt.ListComp_T (F₀ := by k_asm) (by with_unfolding_all rfl) (by decide) (by rfl) (by decide) (by rfl) ?_); walk1; k_dflt (refine LCt.CompSrcT.ledger (by rfl) (by k_asm) (by k_asm) (by k_mem) (by rw [List.size_toArray, sizeLine_eq]; exact Nat.le_trans hy8 (by decide)) ?_); intro g8; k_dflt (refine' compT_filter (keepOf hemp) ?hS ?_ ?_ ?_; (case hS => exact Or.inr ⟨_, by k_mem, rfl, _, rfl⟩)); all_goals (first | (intro v' I' oI' C' oC' D' ys' m' h' tk' E' hv' hkp' hC' hx' F' N' off' ne'; obtain ⟨p9, t9, hv9, hp9⟩ := hpst v' (by simpa using hv'); subst hv9; clear off' ne') | (intro v' I' oI' C' oC' D' ys' m' h' tk' E' hv' hC' hx' F' N' off' ne'; obtain ⟨p9, t9, hv9, hp9⟩ := hpst v' (by simpa using hv'); subst hv9; clear off' ne') | (intro ys' hys'; (have hfy : ys'.length ≤ 1000 := by rw [hys']; exact Nat.le_trans (List.length_filter_le _ _) (Nat.le_trans hy8 (by decide))); (have hemy : (!ys'.isEmpty) = true := by rw [hys']; exact hemp); clear hys')))
  k_with "truthy ref" => (k_here; k_dflt (refine' truthy_ground ?zl hemy hfy ?_; (case zl => exact ⟨_, News.get (by k_asm) (.head _), rfl, _, rfl⟩)); intro tkt)
  k_with "subscriptTail" => (k_here; k_dflt (first | (refine' tab_get ?zt1 ?zt2 ?zt3 ?_ ?zt4; (case zt1 => exact tab_of (by k_asm) (by k_mem) (by walk_at "memr") hrefs hR4); (case zt2 => exact Int.natCast_nonneg _); (case zt3 => exact Int.ofNat_lt.mpr hp9); (case zt4 => with_unfolding_all rfl); intro ra' wa' hla' hxa') | (refine' row_item ?zt1 ?zt2 ?zt3 ?zt5 ?_ ?zt4; (case zt1 => assumption); (case zt2 => assumption); (case zt3 => omega); (case zt5 => omega); (case zt4 => with_unfolding_all rfl); intro ta')))
  k_with "call builtin:len" => (k_here; k_dflt (refine' len_led ?zn1 ?zn2 (Nat.le_trans hy8 (by decide)) ?_; (case zn1 => k_asm); (case zn2 => k_mem)); intro tl tkl)
  k_with "call ref" => (k_here; (with_reducible show wpAny _ _ (call (Value.ref 205) [Value.ref _, Value.ref _, Value.int _ _]) _ _ _); refine Stop.go ?_)
  k_with "IdxI" => exact ⟨_, hpx, _, rfl⟩
  trivial
/-- written out here, so that k_go0 finds it: the library's own quick road would lay a second twin of the whole program -/
theorem names_ok : namesOk hd.view_39 (looseW hd.view_39 []) (namesW hd.view_39 []) = true := by decide +kernel
theorem idx7 {k : Int} (f : Int → Int) (xs : List Int) (h : k < 0 + ((7 - 0 : Int).toNat : Int)) : k < ((List.take 7 (List.map f (List.take 7 xs) ++ [1, 1, 2, 3, 4, 1, 4])).length : Int) := by
  have e : (List.take 7 (List.map f (List.take 7 xs) ++ [1, 1, 2, 3, 4, 1, 4])).length = 7 := by
    rw [List.length_take, List.length_append]
    exact Nat.min_eq_left (Nat.le_add_left _ _)
  rw [e]
  exact h
local macro_rules | `(tactic| k_qdec) => `(tactic| exact names_ok)
local macro_rules | `(tactic| l_idx) => `(tactic| exact idx7 _ _ (by assumption))
/-- bundled, so that the theorem's own name in the context of its proof does not unfold -/
theorem law_go : Stop Challenge.rw_pd0139_01.Holds := ⟨Mine.hd (by
  k_go0
  (all_goals try k_fold)
  rename List Int => xs
  rename Shared => s1
  have hend : ∀ h' tk' m', Fr s1.heap s1.heap.objs.size h' m' → qk (.ret (.bool true)) {heap := h', gens := s1.gens, drawn := s1.drawn, toks := tk', os := s1.os} := by
    intro h' tk' m' F'
    refine goodW_bool F' (by assumption) (raisesW_false ?_) ?_
    · wrow_none_raised
    · wrow_post
  walk_at "mine steps"
  refine Stop.mk ?_
  rename IntsAre _ (List.map _ (rangeKs _ _)) => hi
  obtain ⟨hl7, hub⟩ := us_ok (fun k' => ((List.take 7 (List.map (fun k' => k'.fmod (10 ^ 6)) (List.take 7 xs) ++ [1, 1, 2, 3, 4, 1, 4])).getD k'.toNat 0))
  have hr := r_ok (List.take 7 (List.map (fun k' => k'.fmod (10 ^ 6)) (List.take 7 xs) ++ [1, 1, 2, 3, 4, 1, 4])).sum
  have ht := t_ok (List.take 7 (List.map (fun k' => k'.fmod (10 ^ 6)) (List.take 7 xs) ++ [1, 1, 2, 3, 4, 1, 4])).sum
  generalize hU : List.map _ (rangeKs 0 ((7 : Int) - 0).toNat) = us at hi hl7 hub
  k_dflt (refine' joined_c (us := us) ?k1 ?k2 ?k3 ?k4 ?za hi hl7 hub ?kd ?ku ?_; (case za => exact ⟨_, News.get (by k_asm) (by k_mem), rfl, _, rfl⟩); walk_at "mine args")
  intro D1 ws1 n1 h' tk' K' hws1 hD' hn'
  obtain ⟨N', hne1⟩ := news_new (by k_asm) (by k_asm) K' hD' hn'
  have F' := keep_fr (by k_asm) K'
  clear K' hU
  (try dsimp only)
  have N9 := pick12 N'
  refine store_cell (pre := [(_, _), (_, _), (_, _), (_, _)]) (post := [_]) F' N9 (all4 ?_ ?_ ?_ ?_) (all1 ?_) rfl rfl rfl (by assumption) ?_
  · exact Ne.symm (hne1 _ (.tail _ (.tail _ (.tail _ (.tail _ (.tail _ (.tail _ (.tail _ (.tail _ (.head _))))))))))
  · exact Ne.symm (by assumption)
  · exact Nat.ne_of_gt (Nat.lt_succ_of_lt (Nat.lt_succ_self _))
  · exact Nat.ne_of_gt (Nat.lt_succ_self _)
  · exact Nat.ne_of_lt (Nat.lt_succ_self _)
  clear N' F' N9
  intro h' oc3 hoc3 F' N'
  dsimp only [List.cons_append, List.nil_append] at N'
  iterate 3 (first | (k_unfold; (try dsimp only)) | walk1 | (dsimp only; walk1))
  k_dflt (refine LCg.ListComp_U (by k_asm) (by rfl) (by decide) (by rfl) (by decide) (by rfl) ?_)
  walk_at "mine steps"
  refine Stop.mk ?_
  obtain ⟨dep, PS, hp, hcov, hmost⟩ := plain_ok hl7 hub hr ht
  k_dflt (refine' posted_c (dep := dep) (PS := PS) ?k1 ?k2 ?k3 ?k4 ?xb ?tb ?kD hr ?za hws1 hp.hP hp.hlen hp.hdir hp.hslash hp.hcp hp.hdep hp.hok hp.hrun ?kd ?ku ?_; (case xb => assumption); (case tb => assumption); (case kD => exact fun _ hb => nomatch hb); (case za => exact ⟨_, News.get (by k_asm) (by k_mem), rfl, _, rfl⟩); walk_at "mine args")
  intro D2 ws2 n2 h' tk' g2 hG2 hkeep F2 N2 hws2 hn2
  have F' := fr_back hG2.turn F2
  obtain ⟨N', hne2⟩ := news_back hG2.turn (by k_asm) hkeep N2 hn2
  clear F2 N2 hG2 hkeep
  refine LCg.CompSrc.ledger (by rfl) F' N' (.head _) (by rw [List.size_toArray, hws2.length, sizeLine_eq]; exact Nat.le_trans hp.hps (by decide)) ?_
  generalize jn us _ 7 = P at hws1 hp hcov
  intro g8
  rw [show ws2.toArray.size = PS.length by rw [List.size_toArray, hws2.length]]
  have hlp8 : PS.length ≤ 8 := hp.hps
  k_dflt (refine' comp_map (IdxI PS P) ?hS ?_ ?_; (case hS => exact Or.inr ⟨_, .head _, rfl, _, rfl⟩))
  · rintro i v I oI C oC D3 ys m₂ h₁ tk₁ E' hi8 hv hoC hx F' N' off hne9
    have nIC := hne9.1
    have nID := hne9.2.1
    have nCD := hne9.2.2
    clear hne9
    obtain ⟨xp, tp, hpx, rfl⟩ := strs_get hws2 hv
    have hxP := hp.hsub _ (List.mem_of_getElem? hpx)
    have hP8 := Nat.le_trans (Nat.le_of_eq hp.hP) (show 8 ≤ 1000 by decide)
    walk_at "mine steps"
  · intro ys hR
    have hys := two_idx (f := fun x => P.idxOf x) hR
    rw [fm_range] at hys
    clear hR
    have hy8 : ys.length ≤ 8 := by rw [hys.length, List.length_map]; exact hlp8
    have hyl : (ys.length : Int) = (PS.length : Int) := by rw [hys.length, List.length_map]
    have hpst := post_at hp.hP hp.hsub hys
    have hbare := bare_no hys hcov
    unfold LCg.FinE
    intro D3 h' tk' F' N' o1'
    have N9 := pick8 N'
    refine store_cell (pre := [(_, _), (_, _), (_, _)]) (post := [_]) F' N9 (all3 ?_ ?_ ?_) (all1 ?_) rfl rfl rfl (by assumption) ?_
    · exact Ne.symm o1'.2.2.2.2.1
    · exact Ne.symm (by assumption)
    · exact Nat.ne_of_gt (Nat.lt_succ_self _)
    · exact Nat.ne_of_lt (Nat.lt_succ_of_lt (Nat.lt_succ_self _))
    clear N' F' N9
    intro h' oc4 hoc4 F' N'
    dsimp only [List.cons_append, List.nil_append] at N'
    walk_at "mine steps"
    refine Stop.mk ?_
    k_dflt (refine' steps_c (us := us) ?k1 ?k2 ?k3 ?k4 ?za hi hl7 hub ?kd ?ku ?_; (case za => exact ⟨_, News.get (by k_asm) (by k_mem), rfl, _, rfl⟩); walk_at "mine args")
    intro D4 refs rows h' tk' K' hD4 hrefs hR4 hrows hn4
    obtain ⟨N', hne4⟩ := news_new (by k_asm) (by k_asm) K' hD4 hn4
    have F' := keep_fr (by k_asm) K'
    obtain ⟨N', hrn⟩ := news_tab (by k_asm) (by k_asm) N' hrows
    clear K'
    (try dsimp only)
    refine store_cell (pre := [(_, _), (_, _)]) (post := _ :: _ :: rows) F' N' (all2 ?_ ?_) (allr ?_ ?_ hrn) rfl rfl rfl (by assumption) ?_
    · exact Ne.symm (hne4 _ (.tail _ (.tail _ (.head _))))
    · exact Ne.symm o1'.2.2.2.1
    · exact Nat.ne_of_lt (Nat.lt_succ_self _)
    · exact Nat.ne_of_lt (Nat.lt_succ_of_lt (Nat.lt_succ_of_lt (Nat.lt_succ_self _)))
    clear N' F'
    intro h' oc5 hoc5 F' N'
    dsimp only [List.cons_append, List.nil_append] at N'
    walk_at "mine steps"
    refine Stop.mk ?_
    k_dflt (refine Assign_ListComp_CR 8 (by k_asm) rfl (by with_unfolding_all rfl) (by with_unfolding_all rfl) (fun _ => rfl) (fun _ => rfl) rfl (by decide) rfl rfl rfl ?_)
    walk_at "mine steps"
    rename IsRange _ _ _ _ _ _ _ _ => hrg
    k_dflt (refine ⟨⟨_, _, _, _, _, rfl, rfl, by k_asm, by k_asm, hrg, by decide, by decide, by decide, _, ⟨rfl, rfl⟩, fun s₂ hs2 => ⟨turnC_drop trivial ?_, ?_⟩⟩⟩)
    · obtain ⟨hx1, rfl⟩ := hs2
      rintro i v I oI C oC D X oX m₂ h₁ tk₁ E' hi8 ⟨ti, rfl⟩ hoC hoX F' N' off hne9
      have nIC := hne9.1
      have nID := hne9.2.1
      have nCD := hne9.2.2.1
      have nIX := hne9.2.2.2.1
      have nCX := hne9.2.2.2.2.1
      have nDX := hne9.2.2.2.2.2
      clear hne9
      have hemp := hbare i hi8
      clear hbare
      walk_at "mine steps"
    · obtain ⟨hx1, rfl⟩ := hs2
      rintro D5 h2 tk2 ys2 news2 F' N' hne5 ⟨rfl, rfl⟩
      walk_at "mine steps"
      refine Stop.mk ?_
      k_dflt (refine' most_c _ hr 8 ?k1 ?k2 ?k3 ?k4 ?za ?zi ?zx ?zf (Nat.le_refl _) ?zT ?kd ?ku ?_; (case za => assumption); (case zi => exact range8 (by assumption)); (case zx => decide); (case zf => decide); (case zT => exact tab_of (by k_asm) (by k_mem) (by walk_at "memr") hrefs hR4); walk_at "mine args")
      intro t8 h' tk' K'
      have F' := keep_fr (by k_asm) K'
      clear K'
      rw [List.length_map, hmost]
      walk_at "mine steps"
      simp only [beq_self_eq_true]
      exact hend _ _ _ F')⟩
theorem law_tst : Challenge.rw_pd0139_01.Holds := law_go.go
end
end Mine
theorem PySem.Challenge.cw_pd0139_01_holds : PySem.Challenge.rw_pd0139_01.Holds := by
  exact Mine.law_tst
