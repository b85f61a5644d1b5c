import PyProof.Rows.All
import Wide.All
import OpenK.AllK
import Wide.FinOn
import PySem.Challenge.RW_ik0123_01
open PySem PySem.W PyProof.Rows
set_option Elab.async false
set_option linter.unusedVariables false
set_option maxRecDepth 100000
set_option maxHeartbeats 8000000
set_option rowWalk.seconds 0
set_option compiler.extract_closed false
set_option genInjectivity false
set_option genSizeOf false
namespace Mine
namespace Head
theorem tw5778530388926215949 : True := trivial
theorem tw5554824094131721371 : True := trivial
theorem tw17381559300205464451 : True := trivial
theorem tw16326043816545232411 : True := trivial
theorem tw16541197769954980538 : True := trivial
theorem tw5363458784423274989 : True := trivial
theorem tw4301018108033774775 : True := trivial
theorem tw122632157237671953 : True := trivial
theorem tw3205846611942288288 : True := trivial
theorem tw3097860199010922675 : True := trivial
theorem tw14266389309568883406 : True := trivial
theorem tw3317832274802598172 : True := trivial
theorem tw16501049272447380679 : True := trivial
theorem tw2508161344106984165 : True := trivial
theorem tw15916133582627451608 : True := trivial
theorem tw14287029557479352111 : True := trivial
theorem tw13098061977031076671 : True := trivial
theorem tw15280233189509851411 : True := trivial
theorem tw4630578287486820668 : True := trivial
theorem tw15991067775348136043 : True := trivial
theorem tw9948876036026490102 : True := trivial
theorem tw16704629358093336727 : True := trivial
theorem tw9156415163535246670 : True := trivial
theorem tw7644538000783802896 : True := trivial
theorem tw14434802107471133766 : True := trivial
theorem tw8508052728047015611 : True := trivial
theorem tw15813990126076457056 : True := trivial
theorem tw4857337733642241238 : True := trivial
theorem tw7859686415514943649 : True := trivial
theorem tw7746811789460526277 : True := trivial
theorem tw4116943832001598990 : True := trivial
theorem tw16789166112530874636 : True := trivial
theorem tw2683811311599142195 : True := trivial
theorem tw10666648032378209709 : True := trivial
theorem tw11242320694972025110 : True := trivial
theorem tw11814062165205255315 : True := trivial
theorem tw2764482799010293646 : True := trivial
theorem tw13246378766416515909 : True := trivial
theorem tw16310861074314885025 : True := trivial
theorem tw6027626533414716598 : True := trivial
theorem tw17225459288706761844 : True := trivial
theorem tw15096816127469683499 : True := trivial
theorem tw6515597600205370044 : True := trivial
theorem tw10584329845190867219 : True := trivial
theorem tw12273406625635676555 : True := trivial
theorem tw8500877202319345595 : True := trivial
theorem tw17679434741730152071 : True := trivial
theorem tw9604516565325463195 : True := trivial
theorem tw5725006890710642318 : True := trivial
theorem tw9887335441705103614 : True := trivial
theorem tw4203603541851936923 : True := trivial
theorem tw8095766392685959489 : True := trivial
theorem tw9298600684811314309 : True := trivial
theorem tw2223308273183627942 : True := trivial
theorem tw1051487525597873474 : True := trivial
theorem tw16185224409675689574 : True := trivial
theorem tw4994710710825899275 : True := trivial
theorem tw9122060020666281367 : True := trivial
theorem tw9184781426464476368 : True := trivial
theorem tw14480030705985766658 : True := trivial
theorem tw17505643126156082793 : True := trivial
theorem tw15162093750850779326 : True := trivial
theorem tw4861791327518377304 : True := trivial
theorem tw10666301016051469042 : True := trivial
theorem tw3000790785194983836 : True := trivial
theorem tw8777785307049167344 : True := trivial
theorem tw321209745019813805 : True := trivial
theorem tw3039793544665253832 : True := trivial
theorem tw15839965401560731956 : True := trivial
theorem tw10751140039864769088 : True := trivial
theorem tw18090350546487454346 : True := trivial
theorem tw14055478666187014312 : True := trivial
theorem tw10559135222539811322 : True := trivial
theorem tw8974601499440948689 : True := trivial
theorem tw8507742652080537837 : True := trivial
theorem tw7610104127437437681 : True := trivial
theorem tw9077055952052113834 : True := trivial
theorem tw363002766683648999 : True := trivial
theorem tw5520428739754870809 : True := trivial
theorem tw17064844891747820506 : True := trivial
theorem tw1786437038163271991 : True := trivial
theorem tw4267998258122348228 : True := trivial
theorem tw9405890407950723141 : True := trivial
theorem tw200625665610677957 : True := trivial
theorem tw6335514196789879896 : True := trivial
theorem tw17094658305819892707 : True := trivial
theorem tw10992674797043068244 : True := trivial
theorem tw1897454996472838491 : True := trivial
theorem tw10346356180244543432 : True := trivial
theorem tw10414232973283705291 : True := trivial
theorem tw5144457823860031674 : True := trivial
theorem tw2972143964134281542 : True := trivial
theorem tw2510567177738141114 : True := trivial
theorem tw1617320921880486764 : True := trivial
theorem tw175632732272014245 : True := trivial
theorem tw7398523115378448493 : True := trivial
theorem tw1167594649674590693 : True := trivial
theorem tw5152825664609077304 : True := trivial
theorem tw11776945390294034271 : True := trivial
theorem tw9304626822469975267 : True := trivial
theorem tw6222734704314470514 : True := trivial
theorem tw14157418315367256012 : True := trivial
theorem tw3578185380870755600 : True := trivial
theorem tw4394529590210585649 : True := trivial
theorem tw2726350455509734681 : True := trivial
theorem tw1795022128504725950 : True := trivial
theorem tw5789334903416996080 : True := trivial
theorem tw15221227624356974684 : True := trivial
theorem tw17434710047024128233 : True := trivial
theorem tw6182219637419409846 : True := trivial
theorem tw15473710640116644105 : True := trivial
theorem tw13701291217232078649 : True := trivial
theorem tw16363561893704816602 : True := trivial
theorem tw12836079166325130036 : True := trivial
theorem tw10854058737997348956 : True := trivial
theorem tw7802988924158409075 : True := trivial
theorem tw8577574619139423507 : True := trivial
theorem tw10818783550881413541 : True := trivial
theorem tw608046392362083423 : True := trivial
theorem tw1946655176480448820 : True := trivial
theorem tw6108052958203261005 : True := trivial
theorem tw2214317742656497812 : True := trivial
theorem tw4571362438044278789 : True := trivial
theorem tw10824606448002055242 : True := trivial
theorem tw784805567631924366 : True := trivial
theorem tw9633413950471787367 : True := trivial
theorem tw13408992979769950428 : True := trivial
theorem tw5063527207290291692 : True := trivial
theorem tw12306717952718577679 : True := trivial
theorem tw14353190624953569479 : True := trivial
theorem tw17224244263271033591 : True := trivial
theorem tw8265404878468387566 : True := trivial
theorem tw14397452545154537257 : True := trivial
theorem tw5324065218315214781 : True := trivial
theorem tw6215917342269767208 : True := trivial
theorem tw15729785488661459196 : True := trivial
theorem tw11392804780624702851 : True := trivial
theorem tw3054677774726150751 : True := trivial
theorem tw16872354888600554379 : True := trivial
theorem tw669304029351223727 : True := trivial
theorem tw3973626228650748128 : True := trivial
theorem tw9276094476974131819 : True := trivial
theorem tw16034434351913862396 : True := trivial
theorem tw4410455684355856390 : True := trivial
theorem tw4315195708166183427 : True := trivial
theorem tw10501744152296882262 : True := trivial
theorem tw3195036201173552304 : True := trivial
theorem tw5167563873480859459 : True := trivial
theorem tw2769474558798705609 : True := trivial
theorem tw17332333361551730400 : True := trivial
theorem tw3732882908608693682 : True := trivial
theorem tw14044601979273582750 : True := trivial
theorem tw15984201423349239853 : True := trivial
theorem tw7341073697537508253 : True := trivial
theorem tw13065357195085808391 : True := trivial
theorem tw8970739971631909614 : True := trivial
theorem tw12583296279625784716 : True := trivial
theorem tw4347542461460510529 : True := trivial
theorem tw5734490943399521632 : True := trivial
theorem tw18327370413944688970 : True := trivial
theorem tw14253561259440457429 : True := trivial
theorem tw2525601027313608451 : True := trivial
theorem tw15016915426481316448 : True := trivial
theorem tw17369928708551063447 : True := trivial
theorem tw17014374132407544016 : True := trivial
theorem tw1057017655751285717 : True := trivial
theorem tw3482203522747957227 : True := trivial
theorem tw2499870896042517578 : True := trivial
theorem tw1460405533796827631 : True := trivial
theorem tw5876786524264938278 : True := trivial
theorem tw8172454592672350766 : True := trivial
theorem tw2755795239435217056 : True := trivial
theorem tw16657627894772527447 : True := trivial
theorem tw15599682735363472023 : True := trivial
theorem tw13335439010991146277 : True := trivial
theorem tw9959586580568065487 : True := trivial
theorem tw5322467671520453910 : True := trivial
theorem tw9199847570094874400 : True := trivial
theorem tw10283586426728906886 : True := trivial
theorem tw4242168501409130191 : True := trivial
theorem tw14399431384156811731 : True := trivial
theorem tw2775341650553657 : True := trivial
theorem tw402941442215422976 : True := trivial
theorem tw8017953387557848715 : True := trivial
theorem tw442647583124988355 : True := trivial
theorem tw14517160340302019738 : True := trivial
theorem tw16821343503738294926 : True := trivial
theorem tw13999020017368843746 : True := trivial
theorem tw12445727423993166716 : True := trivial
theorem tw4634619924401279885 : True := trivial
theorem tw2308934519924245544 : True := trivial
theorem tw4766532319322072185 : True := trivial
theorem tw14698168452875252990 : True := trivial
end Head
set_option Elab.async true in
theorem Head : True := by
  first
  | have x := with_decl_name% Mine.Head.hd ((by
        (set_option Elab.async false in (w_on; o_law; k_head; (case hw => w_witness2)))
        fail : PySem.Challenge.rw_ik0123_01.Holds) :)
    trivial
  | trivial
theorem barrier : True := trivial
open_top Head.hd for PySem.Challenge.rw_ik0123_01
end Mine
open Mine.Head

section
open PySem PySem.W PyProof.Rows PySem.Calls
namespace Mine

section
open PySem PySem.W PyProof.Rows PySem.Calls
theorem freshM0 : True := by
  w_top off
  trivial
/-- the addresses of the frames below -/
noncomputable abbrev frs (outer : List Env) : List Addr := outer.filterMap (·.frame)

/-- what a def hands back, where the frames below it may have been noted by an exception that was caught within -/
noncomputable def LeaveT (A₀ : Around) (base : Heap) (outer : List Env) (K : Frag) (p : Program) (loose : List Str) (mean : ExcName → Option Value) (mg mb : Str → Option Value) (h₀ : Heap) (L : Addr) (m : Str → Option Value) (fs : List Addr) (g : Heap) (R : Result → Shared → Prop) (v : Value) (s' : Shared) : Prop :=
  ∃ g' L' m' news', KtsTurn fs g g' ∧ Fr g' L' s'.heap m' ∧ News g' L' s'.heap news' ∧
    ∀ h₀', KtsTurn (frs outer) h₀ h₀' → Fr h₀' L s'.heap m → News h₀' L s'.heap news' → Below A₀ base outer h₀' → K.In h₀' → Top p loose mean mg mb h₀' → KtsDicts (frs outer) h₀' → R (.ok (.ret v)) s'

section
variable {prog : Program} {w : World} {A₀ A : Around} {s : Shared} {base h₀ : Heap} {outer : List Env} {env : Env} {L : Addr} {m : Str → Option Value} {news : List (Addr × Obj)} {K : Frag} {p : Program} {loose : List Str} {mean : ExcName → Option Value} {mg mb : Str → Option Value}
  {R : Result → Shared → Prop} {name qual : Str} {params : Arguments} {body : List Stmt} {scope : Scope} {dV kV doc pm cdv ct oc : Value} {an od : Option Addr} {osl : Array (Option Value)} {f : Addr} {args : Args} {binds : List (Str × Value)}

/-- the caller's ground, once the callee's ground g has turned to g' -/
theorem ground_back {g g' h' : Heap} {L' : Addr} {m' : Str → Option Value} {news' : List (Addr × Obj)} (B : Below A₀ base outer h₀) (XB : K.In base) (TB : Top p loose mean mg mb base) (D : KtsDicts (frs outer) h₀) (hf : env.frame = some L)
    (FG : Fr h₀ L g m) (T : KtsTurn (frs (env :: outer)) g g') (F' : Fr g' L' h' m') (N' : News g' L' h' news') :
    ∃ h₀', KtsTurn (frs outer) h₀ h₀' ∧ Fr h₀' L h' m ∧ News h₀' L h' news' ∧ Below A₀ base outer h₀' ∧ K.In h₀' ∧ Top p loose mean mg mb h₀' ∧ KtsDicts (frs outer) h₀' := by
  have hfr : frs (env :: outer) = L :: frs outer := by simp [frs, hf]
  rw [hfr] at T
  have hL0 : h₀.get? L = none := kts_self FG
  have up : ∀ b o, h₀.get? b = some o → ∃ sl, h'.get? b = some { o with slots := sl } := fun b o e => by
    obtain ⟨sl, hs⟩ := T.up (FG.keep b o e)
    exact ⟨sl, F'.keep _ _ hs⟩
  obtain ⟨T₁, S₁⟩ := kts_turn_at (h := h') (fs := frs outer) (g := h₀)
    (fun b hb => let ⟨_, o, ho, _⟩ := B.frames.mem hb; ⟨o, ho⟩)
    (fun b o e nm => F'.keep b o (T.other b o (FG.keep b o e) fun hm => by
      rcases List.mem_cons.mp hm with rfl | hm
      · rw [hL0] at e; cases e
      · exact nm hm))
    (fun b o e _ => up b o e)
  obtain ⟨oL, es, ep, hLg, hLd, hLk, hLf⟩ := FG.ns
  obtain ⟨sl, hs⟩ := T.up hLg
  have hLh := F'.keep _ _ hs
  have BB : Below A₀ base outer (ktsHeap h' (frs outer) h₀) := ⟨B.stack, fun b o e => T₁.other b o (B.stays b o e) (fun hm => by
    rw [(B.frames.mem hm).1] at e; cases e), B.frames.of_keeps fun b o e _ => by
      obtain ⟨sl', hs'⟩ := T₁.up e
      exact ⟨_, hs', rfl⟩⟩
  refine ⟨_, T₁, ⟨⟨_, es, ep, hLh, hLd, hLk, hLf⟩, S₁, by rw [T₁.size]; exact FG.above⟩, fun q hq => ⟨(N' q hq).1, fun e => ?_, ?_⟩, BB, XB.keeps BB.stays, TB.keeps BB.stays, D.turn T₁⟩
  · have := (N' q hq).2.2
    rw [e, hs] at this; cases this
  · refine T₁.none_ _ ?_
    cases hq0 : h₀.get? q.1 with
    | none => rfl
    | some o =>
      obtain ⟨sl', hs'⟩ := T.up (FG.keep _ _ hq0)
      have := (N' q hq).2.2
      rw [hs'] at this; cases this

/-- the caller's ground, behind an exception that flew out of the callee alone and is caught -/
theorem ground_stop {g h' : Heap} {e : Addr} {cls : Value} {news' : List (Addr × Obj)} (B : Below A₀ base outer h₀) (XB : K.In base) (TB : Top p loose mean mg mb base) (D : KtsDicts (frs outer) h₀) (hf : env.frame = some L)
    (FG : Fr h₀ L g m) (R : RaisedSN base g (env :: outer) e cls news' h') (U : g.UpToSlots h') :
    ∃ h₀', KtsTurn (frs outer) h₀ h₀' ∧ Fr h₀' L h' m ∧ News h₀' L h' news' ∧ Below A₀ base outer h₀' ∧ K.In h₀' ∧ Top p loose mean mg mb h₀' ∧ KtsDicts (frs outer) h₀' := by
  have hfr : frs (env :: outer) = L :: frs outer := by simp [frs, hf]
  obtain ⟨B₁, a0, _, hBG, hl, hfl⟩ := R
  have hL0 : h₀.get? L = none := kts_self FG
  have up : ∀ b o, h₀.get? b = some o → b ∈ frs outer → ∃ sl, h'.get? b = some { o with slots := sl } := fun b o e hm => by
    obtain ⟨_, o', ho', hd⟩ := B.frames.mem hm
    rw [e] at ho'; cases ho'
    exact U b o (FG.keep b o e) hd
  obtain ⟨T₁, S₁⟩ := kts_turn_at (h := h') (fs := frs outer) (g := h₀)
    (fun b hb => let ⟨_, o, ho, _⟩ := B.frames.mem hb; ⟨o, ho⟩)
    (fun b o e nm => hfl.1 b o (hBG b o (FG.keep b o e) fun hm => by
      have hm : b ∈ L :: frs outer := hfr ▸ hm
      rcases List.mem_cons.mp hm with rfl | hm
      · rw [hL0] at e; cases e
      · exact nm hm))
    up
  obtain ⟨oL, es, ep, hLg, hLd, hLk, hLf⟩ := FG.ns
  obtain ⟨sl, hLh⟩ := U L oL hLg (fun vs q => by rw [hLd] at q; cases q)
  have BB : Below A₀ base outer (ktsHeap h' (frs outer) h₀) := ⟨B.stack, fun b o e => T₁.other b o (B.stays b o e) (fun hm => by
    rw [(B.frames.mem hm).1] at e; cases e), B.frames.of_keeps fun b o e _ => by
      obtain ⟨sl', hs'⟩ := T₁.up e
      exact ⟨_, hs', rfl⟩⟩
  refine ⟨_, T₁, ⟨⟨_, es, ep, hLh, hLd, hLk, hLf⟩, S₁, by rw [T₁.size]; exact FG.above⟩, fun q hq => ⟨hfl.1 _ _ (hl q hq).1, fun e => ?_, ?_⟩, BB, XB.keeps BB.stays, TB.keeps BB.stays, D.turn T₁⟩
  · have := (hl q hq).2.1
    rw [e, hLg] at this; cases this
  · exact T₁.none_ _ (kts_none FG.keep (hl q hq).2.1)
theorem raised_type {g h' : Heap} {e : Addr} {X : String} {news' : List (Addr × Obj)} {l : List Env} (R : RaisedSN base g l e (.type X) news' h') : ∃ o, h'.get? e = some o ∧ o.cls = .type X := by
  obtain ⟨B₁, a0, _, _, _, hfl⟩ := R
  obtain ⟨ob, h1, h2⟩ := hfl.there
  exact ⟨ob, h1, h2⟩

/-- all that is known of the ground of a frame: what stays, its names, its ledger -/
structure Gd (K : Frag) (p : Program) (loose : List Str) (mean : ExcName → Option Value) (mg mb : Str → Option Value) (A₀ : Around) (base : Heap) (outer : List Env) (L : Addr) (m : Str → Option Value) (h₀ h : Heap) (news : List (Addr × Obj)) : Prop where
  B : Below A₀ base outer h₀
  F : Fr h₀ L h m
  X : K.In h₀
  N : News h₀ L h news
  T : Top p loose mean mg mb h₀
  XB : K.In base
  TB : Top p loose mean mg mb base
  D : KtsDicts (frs outer) h₀
theorem Gd.with {K : Frag} {p : Program} {loose : List Str} {mean : ExcName → Option Value} {mg mb : Str → Option Value} {A₀ : Around} {base : Heap} {outer : List Env} {L : Addr} {m m' : Str → Option Value} {h₀ h h' : Heap} {news news' : List (Addr × Obj)}
    (G : Gd K p loose mean mg mb A₀ base outer L m h₀ h news) (F : Fr h₀ L h' m') (N : News h₀ L h' news') : Gd K p loose mean mg mb A₀ base outer L m' h₀ h' news' := ⟨G.B, F, G.X, N, G.T, G.XB, G.TB, G.D⟩

/-- a call of one of the text's plain defs, from any frame -/
theorem code_T (B : Below A₀ base outer h₀) (F : Fr h₀ L s.heap m) (X₀ : K.In h₀) (N : News h₀ L s.heap news) (T : Top p loose mean mg mb h₀) (XB : K.In base) (TB : Top p loose mean mg mb base) (D : KtsDicts (frs outer) h₀)
    (hA : A.frames = some (env :: outer)) (hf : env.frame = some L) (hke : env.scope.kind = .function)
    (ho : K.lookup f = some ⟨oc, od, .func (fnOf name qual params body scope dV kV doc pm an cdv ct), osl⟩) (hcd : codeIn K cdv qual = true) (hroom : A.depth < recursionLimit)
    (hbind : BindsTo s (fnOf name qual params body scope dV kV doc pm an cdv ct) args binds) (hloc : ∀ y ∈ binds, scope.names.lookup y.1 = some .local)
    (h : ∀ g L' h₁, Fr h₀ L g m → Fr g L' h₁ (fun y => binds.reverse.lookup y) → News g L' h₁ news → Below A base (env :: outer) g → K.In g → Top p loose mean mg mb g → KtsDicts (frs (env :: outer)) g → (∀ p ∈ news, p.1 < L') → s.heap.objs.size ≤ L' →
      wpAny (model prog w) (A.deeper (envOf qual scope L' f cdv)) (execs body (envOf qual scope L' f cdv))
        (fun fl s' => LeaveT A₀ base outer K p loose mean mg mb h₀ L m (frs (env :: outer)) g R (match fl with | .ret v => v | _ => .none) s')
        (fun e s' => wpAny (model prog w) (A.deeper (envOf qual scope L' f cdv)) (leaving (envOf qual scope L' f cdv) e) (fun _ s'' => R (.error e) s'') (fun e' s'' => R (.error e') s'') s')
        { s with heap := h₁, toks := s.toks + binds.length })
    (hco : scope.isCoroutine = false) (hgen : scope.isGenerator = false) (hk : scope.kind = .function)
    (hcell : ∀ x ∈ scope.names, x.2 ≠ .cell) : codeAny (model prog w) A (.call (.ref f) args) R s := by
  have X := X₀.keeps F.keep
  obtain ⟨FG, BG, st, _⟩ := groundX (R := R) B F N hA hf hke
  refine codeAny_call_def (fd := fnOf name qual params body scope dV kV doc pm an cdv ct) (body := body) (binds := binds) hroom (X _ _ ho) rfl (T.nolimit.keeps F.keep) (codeRec_of X hcd) rfl hbind hcell hloc (fun h₁ hns hk₁ => ?_) hco hgen hk
  have DG : KtsDicts (frs (env :: outer)) (hideAll s.heap (news.map (·.1))) := fun b hb => by
    have hfr : frs (env :: outer) = L :: frs outer := by simp [frs, hf]
    rw [hfr] at hb
    rcases List.mem_cons.mp hb with rfl | hb
    · obtain ⟨o, es, ep, ho', hd', _⟩ := FG.ns
      exact ⟨o, es, ep, ho', hd'⟩
    · obtain ⟨o, es, n, ho', hd'⟩ := D b hb
      exact ⟨o, es, n, st b o ho', hd'⟩
  refine wpAny_mono (h _ s.heap.objs.size h₁ FG ⟨hns, fun b o e => hk₁ b o (of_hideAll _ e), Nat.le_of_eq (hideAll_size _ _)⟩
    (fun q hq => ⟨hk₁ _ _ (N q hq).1, Nat.ne_of_lt (Heap.lt_size (N q hq).1), hideAll_none _ (List.mem_map_of_mem hq)⟩) BG (X₀.keeps st) (T.keeps st) DG (fun q hq => Heap.lt_size (N q hq).1) (Nat.le_refl _)) (fun fl s' hl => ?_) fun _ _ y => y
  obtain ⟨g', L', m', news', T', F', N', k⟩ := hl
  obtain ⟨h₀', a1, a2, a3, a4, a5, a6, a7⟩ := ground_back B XB TB D hf FG T' F' N'
  exact k h₀' a1 a2 a3 a4 a5 a6 a7
end
end

section
open PySem PySem.W PyProof.Rows PySem.Calls Builtin Builtin.ObjectAttr
theorem freshG1 : True := by
  w_top off
  trivial
theorem slot_list_ga : Slot "list" "__getattribute__" "list.__getattribute__" :=
  .of (owner := "list") (n := "__getattribute__") (by rw [typeLookup_type, builtinLookup_eq_fast]; kernel_rfl) (by decide +kernel) (by decide +kernel) (by decide +kernel)
    (by first | exact .inl (by decide +kernel) | exact .inr (by decide +kernel)) (by rw [isSubtype_type]; kernel_rfl)
theorem entry_list_ga : entryFor table "list.__getattribute__" = some Builtin.«object.__getattribute__» :=
  entryFor_alias (id' := "object.__getattribute__") (by rw [fastTable_eq_tree]; kernel_rfl) (by first | rfl | decide +kernel) (by decide +kernel) (by rw [fastTable_eq_tree]; kernel_rfl)
theorem slot_wd_get : Slot "wrapper_descriptor" "__get__" "wrapper_descriptor.__get__" :=
  .of (owner := "wrapper_descriptor") (n := "__get__") (by rw [typeLookup_type, builtinLookup_eq_fast]; kernel_rfl) (by decide +kernel) (by decide +kernel) (by decide +kernel)
    (by first | exact .inl (by decide +kernel) | exact .inr (by decide +kernel)) (by rw [isSubtype_type]; kernel_rfl)
theorem entry_wd_get : entryFor table "wrapper_descriptor.__get__" = some Builtin.«wrapper_descriptor.__get__» := entryFor_of_tree (by kernel_rfl)
theorem args_wd_get (a b c : Value) : argsOk "wrapper_descriptor.__get__" ⟨[a, b, c], []⟩ := by unfold argsOk; kernel_rfl
theorem args_list_ga (a b : Value) : argsOk "list.__getattribute__" ⟨[a, b], []⟩ := by unfold argsOk; kernel_rfl
theorem type_lc : typeOf (.builtin "list.__contains__") = pure (.type "wrapper_descriptor") := by show builtinType _ = _; rw [builtinType_eq_fast]; kernel_rfl
theorem slotArgs_ga (a b : Value) : slotArgs "__getattribute__" 1 ⟨[a, b], []⟩ = pure (a, [b]) := by first | rfl | kernel_rfl

section
variable {prog : Program} {w : World} {M : Model} {A : Around} {E : Value → Shared → Prop} {s : Shared}
noncomputable abbrev mwObj (id : String) (r : Addr) : Obj := { cls := .type "method-wrapper", data := .fields #[.builtin id, .ref r] }

theorem run_wd_get {P : Fin → Shared → Prop} {r : Addr} (ho : s.TypeIs (.ref r) "list") (h : P (.done (.ret (.ref s.heap.objs.size))) { s with heap := s.heap.push (mwObj "list.__contains__" r) }) :
    wpAny M A (Builtin.«wrapper_descriptor.__get__» ⟨[.builtin "list.__contains__", .ref r, .type "list"], []⟩) P E s := by
  unfold Builtin.«wrapper_descriptor.__get__»
  wp_walk
  rw [show (".".intercalate ("list.__contains__".cutAt '.').dropLast) = "list" by decide +kernel]
  refine wpAny_of_eq (a := true) (by rw [isSubtype_type]; kernel_rfl) ?_
  obtain ⟨hh, g, d, tk, os⟩ := s
  repeat lk
  exact h

theorem run_list_ga {P : Fin → Shared → Prop} {r : Addr} {vs : Array Value} {n : Nat} {t : Tok} (ho : s.heap.get? r = some (listOf vs n)) (h : P (.done (.ret (.ref s.heap.objs.size))) { s with heap := s.heap.push (mwObj "list.__contains__" r) }) :
    wpAny (model prog w) A (Builtin.«object.__getattribute__» ⟨[.ref r, .str "__contains__" t], []⟩) P E s := by
  obtain ⟨hh, g, d, tk, os⟩ := s
  have hT : (⟨hh, g, d, tk, os⟩ : Shared).TypeIs (.ref r) "list" := ⟨_, ho, rfl⟩
  have X : Frag.In [] hh := fun _ _ e => nomatch e
  have L0 : Looks (model prog w) hh (typeOf (.ref r)) (.type "list") := (Looks.ld ho).andThen .now
  have L1 := looks_findIn (M := model prog w) X (t := .type "list") (name := "__contains__") (r := some (.builtin "list.__contains__")) (by decide +kernel)
  have L2 := looks_specialIn (M := model prog w) X (v := .builtin "list.__contains__") (name := "__get__") (r := some (.builtin "wrapper_descriptor.__get__")) (by decide +kernel)
  have L3 := looks_takesIn (M := model prog w) X (a := .builtin "list.__contains__") (r := false) (by decide +kernel)
  unfold Builtin.«object.__getattribute__»
  refine wpAny_bind (wpAny_of_eq (slotArgs_ga _ _) ?_)
  dsimp only at ho
  repeat ((fail_if_success (with_reducible show wpAny _ _ (call _ _) _ _ _)); lk)
  exact wpAny_call_entry slot_wd_get type_lc entry_wd_get (run_wd_get hT ⟨_, rfl, wpAny_pure h⟩) (args_wd_get _ _ _)

theorem getAttr_contains {Q : Value → Shared → Prop} {r : Addr} {vs : Array Value} {n : Nat} {ex : Bool} (ho : s.heap.get? r = some (listOf vs n))
    (h : Q (.ref s.heap.objs.size) { s with heap := s.heap.push (mwObj "list.__contains__" r), toks := s.toks + 1 }) :
    wpAny (model prog w) A (getAttr (.ref r) "__contains__" ex) Q E s := by
  have hlk := slot_list_ga.lookup
  have hT : ∀ t', ({ s with toks := t' } : Shared).TypeIs (.ref r) "list" := fun _ => ⟨_, ho, rfl⟩
  unfold getAttr getAttrBy
  refine wpAny_bind (wpAny_mkText (wpAny_holding (wpAny_bind (wpAny_typeOf (hT _) (wpAny_bind (wpAny_of_eq hlk ?_))))))
  show wpAny _ _ (getAttrByItsOwn _ _ (.type "list") (.builtin "list.__getattribute__") true ex) _ _ _
  unfold getAttrByItsOwn hookBefore callGetattribute
  refine wpAny_bind (wpAny_of_eq (show (if onTheHeap (.type "list") then typeLookup (.type "list") "__getattr__" else pure none) = pure none from rfl) ?_)
  refine wpAny_bind (wpAny_attempt (wpAny_holding ?_))
  rw [show (ex && onTheHeap (.builtin "list.__getattribute__")) = false by cases ex <;> rfl]
  unfold boundAndCalled
  refine wpAny_bind (wpAny_of_eq (slot_list_ga.bind _) ?_)
  refine wpAny_mono (Q := fun v s' => v = .ref s.heap.objs.size ∧ s' = { s with heap := s.heap.push (mwObj "list.__contains__" r), toks := s.toks + 1 }) (E := fun _ _ => False)
    (wpAny_call_entry slot_list_ga (hT _) entry_list_ga (run_list_ga (s := { s with toks := s.toks + 1 }) ho ⟨_, rfl, rfl, rfl⟩) (args_list_ga _ _)) (fun v s' hv => ?_) fun _ _ z => z.elim
  obtain ⟨rfl, rfl⟩ := hv
  exact wpAny_pure h
end
end

section
open PySem PySem.W PyProof.Rows PySem.Calls Builtin Builtin.ObjectAttr
theorem freshG2 : True := by
  w_top off
  trivial
noncomputable abbrev itObj (la : Addr) (i : Nat) : Obj := { cls := .type "list_iterator", data := .fields #[.ref la, .int i 0] }
noncomputable abbrev itEnd (i : Nat) : Obj := { cls := .type "list_iterator", data := .fields #[.none, .int i 0] }
theorem check_lc (la : Addr) (x : Value) : checkBoundCall "list.__contains__" ⟨[.ref la, x], []⟩ = pure () := by kernel_rfl
theorem args_next1 (a : Value) : argsOk "next" ⟨[a], []⟩ := by unfold argsOk; kernel_rfl
section
variable {prog : Program} {w : World} {A : Around} {E : Value → Shared → Prop} {s : Shared}
/-- next(it) of a list's iterator that has an item -/
theorem next_item {I la : Addr} {i : Nat} {items : Array Value} {n : Nat} {v : Value} {Q : Value → Shared → Prop} (hI : s.heap.get? I = some (itObj la i)) (hl : s.heap.get? la = some (listOf items n)) (hx : items[i]? = some v)
    (h : ∀ h', h'.get? I = some (itObj la (i + 1)) → Heap.SameBut I s.heap h' → Q v { s with heap := h' }) :
    wpAny (model prog w) A (call (.builtin "next") [.ref I]) Q E s := by
  have hit : s.heap.IsListIter I la i := ⟨_, hI, rfl, rfl⟩
  refine call_function_entry (by decide +kernel) (by decide +kernel) kdk_entry_next (args_next1 _) ?_
  unfold Builtin.«next»
  refine wpAny_bind (m := someArgs "next" 1 2 _) (wpAny_of_eq (a := [Value.ref I]) (by first | rfl | kernel_rfl!) ?_)
  dsimp only
  refine wpAny_bind (wpAny_specialOf (name := Str.ofString "__next__") hit.typeIs slot_listiter_next.lookup ?_)
  refine wpAny_ite_split (fun hab => absurd hab (by decide)) (fun _ => ?_)
  refine wpAny_bind (wpAny_callSpecial?_slot (name := Str.ofString "__next__") hit.typeIs slot_listiter_next
    (wpAny_call_entry slot_listiter_next hit.typeIs entry_listiter_next ?_ (args_listiter_next _)))
  obtain ⟨hh, g, d, t, os⟩ := s
  dsimp only at hI hl
  repeat lk
  rw [show (Int.toNat (i : Int)) = i from rfl, hx]
  dsimp only
  refine wpAny_bind (wpAny_setField hI rfl (by simp) (wpAny_pure ⟨v, rfl, wpAny_pure ⟨v, rfl, h _ ?_ (Heap.SameBut.update ..)⟩⟩))
  rw [Heap.get?_update_self _ hI rfl]
  simp [Obj.mapFields, rawInt]

/-- next(it) of a list's iterator at its end: a StopIteration flies -/
theorem next_stop {I la : Addr} {i : Nat} {items : Array Value} {n : Nat} {Q : Value → Shared → Prop} (hh : A.handled = none) (hI : s.heap.get? I = some (itObj la i)) (hl : s.heap.get? la = some (listOf items n)) (hx : items[i]? = none)
    (h : ∀ h₁ h' e, h₁.get? I = some (itEnd i) → Heap.SameBut I s.heap h₁ → Heap.NewExc h₁ h' e "StopIteration" → E (.ref e) { s with heap := h' }) :
    wpAny (model prog w) A (call (.builtin "next") [.ref I]) Q E s := by
  have hit : s.heap.IsListIter I la i := ⟨_, hI, rfl, rfl⟩
  refine call_function_entry (by decide +kernel) (by decide +kernel) kdk_entry_next (args_next1 _) ?_
  unfold Builtin.«next»
  refine wpAny_bind (m := someArgs "next" 1 2 _) (wpAny_of_eq (a := [Value.ref I]) (by first | rfl | kernel_rfl!) ?_)
  dsimp only
  refine wpAny_bind (wpAny_specialOf (name := Str.ofString "__next__") hit.typeIs slot_listiter_next.lookup ?_)
  refine wpAny_ite_split (fun hab => absurd hab (by decide)) (fun _ => ?_)
  refine wpAny_bind (wpAny_callSpecial?_slot (name := Str.ofString "__next__") hit.typeIs slot_listiter_next
    (wpAny_call_entry slot_listiter_next hit.typeIs entry_listiter_next ?_ (args_listiter_next _)))
  have hl1 := Heap.lt_size hI
  obtain ⟨hp, g, d, t, os⟩ := s
  dsimp only at hI hl hl1
  repeat lk
  rw [show (Int.toNat (i : Int)) = i from rfl, hx]
  dsimp only
  refine wpAny_bind (wpAny_rule (wpAny_bind (wpAny_setField hI rfl (by simp) ?_)))
  have e1 : (hp.update I (Obj.mapFields (·.setIfInBounds 0 Value.none))).get? I = some (itEnd i) := by
    rw [Heap.get?_update_self _ hI rfl]
    simp [Obj.mapFields]
  have e2 : Heap.SameBut I hp (hp.update I (Obj.mapFields (·.setIfInBounds 0 Value.none))) := Heap.SameBut.update ..
  generalize hp.update I (Obj.mapFields (·.setIfInBounds 0 Value.none)) = h₁ at e1 e2 ⊢
  show wpAny _ _ (newExc (.type "StopIteration") [] >>= _) _ _ _
  refine wpAny_bind ?_
  simp only [newExc, newTuple]
  refine wpAny_bind (wpAny_newObj_type ?_ (by size_fits))
  refine wpAny_bind (m := firstArgMember _ _) (wpAny_of_eq (a := Value.none) (by first | rfl | (simp only [firstArgMember]; rfl)) ?_)
  refine wpAny_newObj_type ?_ (by size_fits)
  simp only [raiseNew]
  refine wpAny_bind (wpAny_handled ?_)
  rw [show A.in1.in1.handled = none from hh]
  refine wpAny_bind (wpAny_pure (wpAny_throw ?_))
  refine h h₁ _ _ e1 e2 ⟨fun b o hb => Heap.get?_push_of_some _ (Heap.get?_push_of_some _ hb), Heap.get?_none_of_le (by rw [Heap.size_push]; lia), _, .ref h₁.objs.size, Heap.get?_push_size _ rfl, rfl, ?_⟩
  first | rfl | kernel_rfl

/-- a call of a list's bound __contains__ with an int -/
theorem call_contains {W la : Addr} {items : Array Value} {n : Nat} {x : Value} {Q : Value → Shared → Prop} (e : Value → Bool) (hW : s.heap.get? W = some (mwObj "list.__contains__" la)) (hl : s.heap.get? la = some (listOf items n))
    (he : ∀ y, y ∈ items → MeetsSeq.EqGives y x (e y)) (h : Q (.bool (items.any e)) s) : wpAny (model prog w) A (call (.ref W) [x]) Q E s := by
  have hl' : s.heap.IsList la items := ⟨_, hl, rfl, n, rfl⟩
  refine wpAny_call (codeAny_of_tree ?_)
  show wpAny _ _ (callAny (.ref W) ⟨[x], []⟩) _ _ _
  have hWT : s.TypeIs (.ref la) "list" := ⟨_, hl, rfl⟩
  obtain ⟨hh, g, d, t, os⟩ := s
  dsimp only at hW hl
  have hm := SeqInW.list_containsW la items n none #[] x e he
  unfold callAny
  refine wpAny_bind (wpAny_load hW ?_)
  dsimp only
  rw [if_pos (by decide)]
  simp only [List.getElem?_toArray, List.getElem?_cons_zero, List.getElem?_cons_succ]
  rw [if_pos (by decide)]
  refine wpAny_bind (wpAny_of_eq (check_lc la x) (wpAny_pure ?_))
  have pl : plainId "list.__contains__" = true := by decide +kernel
  exact ⟨plainId_quiet pl _, codeAny_builtin F.entry_list_contains (by
    rw [Around.under_plainId pl _]
    exact hm prog w _ _ _ ⟨hl, h⟩)⟩
end
end

section
open PySem PySem.W PyProof.Rows PySem.Calls
theorem freshG3 : True := by
  w_top off
  trivial
/-- a place where the walk stops -/
noncomputable def Stop (P : Prop) : Prop := P
theorem stop_in {P : Prop} (h : Stop P) : P := h
/-- how a turn of a while ends -/
noncomputable def WhEnd (I : Nat → Shared → Prop) (n : Nat) (Q : Flow → Shared → Prop) (f : Flow) (s : Shared) : Prop := match f with
  | .next => ∃ k, k < n ∧ I k s
  | .cont => ∃ k, k < n ∧ I k s
  | .brk => Q .next s
  | .ret v => Q (.ret v) s
section
variable {prog : Program} {w : World} {A : Around} {E : Value → Shared → Prop} {s : Shared} {env : Env} {test : PySem.Expr} {body orelse : List Stmt} {Q : Flow → Shared → Prop} {pos : Pos}
theorem while_T (I : Nat → Shared → Prop) (n : Nat) (h : I n s)
    (turn : ∀ n s, I n s → wpAny (model prog w) A (isTrue test env (eval test env)) (fun b s₂ => WhlIf b (wpAny (model prog w) A (execs body env) (WhEnd I n Q) E s₂) (wpAny (model prog w) A (execs orelse env) Q E s₂)) E s)
    (hE : PassesOwn (model prog w) A env E := by passes_own) : wpAny (model prog w) A (exec (.While test body orelse pos) env) Q E s := by
  refine wpAny_While (codeAny_whileLoop I (fun n s hI => ?_) n h)
  refine wpAny_mono (turn n s hI) (fun b s₂ h₂ => ?_) hE
  cases b with
  | false =>
    simp only [WhlIf, Bool.false_eq_true, if_false] at h₂
    simp only [Bool.false_eq_true, if_false]
    exact wpAny_mono h₂ (fun _ _ z => z) hE
  | true =>
    simp only [WhlIf, if_true] at h₂
    simp only [if_true]
    refine wpAny_mono h₂ (fun f s₃ z => ?_) hE
    cases f <;> exact z
end

/-- a frame's names, some of them laid over -/
noncomputable def ovr (l : List (Str × Option Value)) (m : Str → Option Value) (y : Str) : Option Value := match l with
  | [] => m y
  | p :: r => if y = p.1 then p.2 else ovr r m y
theorem ovr_self : ∀ (l : List (Str × Option Value)) (m : Str → Option Value) (y : Str), (∀ p ∈ l, p.2 = m p.1) → ovr l m y = m y
  | [], _, _, _ => rfl
  | p :: r, m, y, h => by
    unfold ovr
    by_cases q : y = p.1
    · rw [if_pos q, h p (.head _), q]
    · rw [if_neg q]; exact ovr_self r m y fun p hp => h p (.tail _ hp)
/-- how a turn of a while ends, the frame and the ledger told -/
noncomputable def WhEndS {σ : Type} (g : Heap) (L : Addr) (m : Str → Option Value) (vals : σ → List (Str × Option Value)) (led : σ → List (Addr × Obj)) (P : Nat → σ → Prop) (s : Shared) (n : Nat) (Q : Flow → Shared → Prop) (f : Flow) (s' : Shared) : Prop := match f with
  | .brk => Q .next s'
  | .ret v => Q (.ret v) s'
  | _ => ∃ k st h tk, k < n ∧ s' = { s with heap := h, toks := tk } ∧ Fr g L h (ovr (vals st) m) ∧ News g L h (led st) ∧ P k st
section
variable {prog : Program} {w : World} {A : Around} {E : Value → Shared → Prop} {s : Shared} {env : Env} {test : PySem.Expr} {body orelse : List Stmt} {Q : Flow → Shared → Prop} {pos : Pos} {g : Heap} {L : Addr} {m : Str → Option Value}
theorem WhEndS.intro {σ : Type} {vals : σ → List (Str × Option Value)} {led : σ → List (Addr × Obj)} {P : Nat → σ → Prop} {n : Nat} {h : Heap} {tk : Nat} {m' : Str → Option Value} (k : Nat) (st : σ) (hk : k < n) (F : Fr g L h m') (e : ∀ y, m' y = ovr (vals st) m y) (N : News g L h (led st)) (hp : P k st) (f : Flow) (hf : f = .next ∨ f = .cont) :
    WhEndS g L m vals led P s n Q f { s with heap := h, toks := tk } := by
  have z : ∃ k st h' tk', k < n ∧ ({ s with heap := h, toks := tk } : Shared) = { s with heap := h', toks := tk' } ∧ Fr g L h' (ovr (vals st) m) ∧ News g L h' (led st) ∧ P k st := ⟨k, st, h, tk, hk, rfl, (funext e : m' = _) ▸ F, N, hp⟩
  rcases hf with rfl | rfl <;> exact z
/-- a while by a word over what a turn changes: the names (vals), the ledger (led), the rest (P), a measure (n) -/
theorem while_S {σ : Type} (vals : σ → List (Str × Option Value)) (led : σ → List (Addr × Obj)) (P : Nat → σ → Prop) (n₀ : Nat) (st₀ : σ) {led₀ : List (Addr × Obj)} (F : Fr g L s.heap m) (N : News g L s.heap led₀) (hs : ∀ p ∈ vals st₀, p.2 = m p.1) (hl : ∀ q ∈ led st₀, q ∈ led₀) (hp : P n₀ st₀)
    (turn : ∀ n st h tk, P n st → Fr g L h (ovr (vals st) m) → News g L h (led st) →
      wpAny (model prog w) A (isTrue test env (eval test env)) (fun b s₂ => WhlIf b (wpAny (model prog w) A (execs body env) (WhEndS g L m vals led P s n Q) E s₂) (wpAny (model prog w) A (execs orelse env) Q E s₂)) E { s with heap := h, toks := tk })
    (hE : PassesOwn (model prog w) A env E := by passes_own) : wpAny (model prog w) A (exec (.While test body orelse pos) env) Q E s := by
  refine while_T (fun n s' => ∃ st h tk, s' = { s with heap := h, toks := tk } ∧ Fr g L h (ovr (vals st) m) ∧ News g L h (led st) ∧ P n st) n₀
    ⟨st₀, s.heap, s.toks, rfl, (funext fun y => (ovr_self (vals st₀) m y hs).symm : m = ovr (vals st₀) m) ▸ F, fun q hq => N q (hl q hq), hp⟩ (fun n s' hI => ?_) hE
  obtain ⟨st, h, tk, rfl, F', N', hp'⟩ := hI
  refine wpAny_mono (turn n st h tk hp' F' N') (fun b s₂ h₂ => ?_) fun _ _ z => z
  cases b with
  | false => exact h₂
  | true =>
    refine wpAny_mono (h₂ : wpAny (model prog w) A (execs body env) (WhEndS g L m vals led P s n Q) E s₂) (fun f s₃ z => ?_) fun _ _ z => z
    cases f with
    | brk => exact z
    | ret v => exact z
    | next => obtain ⟨k, st, h, tk, hk, e, a, b, c⟩ := z; exact ⟨k, hk, st, h, tk, e, a, b, c⟩
    | cont => obtain ⟨k, st, h, tk, hk, e, a, b, c⟩ := z; exact ⟨k, hk, st, h, tk, e, a, b, c⟩
end
section
variable {prog : Program} {w : World} {A : Around} {E : Value → Shared → Prop} {s : Shared} {h₀ : Heap} {L I la : Addr} {m : Str → Option Value} {rest : List (Addr × Obj)} {i n : Nat} {items : Array Value} {v : Value} {Q : Value → Shared → Prop}
theorem upd_head {h' : Heap} {o o' : Obj} (F : Fr h₀ L s.heap m) (N : News h₀ L s.heap ((I, o) :: rest)) (hI : ∀ q ∈ rest, q.1 ≠ I) (e : h'.get? I = some o') (sb : Heap.SameBut I s.heap h') : Fr h₀ L h' m ∧ News h₀ L h' ((I, o') :: rest) := by
  have hm := N _ (.head _)
  refine ⟨F.change sb hm.2.1 hm.2.2, fun q hq => ?_⟩
  rcases List.mem_cons.mp hq with rfl | hq
  · exact ⟨e, hm.2⟩
  · exact ⟨(sb.2 _ (hI q hq)).trans (N q (.tail _ hq)).1, (N q (.tail _ hq)).2⟩
theorem fr_self (x : Str) {h : Heap} (F : Fr h₀ L h m) : Fr h₀ L h (fun y => if y = x then m x else m y) := by
  have e : (fun y => if y = x then m x else m y) = m := by
    funext y
    by_cases q : y = x
    · rw [if_pos q, q]
    · rw [if_neg q]
  rw [e]; exact F
theorem fr_again {x : Str} {h : Heap} {u v : Option Value} (F : Fr h₀ L h (fun y => if y = x then v else if y = x then u else m y)) : Fr h₀ L h (fun y => if y = x then v else m y) := by
  have e : (fun y => if y = x then v else if y = x then u else m y) = fun y => if y = x then v else m y := by
    funext y
    by_cases q : y = x
    · rw [if_pos q, if_pos q]
    · rw [if_neg q, if_neg q, if_neg q]
  rw [← e]; exact F
theorem fr_congr {h : Heap} {m' : Str → Option Value} (F : Fr h₀ L h m) (e : ∀ y, m y = m' y) : Fr h₀ L h m' := (funext e : m = m') ▸ F
/-- a bound method of a built-in type stands at W -/
noncomputable def MwAt (W : Addr) (id : String) (la : Addr) (h : Heap) : Prop := h.get? W = some (mwObj id la)
theorem keeps_mw {M : Model} {W la : Addr} {id : String} (h : Heap) (x : MwAt W id la h) : ∃ k, (k = Keeper.frame ∨ k = Keeper.machine ∨ k = Keeper.boundFrame) ∧ Looks M h (keeperOf (.ref W)) k :=
  ⟨.machine, .inr (.inl rfl), (Looks.ld (part := none) x).andThen .now⟩
theorem callWith_mw {M : Model} {W la : Addr} {id : String} {env : Env} {pos : Pos} {e : PySem.Expr} {es : List PySem.Expr} {first : List Value} (_N : News h₀ L s.heap rest) (_hW : (W, mwObj id la) ∈ rest)
    (h : wpAny M A (spliced (backTo pos (starEach (e :: es) env))) (fun vs s₁ => MwAt W id la s₁.heap ∧ wpAny M A (call (.ref W) (first ++ vs)) Q E s₁) E s)
    (he : starEach (e :: es) env = (false, eval e env) :: starEach es env := by rfl) (hplain : (backTo pos (starEach es env)).any (·.1) = false := by rfl) :
    wpAny M A (callWith pos (.ref W) first (backTo pos (starEach (e :: es) env)) []) Q E s := by
  rw [he] at h ⊢
  exact callWith_of (by show ((false || (backTo pos (starEach es env)).any (·.1)) || false) = false; rw [hplain]; rfl) keeps_mw (evalArgs_plain h)
theorem callWith_mw0 {M : Model} {W la : Addr} {id : String} {env : Env} {pos : Pos} {first : List Value} (x : MwAt W id la s.heap)
    (h : wpAny M A (call (.ref W) (first ++ [])) Q E s) : wpAny M A (callWith pos (.ref W) first (backTo pos (starEach [] env)) []) Q E s :=
  callWith_of rfl keeps_mw (evalArgs_nil3 ⟨x, h⟩)
theorem mwAt_of {W : Addr} {id : String} {h : Heap} (N : News h₀ L h rest) (hW : (W, mwObj id la) ∈ rest) : MwAt W id la h := (N _ hW).1
theorem next_itemK (F : Fr h₀ L s.heap m) (N : News h₀ L s.heap ((I, itObj la i) :: rest)) (hI : ∀ q ∈ rest, q.1 ≠ I) (ha : (la, listOf items n) ∈ rest) (hx : items[i]? = some v)
    (h : ∀ h', Fr h₀ L h' m → News h₀ L h' ((I, itObj la (i + 1)) :: rest) → Q v { s with heap := h' }) : wpAny (model prog w) A (call (.builtin "next") [.ref I]) Q E s :=
  next_item (N _ (.head _)).1 (N _ (.tail _ ha)).1 hx fun h' e sb => let ⟨a, b⟩ := upd_head F N hI e sb; h h' a b
theorem next_stopK (hh : A.handled = none) (F : Fr h₀ L s.heap m) (N : News h₀ L s.heap ((I, itObj la i) :: rest)) (hI : ∀ q ∈ rest, q.1 ≠ I) (ha : (la, listOf items n) ∈ rest) (hx : items[i]? = none)
    (h : ∀ h₁ h' e, Fr h₀ L h₁ m → News h₀ L h₁ ((I, itEnd i) :: rest) → Heap.NewExc h₁ h' e "StopIteration" → E (.ref e) { s with heap := h' }) : wpAny (model prog w) A (call (.builtin "next") [.ref I]) Q E s :=
  next_stop hh (N _ (.head _)).1 (N _ (.tail _ ha)).1 hx fun h₁ h' e e1 sb hn => let ⟨a, b⟩ := upd_head F N hI e1 sb; h h₁ h' e a b hn
theorem call_containsK {W : Addr} {vs : List Value} {xs : List Int} {k : Int} {t : Tok} (N : News h₀ L s.heap rest) (hW : (W, mwObj "list.__contains__" la) ∈ rest) (ha : (la, listOf vs.toArray n) ∈ rest) (hx : IntsAre vs xs)
    (h : Q (.bool (xs.contains k)) s) : wpAny (model prog w) A (call (.ref W) [.int k t]) Q E s := by
  have e : ∀ y, y ∈ vs.toArray → MeetsSeq.EqGives y (.int k t) (match y with | .int a _ => a == k | _ => false) := by
    intro y hy
    obtain ⟨a, u, rfl⟩ : ∃ a u, y = .int a u := by
      obtain ⟨j, hj⟩ := List.mem_iff_getElem?.mp (by simpa using hy : y ∈ vs)
      have hlt : j < xs.length := by
        have := (List.getElem?_eq_some_iff.mp hj).1
        rw [hx.length] at this; exact this
      obtain ⟨t, ht⟩ := hx.get j xs[j] (by simp [hlt])
      rw [ht] at hj
      exact ⟨_, _, (Option.some.inj hj).symm⟩
    exact MeetsSeq.EqGives.int _ _ _ _
  refine call_contains _ (N _ hW).1 (N _ ha).1 e ?_
  have : (vs.toArray.any fun y => match y with | .int a _ => a == k | _ => false) = xs.contains k := by
    rw [List.any_toArray]
    clear e N hW ha h
    induction hx with
    | nil => rfl
    | cons t h _ ih =>
      rw [List.any_cons, List.contains_cons, ih]
      rw [show (k == t) = (t == k) from by rw [Bool.eq_iff_iff, beq_iff_eq, beq_iff_eq]; exact eq_comm]
  rw [this]; exact h
end
end

section
open PySem PySem.W PyProof.Rows PySem.Calls
theorem freshG4 : True := by
  w_top off
  trivial
section
variable {prog : Program} {w : World} {A : Around} {E : Value → Shared → Prop} {s : Shared} {h₀ : Heap} {L I la : Addr} {m : Str → Option Value} {rest : List (Addr × Obj)} {i n : Nat} {items : Array Value} {v : Value} {Q : Value → Shared → Prop}
theorem add_listK {lb : Addr} {va vb : List Value} {na nb : Nat} {xs ys : List Int} (F : Fr h₀ L s.heap m) (N : News h₀ L s.heap rest) (ha : (la, listOf va.toArray na) ∈ rest) (hb : (lb, listOf vb.toArray nb) ∈ rest) (hxs : IntsAre va xs) (hys : IntsAre vb ys) (hsz : xs.length + ys.length ≤ 16000000)
    (h : ∀ S h', s.heap.objs.size ≤ S → Fr h₀ L h' m → News h₀ L h' ((S, listOf (va ++ vb).toArray 0) :: rest) → (∀ q ∈ rest, q.1 < S) → IntsAre (va ++ vb) (xs ++ ys) → Q (.ref S) { s with heap := h' }) :
    wpAny (model prog w) A (binaryOp .Add (.ref la) (.ref lb)) Q E s :=
  add_lists (vs := va) (ws := vb) (hsz := by rw [hxs.length, hys.length, sizeLine_eq]; lia) F N ⟨_, (N _ ha).1, rfl, _, rfl⟩ ⟨_, (N _ hb).1, rfl, _, rfl⟩ fun h' F' N' => h _ h' (Nat.le_refl _) F' N' (fun q hq => Heap.lt_size (N q hq).1) (hxs.append hys)
theorem args_iter1 (a : Value) : argsOk "iter" ⟨[a], []⟩ := by unfold argsOk; kernel_rfl
theorem iter_listK (F : Fr h₀ L s.heap m) (N : News h₀ L s.heap rest) (ha : (la, listOf items n) ∈ rest)
    (h : ∀ I h', Fr h₀ L h' m → News h₀ L h' ((I, itObj la 0) :: rest) → (∀ q ∈ rest, q.1 < I) → Q (.ref I) { s with heap := h' }) :
    wpAny (model prog w) A (call (.builtin "iter") [.ref la]) Q E s := by
  refine call_function_entry (by decide +kernel) (by decide +kernel) kdk_entry_iter (args_iter1 _) ?_
  unfold Builtin.«iter»
  refine wpAny_bind (m := someArgs "iter" 1 2 _) (wpAny_of_eq (a := [Value.ref la]) (by first | rfl | kernel_rfl!) ?_)
  show wpAny _ _ (pyIter (.ref la) >>= _) _ _ _
  refine wpAny_bind (wpAny_pyIter_list ⟨_, (N _ ha).1, rfl, _, rfl⟩ ?_)
  exact wpAny_pure ⟨_, rfl, h _ _ (F.push _) (News.push F N (itObj la 0)) fun q hq => Heap.lt_size (N q hq).1⟩
theorem getAttr_containsK {ex : Bool} (F : Fr h₀ L s.heap m) (N : News h₀ L s.heap rest) (ha : (la, listOf items n) ∈ rest)
    (h : ∀ W h', Fr h₀ L h' m → News h₀ L h' ((W, mwObj "list.__contains__" la) :: rest) → (∀ q ∈ rest, q.1 < W) → Q (.ref W) { s with heap := h', toks := s.toks + 1 }) :
    wpAny (model prog w) A (getAttr (.ref la) "__contains__" ex) Q E s :=
  getAttr_contains (N _ ha).1 (h _ _ (F.push _) (News.push F N _) fun q hq => Heap.lt_size (N q hq).1)
end
end

section
open PySem PySem.W PyProof.Rows PySem.Calls
theorem freshM1 : True := by
  w_top off
  trivial
section
variable {prog : Program} {w : World} {A₀ : Around} {E : Value → Shared → Prop} {s' : Shared} {base h₀ h : Heap} {outer : List Env} {L a e : Addr} {m : Str → Option Value} {news : List (Addr × Obj)} {K : Frag} {p : Program} {loose : List Str} {mean : ExcName → Option Value} {mg mb : Str → Option Value}
  {name : Str} {scope : Scope} {cd : Value} {x : Str} {X : String} {b₀ : Stmt} {suite : List Stmt} {pos np : Pos} {rest : List ExceptHandler} {Q : Flow → Shared → Prop}
/-- an exception of the frame's own is noted: the ground of the frame turns -/
theorem noted_D {Q : Unit → Shared → Prop} (B : Below A₀ base outer h₀) (hx : Heap.NewExc h s'.heap e X) (F : Fr h₀ L h m) (N : News h₀ L h news) (X₀ : K.In h₀) (T : Top p loose mean mg mb h₀) (XB : K.In base) (TB : Top p loose mean mg mb base) (D : KtsDicts (frs outer) h₀)
    (k : ∀ h₀' h', KtsTurn (frs outer) h₀ h₀' → TT.HeldN h₀' L h' m e X news → Below A₀ base outer h₀' → K.In h₀' → Top p loose mean mg mb h₀' → KtsDicts (frs outer) h₀' → Q () { s' with heap := h' }) (hk : scope.kind = .function := by rfl) :
    wpAny (model prog w) (A₀.deeper (envOf name scope L a cd)) (noteFrame (.ref e) (envOf name scope L a cd)) Q E s' := by
  have K' := B.push (name := name) (a := a) (cd := cd) F hk
  have hfr : (envOf name scope L a cd :: outer).filterMap (·.frame) = L :: frs outer := rfl
  have hin : ∀ env ∈ (envOf name scope L a cd :: outer), ∀ b, env.frame = some b → b ∈ (envOf name scope L a cd :: outer).filterMap (·.frame) := fun env he b hb => List.mem_filterMap.mpr ⟨env, he, hb⟩
  obtain ⟨ob, tp, he, hcls, hd⟩ := hx.there
  have hen : (hideAll h (L :: frs outer)).get? e = none := by
    cases q : (hideAll h (L :: frs outer)).get? e with
    | none => rfl
    | some o => have := of_hideAll _ q; rw [hx.new] at this; cases this
  unfold noteFrame
  simp only [show (envOf name scope L a cd).frame = some L from rfl]
  refine wpAny_bind (wpAny_field he hd (x := .none) rfl ?_)
  rw [if_neg (by decide)]
  refine wpAny_entryW (base := hideAll h (L :: frs outer)) (a0 := tp) K'.stack (by rw [← hfr]; exact (funFrames_hide K'.frames hin).of_keeps fun b o hb _ => ⟨o, hx.keeps b o hb, rfl⟩) rfl he (fun b o hb => hx.keeps b o (of_hideAll _ hb)) hen hd (by show 1 < 6; decide) rfl fun h' hN => ?_
  obtain ⟨k1, _, k3, k4⟩ := hN
  have hL0 : h₀.get? L = none := kts_self F
  have notL : ∀ b ∈ frs outer, b ≠ L := fun b hb q => by
    obtain ⟨_, o, ho, _⟩ := B.frames.mem hb
    rw [q, hL0] at ho; cases ho
  have keep : ∀ b o, b ∉ L :: frs outer → h.get? b = some o → h'.get? b = some o := fun b o nb eo => k1 b o (hideAll_get _ eo nb)
  have up : ∀ b o, h.get? b = some o → (∀ vs, o.data ≠ .fields vs) → ∃ sl, h'.get? b = some { o with slots := sl } := fun b o eo nf => k4 b o (hx.keeps b o eo) nf
  obtain ⟨T₁, S₁⟩ := kts_turn_at (h := h') (fs := frs outer) (g := h₀)
    (fun b hb => let ⟨_, o, ho, _⟩ := B.frames.mem hb; ⟨o, ho⟩)
    (fun b o eo nm => keep b o (fun hm => by
      rcases List.mem_cons.mp hm with q | hm
      · rw [q, hL0] at eo; cases eo
      · exact nm hm) (F.keep b o eo))
    (fun b o eo hm => by
      obtain ⟨_, o', ho', hd'⟩ := B.frames.mem hm
      rw [eo] at ho'; cases ho'
      exact up b o (F.keep b o eo) hd')
  have hNs : h'.Ns L m := by
    obtain ⟨oL, es, ep, hLg, hLd, hLk, hLf⟩ := F.ns
    obtain ⟨sl, hs⟩ := up L oL hLg (fun vs q => by rw [hLd] at q; cases q)
    exact ⟨_, es, ep, hs, hLd, hLk, hLf⟩
  have BB : Below A₀ base outer (ktsHeap h' (frs outer) h₀) := ⟨B.stack, fun b o e => T₁.other b o (B.stays b o e) (fun hm => by
    rw [(B.frames.mem hm).1] at e; cases e), B.frames.of_keeps fun b o e _ => by
      obtain ⟨sl', hs'⟩ := T₁.up e
      exact ⟨_, hs', rfl⟩⟩
  have F' : Fr (ktsHeap h' (frs outer) h₀) L h' m := ⟨hNs, S₁, by rw [T₁.size]; exact F.above⟩
  have apartF : ∀ q ∈ news, q.1 ∉ L :: frs outer := fun q hq hm => by
    rcases List.mem_cons.mp hm with z | hm
    · exact (N q hq).2.1 z
    · obtain ⟨_, o, ho, _⟩ := B.frames.mem hm
      rw [(N q hq).2.2] at ho; cases ho
  have N' : News (ktsHeap h' (frs outer) h₀) L h' news := fun q hq => ⟨keep _ _ (apartF q hq) (N q hq).1, (N q hq).2.1, T₁.none_ _ (N q hq).2.2⟩
  obtain ⟨oe, vs, tb, oT, ts, heo, ⟨hcl, _⟩, hdo, h1, hnT, hTe, hT, hdT, h3⟩ := k3
  have hTL : tb ≠ L := fun q => by
    obtain ⟨oL, es, ep, hL, hLd, _⟩ := hNs
    rw [q, hL] at hT
    cases hT
    rw [hLd] at hdT
    cases hdT
  have hTf : tb ∉ L :: frs outer := fun hm => by
    rcases List.mem_cons.mp hm with q | hm
    · exact hTL q
    · obtain ⟨_, o, ho, hdd⟩ := B.frames.mem hm
      obtain ⟨sl, hs⟩ := up _ _ (F.keep _ _ ho) hdd
      rw [hT] at hs
      have hs := Option.some.inj hs
      rw [hs] at hdT
      exact hdd _ hdT
  have hTh : h.get? tb = none := by
    cases hq : h.get? tb with
    | none => rfl
    | some o => rw [hideAll_get _ hq hTf] at hnT; cases hnT
  refine k _ h' T₁ ⟨⟨F', ⟨oe, vs, tb, oT, ts, heo, hcl.trans hcls, hdo, h1, hT, hdT, h3, hTL, hTe, T₁.none_ _ (kts_none F.keep hTh)⟩, T₁.none_ _ (kts_none F.keep hx.new)⟩, N', ?_⟩ BB (XB.keeps BB.stays) (TB.keeps BB.stays) (D.turn T₁)
  · intro ob ws tb' e1 e2 e3 q hq z
    rw [heo] at e1
    obtain rfl := Option.some.inj e1
    rw [hdo] at e2
    injection e2 with e2
    subst e2
    rw [h1] at e3
    injection e3 with e3
    injection e3 with e3
    subst e3
    have := (N q hq).1
    rw [z, hTh] at this
    cases this
/-- an exception of the frame's own, caught by its class -/
theorem caught_D (B : Below A₀ base outer h₀) (hx : Heap.NewExc h s'.heap e X) (F : Fr h₀ L h m) (N : News h₀ L h news) (X₀ : K.In h₀) (T : Top p loose mean mg mb h₀) (XB : K.In base) (TB : Top p loose mean mg mb base) (D : KtsDicts (frs outer) h₀)
    (k : ∀ h₀' h', KtsTurn (frs outer) h₀ h₀' → Gd K p loose mean mg mb A₀ base outer L m h₀' h' news → wpAny (model prog w) ((A₀.deeper (envOf name scope L a cd)).mark (some (.ref e))) (execs (b₀ :: suite) (envOf name scope L a cd)) Q E { s' with heap := h' })
    (hc : nsIn K mainGlobals x = some none)
    (h3 : subB X (.type x.toString) = some true := by decide +kernel) (hv : bootBuiltins x = some (.type x.toString) := by decide +kernel) (h1 : subB x.toString (.type "BaseException") = some true := by decide +kernel)
    (h2 : subB ((Manifest.find? x.toString).elim "type" fun y => y.metatype) (.type "tuple") = some false := by decide +kernel) (hn : x ≠ "__name__" := by decide)
    (hk : scope.kind = .function := by rfl) (hxk : (envOf name scope L a cd).kindOf x = some .globalImplicit := by rfl) (hdb : (x == ("__debug__" : Str)) = false := by decide)
    (hE : PassesOwnAt (model prog w) ((A₀.deeper (envOf name scope L a cd)).mark (some (.ref e))) (A₀.deeper (envOf name scope L a cd)) (envOf name scope L a cd) E := by passes_own) :
    wpAny (model prog w) (A₀.deeper (envOf name scope L a cd)) (noteFrame (.ref e) (envOf name scope L a cd))
      (fun _ s₂ => wpAny (model prog w) (A₀.deeper (envOf name scope L a cd)) (setFlight (.ref e) none)
        (fun _ s₃ => wpAny (model prog w) (A₀.deeper (envOf name scope L a cd)) (handleBy (.ref e) (envOf name scope L a cd) (.ExceptHandler (some (.Name x np)) none (b₀ :: suite) pos :: rest)) Q E s₃) E s₂) E s' := by
  refine noted_D B hx F N X₀ T XB TB D (fun h₀' h' Tn H B' X' T' D' => ?_) hk
  refine TT.HeldNA.land H fun h'' H' => ?_
  refine wpAny_handleBy_builtin (X := X) (T := x.toString) (b := true) (isSubtype_of_subB h1) (isSubtype_of_subB h2) (isSubtype_of_subB h3) (wpAny_passesOwnAt hE (kts_name (.inr ⟨hc, hv, hn⟩) H'.held.fr X' (topRead_of T') ⟨rfl, H'.isA, ?_⟩ hk hxk hdb))
  rw [if_pos rfl]
  exact H'.lands fun h3 F' N' => wpAny_passesOwnAt hE (k h₀' h3 Tn ⟨B', F', X', N', T', XB, TB, D'⟩)
end
end

section
open PySem PySem.W PyProof.Rows PySem.Calls
theorem freshG5 : True := by
  w_top off
  trivial
/-- an iterator whose object after i items is ob i -/
structure It (prog : Program) (w : World) (n : Nat) (ob : Nat → Obj) (need : List (Addr × Obj)) (V : Nat → Value → Prop) : Prop where
  item : ∀ (A : Around) (E : Value → Shared → Prop) (Q : Option Value → Shared → Prop) (s : Shared) (I : Addr) (i : Nat), i < n → s.heap.get? I = some (ob i) → (∀ q ∈ need, s.heap.get? q.1 = some q.2) →
    (∀ v h' tk, V i v → h'.get? I = some (ob (i + 1)) → Heap.SameBut I s.heap h' → Q (some v) { s with heap := h', toks := tk }) → wpAny (model prog w) A (pyNext (.ref I)) Q E s
  done : ∀ (A : Around) (E : Value → Shared → Prop) (Q : Option Value → Shared → Prop) (s : Shared) (I : Addr), A.handled = none → s.heap.get? I = some (ob n) → (∀ q ∈ need, s.heap.get? q.1 = some q.2) →
    (∀ h', Heap.ExtBut I s.heap h' → Q none { s with heap := h' }) → wpAny (model prog w) A (pyNext (.ref I)) Q E s
section
variable {prog : Program} {w : World}
theorem it_list (la : Addr) (vs : List Value) (k : Nat) : It prog w vs.length (itObj la) [(la, listOf vs.toArray k)] (fun i v => vs[i]? = some v) where
  item := fun A E Q s I i hi hI hn h => by
    have hl := hn _ (.head _)
    have hit : s.heap.IsListIter I la i := ⟨_, hI, rfl, rfl⟩
    have hx : vs.toArray[i]? = some vs[i] := by simp [hi]
    unfold pyNext
    refine wpAny_bind (wpAny_attempt (wpAny_callSpecial?_slot (name := Str.ofString "__next__") hit.typeIs slot_listiter_next
      (wpAny_call_entry slot_listiter_next hit.typeIs entry_listiter_next ?_ (args_listiter_next _))))
    obtain ⟨hp, g, d, t, os⟩ := s
    dsimp only at hI hl
    repeat lk
    rw [show (Int.toNat (i : Int)) = i from rfl, hx]
    dsimp only
    refine wpAny_bind (wpAny_setField hI rfl (by simp) (wpAny_pure ⟨vs[i], rfl, wpAny_pure (h _ _ _ (by simp [hi]) ?_ (Heap.SameBut.update ..))⟩))
    rw [Heap.get?_update_self _ hI rfl]
    simp [Obj.mapFields, rawInt]
  done := fun A E Q s I hh hI hn h => by
    have hl := hn _ (.head _)
    exact wpAny_pyNext_list_end (it := I) (l := la) (i := vs.length) (items := vs.toArray) hh ⟨_, hI, rfl, rfl⟩ ⟨_, hl, rfl, k, rfl⟩ (by simp) h
noncomputable abbrev rgObj (a : Int) (n i : Nat) : Obj := { cls := .type "range_iterator", data := .fields #[rawInt (a + i), rawInt ((n : Int) - i), rawInt 1] }
theorem it_range (a : Int) (n : Nat) : It prog w n (rgObj a n) [] (fun i v => ∃ t, v = .int (a + i) t) where
  item := fun A E Q s I i hi hI hn h => by
    refine wpAny_pyNext_range_item (it := I) (x := a + i) (left := (n : Int) - i) (step := 1) hI (by lia) fun h' hit' hs => ?_
    refine h _ h' _ ⟨_, rfl⟩ ?_ hs
    have e1 : a + ((i + 1 : Nat) : Int) = a + (i : Int) + 1 := by push_cast; lia
    have e2 : (n : Int) - ((i + 1 : Nat) : Int) = (n : Int) - (i : Int) - 1 := by push_cast; lia
    show h'.get? I = some (rgObj a n (i + 1))
    unfold rgObj
    rw [e1, e2]; exact hit'
  done := fun A E Q s I hh hI hn h => wpAny_pyNext_range_end (it := I) (x := a + n) (left := (n : Int) - n) (step := 1) hh hI (by lia) h
end

section
variable {prog : Program} {w : World} {A : Around} {E : Value → Shared → Prop} {s : Shared} {env : Env} {K : Frag} {p : Program} {loose : List Str} {mean : ExcName → Option Value} {mg mb : Str → Option Value} {A₀ : Around} {base : Heap} {outer : List Env} {L : Addr} {m : Str → Option Value} {g : Heap}
/-- how a turn of a for ends -/
noncomputable def ForEnd {σ : Type} (K : Frag) (p : Program) (loose : List Str) (mean : ExcName → Option Value) (mg mb : Str → Option Value) (A₀ : Around) (base : Heap) (outer : List Env) (L : Addr) (m : Str → Option Value) (g : Heap) (vals : σ → List (Str × Option Value)) (led : σ → List (Addr × Obj)) (P : Nat → σ → Prop) (I : Addr) (ob : Nat → Obj) (s : Shared) (i : Nat) (Q : Flow → Shared → Prop) (f : Flow) (s' : Shared) : Prop := match f with
  | .brk => Q .next s'
  | .ret v => Q (.ret v) s'
  | _ => ∃ g' st h tk, KtsTurn (frs outer) g g' ∧ s' = { s with heap := h, toks := tk } ∧ Gd K p loose mean mg mb A₀ base outer L (ovr (vals st) m) g' h ((I, ob (i + 1)) :: led st) ∧ (∀ q ∈ led st, q.1 ≠ I) ∧ P (i + 1) st
theorem ForEnd.intro {σ : Type} {vals : σ → List (Str × Option Value)} {led : σ → List (Addr × Obj)} {P : Nat → σ → Prop} {I : Addr} {ob : Nat → Obj} {i : Nat} {Q : Flow → Shared → Prop} {g' h : Heap} {tk : Nat} {m' : Str → Option Value} (st : σ) (T : KtsTurn (frs outer) g g')
    (G : Gd K p loose mean mg mb A₀ base outer L m' g' h ((I, ob (i + 1)) :: led st)) (e : ∀ y, m' y = ovr (vals st) m y) (hI : ∀ q ∈ led st, q.1 ≠ I) (hp : P (i + 1) st) (f : Flow) (hf : f = .next ∨ f = .cont) :
    ForEnd K p loose mean mg mb A₀ base outer L m g vals led P I ob s i Q f { s with heap := h, toks := tk } := by
  have z : ∃ g' st h' tk', KtsTurn (frs outer) g g' ∧ ({ s with heap := h, toks := tk } : Shared) = { s with heap := h', toks := tk' } ∧ Gd K p loose mean mg mb A₀ base outer L (ovr (vals st) m) g' h' ((I, ob (i + 1)) :: led st) ∧ (∀ q ∈ led st, q.1 ≠ I) ∧ P (i + 1) st :=
    ⟨g', st, h, tk, T, rfl, (funext e : m' = _) ▸ G, hI, hp⟩
  rcases hf with rfl | rfl <;> exact z

theorem loop_G {σ : Type} {n : Nat} {ob : Nat → Obj} {need : List (Addr × Obj)} {V : Nat → Value → Prop} (W : It prog w n ob need V) {target : PySem.Expr} {body : List Stmt} {Q : Flow → Shared → Prop} {I : Addr} (vals : σ → List (Str × Option Value)) (led : σ → List (Addr × Obj)) (P : Nat → σ → Prop) (i₀ : Nat) (st₀ : σ)
    (hh : A.handled = none) (G : Gd K p loose mean mg mb A₀ base outer L m g s.heap ((I, ob i₀) :: led st₀)) (hs : ∀ p ∈ vals st₀, p.2 = m p.1) (hI : ∀ q ∈ led st₀, q.1 ≠ I) (hneed : ∀ i st, P i st → ∀ q ∈ need, q ∈ led st) (hp : P i₀ st₀) (hi : i₀ ≤ n)
    (turn : ∀ i v st g' h tk, i < n → V i v → P i st → KtsTurn (frs outer) g g' → (∀ q ∈ led st, q.1 ≠ I) → Gd K p loose mean mg mb A₀ base outer L (ovr (vals st) m) g' h ((I, ob (i + 1)) :: led st) →
      wpAny (model prog w) A (letOwnedTupleGo target (.ref I) v) (fun _ s₁ => wpAny (model prog w) A (assign target env v) (fun _ s₂ => wpAny (model prog w) A (execs body env) (ForEnd K p loose mean mg mb A₀ base outer L m g vals led P I ob s i Q) E s₂) E s₁) E { s with heap := h, toks := tk })
    (done : ∀ st g' h tk, P n st → KtsTurn (frs outer) g g' → Gd K p loose mean mg mb A₀ base outer L (ovr (vals st) m) g' h (led st) → Q .next { s with heap := h, toks := tk })
    (hE : PassesOwn (model prog w) A env E) :
    codeAny (model prog w) A (.forLoop target (.ref I) body [] env) (fun r s' => match r with | .ok f => Q f s' | .error e => cameBackBy (model prog w) A env E e s') s := by
  refine codeAny_forLoop_any (fun k s' => ∃ i st g' h tk, k = n - i ∧ i ≤ n ∧ s' = { s with heap := h, toks := tk } ∧ KtsTurn (frs outer) g g' ∧ Gd K p loose mean mg mb A₀ base outer L (ovr (vals st) m) g' h ((I, ob i) :: led st) ∧ (∀ q ∈ led st, q.1 ≠ I) ∧ P i st) ?_ (n - i₀)
    ⟨i₀, st₀, g, s.heap, s.toks, rfl, hi, rfl, KtsTurn.refl, (funext fun y => (ovr_self (vals st₀) m y hs).symm : m = ovr (vals st₀) m) ▸ G, hI, hp⟩
  rintro k s' ⟨i, st, g', h, tk, rfl, hin, rfl, T, G', hI', hp'⟩
  have hnd : ∀ q ∈ need, h.get? q.1 = some q.2 := fun q hq => (G'.N _ (.tail _ (hneed i st hp' q hq))).1
  have hIo : h.get? I = some (ob i) := (G'.N _ (.head _)).1
  have hIm := (G'.N _ (.head _)).2
  by_cases hlt : i < n
  · refine W.item _ _ _ _ I i hlt hIo hnd fun v h' tk' hV e sb => ?_
    obtain ⟨F1, N1⟩ := upd_head (s := ⟨h, s.gens, s.drawn, tk, s.os⟩) G'.F G'.N hI' e sb
    refine wpAny_passesOwn hE (wpAny_mono (turn i v st g' h' tk' hlt hV hp' T hI' (G'.with F1 N1)) (fun _ s₁ h₁ => ?_) fun _ _ z => z)
    refine wpAny_passesOwn hE (wpAny_mono h₁ (fun _ s₂ h₂ => ?_) fun _ _ z => z)
    refine wpAny_passesOwn hE (wpAny_mono h₂ (fun f s₃ h₃ => ?_) fun _ _ z => z)
    have fin : (∃ g' st h tk, KtsTurn (frs outer) g g' ∧ s₃ = { s with heap := h, toks := tk } ∧ Gd K p loose mean mg mb A₀ base outer L (ovr (vals st) m) g' h ((I, ob (i + 1)) :: led st) ∧ (∀ q ∈ led st, q.1 ≠ I) ∧ P (i + 1) st) →
        ∃ k', k' < n - i ∧ ∃ i st g' h tk, k' = n - i ∧ i ≤ n ∧ s₃ = { s with heap := h, toks := tk } ∧ KtsTurn (frs outer) g g' ∧ Gd K p loose mean mg mb A₀ base outer L (ovr (vals st) m) g' h ((I, ob i) :: led st) ∧ (∀ q ∈ led st, q.1 ≠ I) ∧ P i st := by
      rintro ⟨g2, st2, h2, tk2, a1, a2, a3, a4, a5⟩
      exact ⟨n - (i + 1), by lia, i + 1, st2, g2, h2, tk2, rfl, hlt, a2, a1, a3, a4, a5⟩
    cases f with
    | brk => exact h₃
    | ret v => exact h₃
    | next => exact fin h₃
    | cont => exact fin h₃
  · have e : i = n := by lia
    subst e
    refine W.done _ _ _ _ I hh hIo hnd fun h' ex => ?_
    refine wpAny_execs_nil ?_
    refine done st g' h' tk hp' T (G'.with ?_ fun q hq => ⟨ex _ _ (hI' q hq) (G'.N q (.tail _ hq)).1, (G'.N q (.tail _ hq)).2⟩)
    have hF := G'.F
    obtain ⟨oL, a1, a2, hL, a3⟩ := hF.ns
    exact ⟨⟨oL, a1, a2, ex _ _ (Ne.symm hIm.1) hL, a3⟩, fun b o eb => ex b o (fun q => by rw [q, hIm.2] at eb; cases eb) (hF.keep b o eb), hF.above⟩

/-- a for at its iterable -/
noncomputable def ForAt (prog : Program) (w : World) (A : Around) (target : PySem.Expr) (body : List Stmt) (env : Env) (Q : Flow → Shared → Prop) (E : Value → Shared → Prop) (xv : Value) (s : Shared) : Prop :=
  wpAny (model prog w) A (pyIter xv) (fun it s₂ => codeAny (model prog w) A (.forLoop target it body [] env) (fun r s' => match r with | .ok f => Q f s' | .error e => cameBackBy (model prog w) A env E e s') s₂) E s
theorem for_in {target iter : PySem.Expr} {body : List Stmt} {pos : Pos} {Q : Flow → Shared → Prop} (h : wpAny (model prog w) A (eval iter env) (ForAt prog w A target body env Q E) E s)
    (hs : ∀ x, foldedSetIterable iter env x = pure x := by intro _; rfl) : wpAny (model prog w) A (exec (.For target iter body [] pos) env) Q E s := wpAny_For h hs
section
variable {σ : Type} {target : PySem.Expr} {body : List Stmt} {Q : Flow → Shared → Prop} {led₀ : List (Addr × Obj)}
theorem forAt_list {la : Addr} {vs : List Value} {k : Nat} (vals : σ → List (Str × Option Value)) (led : σ → List (Addr × Obj)) (P : Nat → σ → Prop) (st₀ : σ)
    (hh : A.handled = none) (G : Gd K p loose mean mg mb A₀ base outer L m g s.heap led₀) (hla : (la, listOf vs.toArray k) ∈ led₀) (hs : ∀ p ∈ vals st₀, p.2 = m p.1) (hl : ∀ q ∈ led st₀, q ∈ led₀) (hneed : ∀ i st, P i st → (la, listOf vs.toArray k) ∈ led st) (hp : P 0 st₀)
    (turn : ∀ I i v st g' h tk, i < vs.length → vs[i]? = some v → P i st → KtsTurn (frs outer) g g' → (∀ q ∈ led st, q.1 ≠ I) → Gd K p loose mean mg mb A₀ base outer L (ovr (vals st) m) g' h ((I, itObj la (i + 1)) :: led st) →
      wpAny (model prog w) A (letOwnedTupleGo target (.ref I) v) (fun _ s₁ => wpAny (model prog w) A (assign target env v) (fun _ s₂ => wpAny (model prog w) A (execs body env) (ForEnd K p loose mean mg mb A₀ base outer L m g vals led P I (itObj la) s i Q) E s₂) E s₁) E { s with heap := h, toks := tk })
    (done : ∀ st g' h tk, P vs.length st → KtsTurn (frs outer) g g' → Gd K p loose mean mg mb A₀ base outer L (ovr (vals st) m) g' h (led st) → Q .next { s with heap := h, toks := tk })
    (hE : PassesOwn (model prog w) A env E := by passes_own) : ForAt prog w A target body env Q E (.ref la) s := by
  unfold ForAt
  refine wpAny_pyIter_list ⟨_, (G.N _ hla).1, rfl, _, rfl⟩ ?_
  have F1 := G.F.push (itObj la 0)
  have N1 := News.push G.F G.N (itObj la 0)
  exact loop_G (s := ⟨_, s.gens, s.drawn, s.toks, s.os⟩) (it_list la vs k) vals led P 0 st₀ hh (G.with F1 fun q hq => by
    rcases List.mem_cons.mp hq with rfl | hq
    · exact N1 _ (.head _)
    · exact N1 _ (.tail _ (hl q hq))) hs (fun q hq => Nat.ne_of_lt (Heap.lt_size (G.N q (hl q hq)).1)) (fun i st hp q hq => (List.mem_singleton.mp hq) ▸ hneed i st hp) hp (Nat.zero_le _) (turn _) done hE
theorem forAt_iter {la I : Addr} {vs : List Value} {k i₀ : Nat} (vals : σ → List (Str × Option Value)) (led : σ → List (Addr × Obj)) (P : Nat → σ → Prop) (st₀ : σ)
    (hh : A.handled = none) (G : Gd K p loose mean mg mb A₀ base outer L m g s.heap ((I, itObj la i₀) :: led st₀)) (hs : ∀ p ∈ vals st₀, p.2 = m p.1) (hI : ∀ q ∈ led st₀, q.1 ≠ I) (hneed : ∀ i st, P i st → (la, listOf vs.toArray k) ∈ led st) (hp : P i₀ st₀) (hi : i₀ ≤ vs.length)
    (turn : ∀ i v st g' h tk, i < vs.length → vs[i]? = some v → P i st → KtsTurn (frs outer) g g' → (∀ q ∈ led st, q.1 ≠ I) → Gd K p loose mean mg mb A₀ base outer L (ovr (vals st) m) g' h ((I, itObj la (i + 1)) :: led st) →
      wpAny (model prog w) A (letOwnedTupleGo target (.ref I) v) (fun _ s₁ => wpAny (model prog w) A (assign target env v) (fun _ s₂ => wpAny (model prog w) A (execs body env) (ForEnd K p loose mean mg mb A₀ base outer L m g vals led P I (itObj la) s i Q) E s₂) E s₁) E { s with heap := h, toks := tk })
    (done : ∀ st g' h tk, P vs.length st → KtsTurn (frs outer) g g' → Gd K p loose mean mg mb A₀ base outer L (ovr (vals st) m) g' h (led st) → Q .next { s with heap := h, toks := tk })
    (hE : PassesOwn (model prog w) A env E := by passes_own) : ForAt prog w A target body env Q E (.ref I) s := by
  unfold ForAt
  refine wpAny_pyIter_listiter (l := la) (i := i₀) ⟨_, (G.N _ (.head _)).1, rfl, rfl⟩ ?_
  exact loop_G (it_list la vs k) vals led P i₀ st₀ hh G hs hI (fun i st hp q hq => (List.mem_singleton.mp hq) ▸ hneed i st hp) hp hi turn done hE
theorem forAt_range {r : Addr} {a b : Int} {t u v : Tok} {n : Nat} (vals : σ → List (Str × Option Value)) (led : σ → List (Addr × Obj)) (P : Nat → σ → Prop) (st₀ : σ)
    (hh : A.handled = none) (G : Gd K p loose mean mg mb A₀ base outer L m g s.heap led₀) (hr : IsRange s.heap r a b 1 t u v) (hsmall : Builtin.Range.small a b 1 = true) (hsz : Builtin.Range.rangeSize a b 1 = (n : Int)) (hs : ∀ p ∈ vals st₀, p.2 = m p.1) (hl : ∀ q ∈ led st₀, q ∈ led₀) (hp : P 0 st₀)
    (turn : ∀ I i t st g' h tk, i < n → P i st → KtsTurn (frs outer) g g' → (∀ q ∈ led st, q.1 ≠ I) → Gd K p loose mean mg mb A₀ base outer L (ovr (vals st) m) g' h ((I, rgObj a n (i + 1)) :: led st) →
      wpAny (model prog w) A (letOwnedTupleGo target (.ref I) (.int (a + i) t)) (fun _ s₁ => wpAny (model prog w) A (assign target env (.int (a + i) t)) (fun _ s₂ => wpAny (model prog w) A (execs body env) (ForEnd K p loose mean mg mb A₀ base outer L m g vals led P I (rgObj a n) s i Q) E s₂) E s₁) E { s with heap := h, toks := tk })
    (done : ∀ st g' h tk, P n st → KtsTurn (frs outer) g g' → Gd K p loose mean mg mb A₀ base outer L (ovr (vals st) m) g' h (led st) → Q .next { s with heap := h, toks := tk })
    (hE : PassesOwn (model prog w) A env E := by passes_own) : ForAt prog w A target body env Q E (.ref r) s := by
  unfold ForAt
  refine wpAny_pyIter_range hr hsmall ?_
  have e0 : ({ cls := .type "range_iterator", data := .fields #[rawInt a, rawInt (Builtin.Range.rangeSize a b 1), rawInt 1] } : Obj) = rgObj a n 0 := by
    rw [hsz]; unfold rgObj; simp
  rw [e0]
  have F1 := G.F.push (rgObj a n 0)
  have N1 := News.push G.F G.N (rgObj a n 0)
  refine loop_G (s := ⟨_, s.gens, s.drawn, s.toks, s.os⟩) (it_range a n) vals led P 0 st₀ hh (G.with F1 fun q hq => by
    rcases List.mem_cons.mp hq with rfl | hq
    · exact N1 _ (.head _)
    · exact N1 _ (.tail _ (hl q hq))) hs (fun q hq => Nat.ne_of_lt (Heap.lt_size (G.N q (hl q hq)).1)) (fun i st hp q hq => nomatch hq) hp (Nat.zero_le _) ?_ done hE
  rintro i v st g' h tk hi ⟨t, rfl⟩ hp' T hI G'
  exact turn _ i t st g' h tk hi hp' T hI G'
end
end
end

section
open PySem PySem.W PyProof.Rows PySem.Calls
theorem freshG6 : True := by
  w_top off
  trivial
/-- an iterator whose object after i items is told by ob i -/
structure It2 (prog : Program) (w : World) (n : Nat) (ob : Nat → Obj → Prop) (need : Heap → Prop) (V : Nat → Value → Prop) : Prop where
  item : ∀ (A : Around) (E : Value → Shared → Prop) (Q : Option Value → Shared → Prop) (s : Shared) (I : Addr) (i : Nat), i < n → (∃ o, s.heap.get? I = some o ∧ ob i o) → need s.heap →
    (∀ v h' tk, V i v → (∃ o, h'.get? I = some o ∧ ob (i + 1) o) → Heap.SameBut I s.heap h' → Q (some v) { s with heap := h', toks := tk }) → wpAny (model prog w) A (pyNext (.ref I)) Q E s
  done : ∀ (A : Around) (E : Value → Shared → Prop) (Q : Option Value → Shared → Prop) (s : Shared) (I : Addr), A.handled = none → (∃ o, s.heap.get? I = some o ∧ ob n o) → need s.heap →
    (∀ h', Heap.ExtBut I s.heap h' → Q none { s with heap := h' }) → wpAny (model prog w) A (pyNext (.ref I)) Q E s
noncomputable def obList (la : Addr) (i : Nat) (o : Obj) : Prop := o.cls = .type "list_iterator" ∧ o.data = .fields #[.ref la, .int i 0]
noncomputable def obTup (t : Addr) (i : Nat) (o : Obj) : Prop := o.cls = .type "tuple_iterator" ∧ o.data = .fields #[.ref t, .int i 0]
noncomputable def obKey (d : Addr) (n ep i : Nat) (o : Obj) : Prop := o.cls = .type "dict_keyiterator" ∧ o.data = .fields #[.ref d, .int i 0, .int n 0, .int ep 0]
noncomputable def obVal (d : Addr) (n ep i : Nat) (o : Obj) : Prop := o.cls = .type "dict_valueiterator" ∧ o.data = .fields #[.ref d, .int i 0, .int n 0, .int ep 0]
noncomputable abbrev tupOf (vs : Array Value) (k : Nat) : Obj := { cls := .type "tuple", data := .seq vs k }
section
variable {prog : Program} {w : World}
theorem it2_tup (t : Addr) (vs : Array Value) : It2 prog w vs.size (obTup t) (fun h => h.IsTuple t vs) (fun i v => vs[i]? = some v) where
  item := fun A E Q s I i hi hI hn h => wpAny_pyNext_tuple_item (x := vs[i]) hI hn (by simp [hi]) fun h' a b => h _ _ s.toks (by simp [hi]) a b
  done := fun A E Q s I hh hI hn h => wpAny_pyNext_tuple_end hh hI hn (by simp) h
theorem it2_list (t : Addr) (vs : Array Value) : It2 prog w vs.size (obList t) (fun h => h.IsList t vs) (fun i v => vs[i]? = some v) where
  item := fun A E Q s I i hi hI hn h => wpAny_pyNext_list_item (x := vs[i]) hI hn (by simp [hi]) fun h' a b => h _ _ s.toks (by simp [hi]) a b
  done := fun A E Q s I hh hI hn h => wpAny_pyNext_list_end hh hI hn (by simp) h
theorem it2_key {K : Type} [DecidableEq K] (knd : KeyKind prog w K) (d : Addr) (kvs : List (K × Value)) (ep : Nat) : It2 prog w kvs.length (obKey d kvs.length ep) (fun h => h.DictAt knd d kvs ep) (fun i v => ∃ q, kvs[i]? = some q ∧ knd.is q.1 v = true) where
  item := fun A E Q s I i hi hI hn h => wpAny_pyNext_dict_item (k := kvs[i].1) (v := kvs[i].2) hI hn (by simp [hi]) fun key h' e a b => h _ _ s.toks ⟨_, by simp [hi], e⟩ a b
  done := fun A E Q s I hh hI hn h => wpAny_pyNext_dict_end hh hI hn (by simp) h
theorem it2_val {K : Type} [DecidableEq K] (knd : KeyKind prog w K) (d : Addr) (kvs : List (K × Value)) (ep : Nat) : It2 prog w kvs.length (obVal d kvs.length ep) (fun h => h.DictAt knd d kvs ep) (fun i v => ∃ k, kvs[i]? = some (k, v)) where
  item := fun A E Q s I i hi hI hn h => wpAny_pyNext_values_item (k := kvs[i].1) (v := kvs[i].2) hI hn (by simp [hi]) fun h' a b => h _ _ s.toks ⟨kvs[i].1, by simp [hi]⟩ a b
  done := fun A E Q s I hh hI hn h => wpAny_pyNext_values_end hh hI hn (by simp) h
end
section
variable {g : Heap} {L : Addr} {m : Str → Option Value}
theorem upd_head2 {h h' : Heap} {I : Addr} {o : Obj} {rest : List (Addr × Obj)} {ob : Obj → Prop} (F : Fr g L h m) (N : News g L h ((I, o) :: rest)) (hI : ∀ q ∈ rest, q.1 ≠ I) (e : ∃ o', h'.get? I = some o' ∧ ob o') (sb : Heap.SameBut I h h') : Fr g L h' m ∧ ∃ o', ob o' ∧ News g L h' ((I, o') :: rest) := by
  obtain ⟨o', e, ho⟩ := e
  have hm := N _ (.head _)
  refine ⟨F.change sb hm.2.1 hm.2.2, o', ho, fun q hq => ?_⟩
  rcases List.mem_cons.mp hq with rfl | hq
  · exact ⟨e, hm.2⟩
  · exact ⟨(sb.2 _ (hI q hq)).trans (N q (.tail _ hq)).1, (N q (.tail _ hq)).2⟩
theorem ext_head2 {h h' : Heap} {I : Addr} {o : Obj} {rest : List (Addr × Obj)} (F : Fr g L h m) (N : News g L h ((I, o) :: rest)) (hI : ∀ q ∈ rest, q.1 ≠ I) (ex : Heap.ExtBut I h h') : Fr g L h' m ∧ News g L h' rest := by
  have hIm := (N _ (.head _)).2
  refine ⟨?_, fun q hq => ⟨ex _ _ (hI q hq) (N q (.tail _ hq)).1, (N q (.tail _ hq)).2⟩⟩
  have hF := F
  obtain ⟨oL, a1, a2, hL, a3⟩ := hF.ns
  exact ⟨⟨oL, a1, a2, ex _ _ (Ne.symm hIm.1) hL, a3⟩, fun b o eb => ex b o (fun q => by rw [q, hIm.2] at eb; cases eb) (hF.keep b o eb), hF.above⟩
end
section
variable {prog : Program} {w : World} {A : Around} {E : Value → Shared → Prop} {s : Shared} {env : Env} {L : Addr} {m : Str → Option Value} {g : Heap}
/-- how a turn of a for ends, the ground not turned -/
noncomputable def ForEndN {σ : Type} (L : Addr) (m : Str → Option Value) (g : Heap) (vals : σ → List (Str × Option Value)) (led : σ → List (Addr × Obj)) (P : Nat → σ → Prop) (I : Addr) (ob : Nat → Obj → Prop) (s : Shared) (i : Nat) (Q : Flow → Shared → Prop) (f : Flow) (s' : Shared) : Prop := match f with
  | .brk => Q .next s'
  | .ret v => Q (.ret v) s'
  | _ => ∃ st o h tk, s' = { s with heap := h, toks := tk } ∧ ob (i + 1) o ∧ Fr g L h (ovr (vals st) m) ∧ News g L h ((I, o) :: led st) ∧ (∀ q ∈ led st, q.1 ≠ I) ∧ P (i + 1) st
theorem ForEndN.intro {σ : Type} {vals : σ → List (Str × Option Value)} {led : σ → List (Addr × Obj)} {P : Nat → σ → Prop} {I : Addr} {ob : Nat → Obj → Prop} {i : Nat} {Q : Flow → Shared → Prop} {h : Heap} {tk : Nat} {m' : Str → Option Value} {o : Obj} (st : σ) (ho : ob (i + 1) o)
    (F : Fr g L h m') (N : News g L h ((I, o) :: led st)) (e : ∀ y, m' y = ovr (vals st) m y) (hI : ∀ q ∈ led st, q.1 ≠ I) (hp : P (i + 1) st) (f : Flow) (hf : f = .next ∨ f = .cont) :
    ForEndN L m g vals led P I ob s i Q f { s with heap := h, toks := tk } := by
  have z : ∃ st o h' tk', ({ s with heap := h, toks := tk } : Shared) = { s with heap := h', toks := tk' } ∧ ob (i + 1) o ∧ Fr g L h' (ovr (vals st) m) ∧ News g L h' ((I, o) :: led st) ∧ (∀ q ∈ led st, q.1 ≠ I) ∧ P (i + 1) st :=
    ⟨st, o, h, tk, rfl, ho, (funext e : m' = _) ▸ F, N, hI, hp⟩
  rcases hf with rfl | rfl <;> exact z
theorem loop_N {σ : Type} {n : Nat} {ob : Nat → Obj → Prop} {need : Heap → Prop} {V : Nat → Value → Prop} (W : It2 prog w n ob need V) {target : PySem.Expr} {body : List Stmt} {Q : Flow → Shared → Prop} {I : Addr} {o₀ : Obj} (vals : σ → List (Str × Option Value)) (led : σ → List (Addr × Obj)) (P : Nat → σ → Prop) (i₀ : Nat) (st₀ : σ)
    (hh : A.handled = none) (F : Fr g L s.heap m) (ho : ob i₀ o₀) (N : News g L s.heap ((I, o₀) :: led st₀)) (hs : ∀ p ∈ vals st₀, p.2 = m p.1) (hI : ∀ q ∈ led st₀, q.1 ≠ I) (hneed : ∀ i st h, P i st → News g L h (led st) → need h) (hp : P i₀ st₀) (hi : i₀ ≤ n)
    (turn : ∀ i v st o h tk, i < n → V i v → P i st → (∀ q ∈ led st, q.1 ≠ I) → ob (i + 1) o → Fr g L h (ovr (vals st) m) → News g L h ((I, o) :: led st) →
      wpAny (model prog w) A (letOwnedTupleGo target (.ref I) v) (fun _ s₁ => wpAny (model prog w) A (assign target env v) (fun _ s₂ => wpAny (model prog w) A (execs body env) (ForEndN L m g vals led P I ob s i Q) E s₂) E s₁) E { s with heap := h, toks := tk })
    (done : ∀ st h tk, P n st → Fr g L h (ovr (vals st) m) → News g L h (led st) → Q .next { s with heap := h, toks := tk })
    (hE : PassesOwn (model prog w) A env E) :
    codeAny (model prog w) A (.forLoop target (.ref I) body [] env) (fun r s' => match r with | .ok f => Q f s' | .error e => cameBackBy (model prog w) A env E e s') s := by
  refine codeAny_forLoop_any (fun k s' => ∃ i st o h tk, k = n - i ∧ i ≤ n ∧ s' = { s with heap := h, toks := tk } ∧ ob i o ∧ Fr g L h (ovr (vals st) m) ∧ News g L h ((I, o) :: led st) ∧ (∀ q ∈ led st, q.1 ≠ I) ∧ P i st) ?_ (n - i₀)
    ⟨i₀, st₀, o₀, s.heap, s.toks, rfl, hi, rfl, ho, (funext fun y => (ovr_self (vals st₀) m y hs).symm : m = ovr (vals st₀) m) ▸ F, N, hI, hp⟩
  rintro k s' ⟨i, st, o, h, tk, rfl, hin, rfl, ho', F', N', hI', hp'⟩
  have hnd : need h := hneed i st h hp' fun q hq => N' q (.tail _ hq)
  have hIo : ∃ o, h.get? I = some o ∧ ob i o := ⟨o, (N' _ (.head _)).1, ho'⟩
  by_cases hlt : i < n
  · refine W.item _ _ _ _ I i hlt hIo hnd fun v h' tk' hV e sb => ?_
    obtain ⟨F1, o1, ho1, N1⟩ := upd_head2 F' N' hI' e sb
    refine wpAny_passesOwn hE (wpAny_mono (turn i v st o1 h' tk' hlt hV hp' hI' ho1 F1 N1) (fun _ s₁ h₁ => ?_) fun _ _ z => z)
    refine wpAny_passesOwn hE (wpAny_mono h₁ (fun _ s₂ h₂ => ?_) fun _ _ z => z)
    refine wpAny_passesOwn hE (wpAny_mono h₂ (fun f s₃ h₃ => ?_) fun _ _ z => z)
    have fin : (∃ st o h tk, s₃ = { s with heap := h, toks := tk } ∧ ob (i + 1) o ∧ Fr g L h (ovr (vals st) m) ∧ News g L h ((I, o) :: led st) ∧ (∀ q ∈ led st, q.1 ≠ I) ∧ P (i + 1) st) →
        ∃ k', k' < n - i ∧ ∃ i st o h tk, k' = n - i ∧ i ≤ n ∧ s₃ = { s with heap := h, toks := tk } ∧ ob i o ∧ Fr g L h (ovr (vals st) m) ∧ News g L h ((I, o) :: led st) ∧ (∀ q ∈ led st, q.1 ≠ I) ∧ P i st := by
      rintro ⟨st2, o2, h2, tk2, a1, a2, a3, a4, a5, a6⟩
      exact ⟨n - (i + 1), by lia, i + 1, st2, o2, h2, tk2, rfl, hlt, a1, a2, a3, a4, a5, a6⟩
    cases f with
    | brk => exact h₃
    | ret v => exact h₃
    | next => exact fin h₃
    | cont => exact fin h₃
  · have e : i = n := by lia
    subst e
    refine W.done _ _ _ _ I hh hIo hnd fun h' ex => ?_
    refine wpAny_execs_nil ?_
    obtain ⟨F1, N1⟩ := ext_head2 F' N' hI' ex
    exact done st h' tk hp' F1 N1
section
variable {σ : Type} {target : PySem.Expr} {body : List Stmt} {Q : Flow → Shared → Prop} {led₀ : List (Addr × Obj)}
theorem forAtN_tup {t : Addr} {vs : Array Value} {k : Nat} (vals : σ → List (Str × Option Value)) (led : σ → List (Addr × Obj)) (P : Nat → σ → Prop) (st₀ : σ)
    (hh : A.handled = none) (F : Fr g L s.heap m) (N : News g L s.heap led₀) (ht : (t, tupOf vs k) ∈ led₀) (hs : ∀ p ∈ vals st₀, p.2 = m p.1) (hl : ∀ q ∈ led st₀, q ∈ led₀) (hneed : ∀ i st, P i st → (t, tupOf vs k) ∈ led st) (hp : P 0 st₀)
    (turn : ∀ I i v st o h tk, i < vs.size → vs[i]? = some v → P i st → (∀ q ∈ led st, q.1 ≠ I) → obTup t (i + 1) o → Fr g L h (ovr (vals st) m) → News g L h ((I, o) :: led st) →
      wpAny (model prog w) A (letOwnedTupleGo target (.ref I) v) (fun _ s₁ => wpAny (model prog w) A (assign target env v) (fun _ s₂ => wpAny (model prog w) A (execs body env) (ForEndN L m g vals led P I (obTup t) s i Q) E s₂) E s₁) E { s with heap := h, toks := tk })
    (done : ∀ st h tk, P vs.size st → Fr g L h (ovr (vals st) m) → News g L h (led st) → Q .next { s with heap := h, toks := tk })
    (hE : PassesOwn (model prog w) A env E := by passes_own) : ForAt prog w A target body env Q E (.ref t) s := by
  unfold ForAt
  refine wpAny_pyIter_tuple ⟨_, (N _ ht).1, rfl, _, rfl⟩ ?_
  have F1 := F.push { cls := .type "tuple_iterator", data := .fields #[.ref t, .int 0 0] }
  have N1 := News.push F N { cls := .type "tuple_iterator", data := .fields #[.ref t, .int 0 0] }
  exact loop_N (s := ⟨_, s.gens, s.drawn, s.toks, s.os⟩) (it2_tup t vs) vals led P 0 st₀ hh F1 (o₀ := { cls := .type "tuple_iterator", data := .fields #[.ref t, .int 0 0] }) ⟨rfl, rfl⟩ (fun q hq => by
    rcases List.mem_cons.mp hq with rfl | hq
    · exact N1 _ (.head _)
    · exact N1 _ (.tail _ (hl q hq))) hs (fun q hq => Nat.ne_of_lt (Heap.lt_size (N q (hl q hq)).1)) (fun i st h hp N => ⟨_, (N _ (hneed i st hp)).1, rfl, _, rfl⟩) hp (Nat.zero_le _) (turn _) done hE
theorem forAtN_list {t : Addr} {vs : Array Value} {k : Nat} (vals : σ → List (Str × Option Value)) (led : σ → List (Addr × Obj)) (P : Nat → σ → Prop) (st₀ : σ)
    (hh : A.handled = none) (F : Fr g L s.heap m) (N : News g L s.heap led₀) (ht : (t, listOf vs k) ∈ led₀) (hs : ∀ p ∈ vals st₀, p.2 = m p.1) (hl : ∀ q ∈ led st₀, q ∈ led₀) (hneed : ∀ i st, P i st → (t, listOf vs k) ∈ led st) (hp : P 0 st₀)
    (turn : ∀ I i v st o h tk, i < vs.size → vs[i]? = some v → P i st → (∀ q ∈ led st, q.1 ≠ I) → obList t (i + 1) o → Fr g L h (ovr (vals st) m) → News g L h ((I, o) :: led st) →
      wpAny (model prog w) A (letOwnedTupleGo target (.ref I) v) (fun _ s₁ => wpAny (model prog w) A (assign target env v) (fun _ s₂ => wpAny (model prog w) A (execs body env) (ForEndN L m g vals led P I (obList t) s i Q) E s₂) E s₁) E { s with heap := h, toks := tk })
    (done : ∀ st h tk, P vs.size st → Fr g L h (ovr (vals st) m) → News g L h (led st) → Q .next { s with heap := h, toks := tk })
    (hE : PassesOwn (model prog w) A env E := by passes_own) : ForAt prog w A target body env Q E (.ref t) s := by
  unfold ForAt
  refine wpAny_pyIter_list ⟨_, (N _ ht).1, rfl, _, rfl⟩ ?_
  have F1 := F.push { cls := .type "list_iterator", data := .fields #[.ref t, .int 0 0] }
  have N1 := News.push F N { cls := .type "list_iterator", data := .fields #[.ref t, .int 0 0] }
  exact loop_N (s := ⟨_, s.gens, s.drawn, s.toks, s.os⟩) (it2_list t vs) vals led P 0 st₀ hh F1 (o₀ := { cls := .type "list_iterator", data := .fields #[.ref t, .int 0 0] }) ⟨rfl, rfl⟩ (fun q hq => by
    rcases List.mem_cons.mp hq with rfl | hq
    · exact N1 _ (.head _)
    · exact N1 _ (.tail _ (hl q hq))) hs (fun q hq => Nat.ne_of_lt (Heap.lt_size (N q (hl q hq)).1)) (fun i st h hp N => ⟨_, (N _ (hneed i st hp)).1, rfl, _, rfl⟩) hp (Nat.zero_le _) (turn _) done hE
end
end
end

section
open PySem PySem.W PyProof.Rows PySem.Calls
theorem freshG8 : True := by
  w_top off
  trivial
theorem slot_li_ga : Slot "list_iterator" "__getattribute__" "object.__getattribute__" :=
  .of (owner := "object") (n := "__getattribute__") (by rw [typeLookup_type, builtinLookup_eq_fast]; kernel_rfl) (by decide +kernel) (by decide +kernel) (by decide +kernel)
    (by first | exact .inl (by decide +kernel) | exact .inr (by decide +kernel)) (by rw [isSubtype_type]; kernel_rfl)
theorem entry_li_ga : entryFor table "object.__getattribute__" = some Builtin.«object.__getattribute__» := entryFor_of_tree (by kernel_rfl)
theorem args_li_ga (a b : Value) : argsOk "object.__getattribute__" ⟨[a, b], []⟩ := by unfold argsOk; kernel_rfl
theorem type_ln : typeOf (.builtin "list_iterator.__next__") = pure (.type "wrapper_descriptor") := by show builtinType _ = _; rw [builtinType_eq_fast]; kernel_rfl
theorem check_ln (la : Addr) : checkBoundCall "list_iterator.__next__" ⟨[.ref la], []⟩ = pure () := by kernel_rfl
section
variable {prog : Program} {w : World} {M : Model} {A : Around} {E : Value → Shared → Prop} {s : Shared}
theorem run_wd_getN {P : Fin → Shared → Prop} {r : Addr} (ho : s.TypeIs (.ref r) "list_iterator") (h : P (.done (.ret (.ref s.heap.objs.size))) { s with heap := s.heap.push (mwObj "list_iterator.__next__" r) }) :
    wpAny M A (Builtin.«wrapper_descriptor.__get__» ⟨[.builtin "list_iterator.__next__", .ref r, .type "list_iterator"], []⟩) P E s := by
  unfold Builtin.«wrapper_descriptor.__get__»
  wp_walk
  rw [show (".".intercalate ("list_iterator.__next__".cutAt '.').dropLast) = "list_iterator" by decide +kernel]
  refine wpAny_of_eq (a := true) (by rw [isSubtype_type]; kernel_rfl) ?_
  obtain ⟨hh, g, d, tk, os⟩ := s
  repeat lk
  exact h
theorem run_li_ga {P : Fin → Shared → Prop} {r la : Addr} {i : Nat} {t : Tok} (ho : s.heap.get? r = some (itObj la i)) (h : P (.done (.ret (.ref s.heap.objs.size))) { s with heap := s.heap.push (mwObj "list_iterator.__next__" r) }) :
    wpAny (model prog w) A (Builtin.«object.__getattribute__» ⟨[.ref r, .str "__next__" t], []⟩) P E s := by
  obtain ⟨hh, g, d, tk, os⟩ := s
  have hT : (⟨hh, g, d, tk, os⟩ : Shared).TypeIs (.ref r) "list_iterator" := ⟨_, ho, rfl⟩
  have X : Frag.In [] hh := fun _ _ e => nomatch e
  have L0 : Looks (model prog w) hh (typeOf (.ref r)) (.type "list_iterator") := (Looks.ld ho).andThen .now
  have L1 := looks_findIn (M := model prog w) X (t := .type "list_iterator") (name := "__next__") (r := some (.builtin "list_iterator.__next__")) (by decide +kernel)
  have L2 := looks_specialIn (M := model prog w) X (v := .builtin "list_iterator.__next__") (name := "__get__") (r := some (.builtin "wrapper_descriptor.__get__")) (by decide +kernel)
  have L3 := looks_takesIn (M := model prog w) X (a := .builtin "list_iterator.__next__") (r := false) (by decide +kernel)
  unfold Builtin.«object.__getattribute__»
  refine wpAny_bind (wpAny_of_eq (slotArgs_ga _ _) ?_)
  dsimp only at ho
  repeat ((fail_if_success (with_reducible show wpAny _ _ (call _ _) _ _ _)); lk)
  exact wpAny_call_entry slot_wd_get type_ln entry_wd_get (run_wd_getN hT ⟨_, rfl, wpAny_pure h⟩) (args_wd_get _ _ _)
theorem getAttr_next {Q : Value → Shared → Prop} {r la : Addr} {i : Nat} {ex : Bool} (ho : s.heap.get? r = some (itObj la i))
    (h : Q (.ref s.heap.objs.size) { s with heap := s.heap.push (mwObj "list_iterator.__next__" r), toks := s.toks + 1 }) :
    wpAny (model prog w) A (getAttr (.ref r) "__next__" ex) Q E s := by
  have hlk := slot_li_ga.lookup
  have hT : ∀ t', ({ s with toks := t' } : Shared).TypeIs (.ref r) "list_iterator" := fun _ => ⟨_, ho, rfl⟩
  unfold getAttr getAttrBy
  refine wpAny_bind (wpAny_mkText (wpAny_holding (wpAny_bind (wpAny_typeOf (hT _) (wpAny_bind (wpAny_of_eq hlk ?_))))))
  show wpAny _ _ (getAttrByItsOwn _ _ (.type "list_iterator") (.builtin "object.__getattribute__") true ex) _ _ _
  unfold getAttrByItsOwn hookBefore callGetattribute
  refine wpAny_bind (wpAny_of_eq (show (if onTheHeap (.type "list_iterator") then typeLookup (.type "list_iterator") "__getattr__" else pure none) = pure none from rfl) ?_)
  refine wpAny_bind (wpAny_attempt (wpAny_holding ?_))
  rw [show (ex && onTheHeap (.builtin "object.__getattribute__")) = false by cases ex <;> rfl]
  unfold boundAndCalled
  refine wpAny_bind (wpAny_of_eq (slot_li_ga.bind _) ?_)
  refine wpAny_mono (Q := fun v s' => v = .ref s.heap.objs.size ∧ s' = { s with heap := s.heap.push (mwObj "list_iterator.__next__" r), toks := s.toks + 1 }) (E := fun _ _ => False)
    (wpAny_call_entry slot_li_ga (hT _) entry_li_ga (run_li_ga (s := { s with toks := s.toks + 1 }) ho ⟨_, rfl, rfl, rfl⟩) (args_li_ga _ _)) (fun v s' hv => ?_) fun _ _ z => z.elim
  obtain ⟨rfl, rfl⟩ := hv
  exact wpAny_pure h
end
section
variable {prog : Program} {w : World} {A : Around} {E : Value → Shared → Prop} {s : Shared}
theorem mw_item {W I la : Addr} {i : Nat} {items : Array Value} {n : Nat} {v : Value} {Q : Value → Shared → Prop} (hW : s.heap.get? W = some (mwObj "list_iterator.__next__" I)) (hI : s.heap.get? I = some (itObj la i)) (hl : s.heap.get? la = some (listOf items n)) (hx : items[i]? = some v)
    (h : ∀ h', h'.get? I = some (itObj la (i + 1)) → Heap.SameBut I s.heap h' → Q v { s with heap := h' }) :
    wpAny (model prog w) A (call (.ref W) []) Q E s := by
  refine wpAny_call (codeAny_of_tree ?_)
  show wpAny _ _ (callAny (.ref W) ⟨[], []⟩) _ _ _
  obtain ⟨hh, g, d, t, os⟩ := s
  dsimp only at hW hI hl
  unfold callAny
  refine wpAny_bind (wpAny_load hW ?_)
  dsimp only
  rw [if_pos (by decide)]
  simp only [List.getElem?_toArray, List.getElem?_cons_zero, List.getElem?_cons_succ]
  rw [if_pos (by decide)]
  refine wpAny_bind (wpAny_of_eq (check_ln I) (wpAny_pure ?_))
  have pl : plainId "list_iterator.__next__" = true := by decide +kernel
  refine ⟨plainId_quiet pl _, codeAny_builtin entry_listiter_next ?_⟩
  rw [Around.under_plainId pl _]
  repeat lk
  rw [show (Int.toNat (i : Int)) = i from rfl, hx]
  dsimp only
  refine wpAny_bind (wpAny_setField hI rfl (by simp) (wpAny_pure (h _ ?_ (Heap.SameBut.update ..))))
  rw [Heap.get?_update_self _ hI rfl]
  simp [Obj.mapFields, rawInt]
theorem mw_stop {W I la : Addr} {i : Nat} {items : Array Value} {n : Nat} {Q : Value → Shared → Prop} (hh : A.handled = none) (hW : s.heap.get? W = some (mwObj "list_iterator.__next__" I)) (hI : s.heap.get? I = some (itObj la i)) (hl : s.heap.get? la = some (listOf items n)) (hx : items[i]? = none)
    (h : ∀ h₁ h' e, h₁.get? I = some (itEnd i) → Heap.SameBut I s.heap h₁ → Heap.NewExc h₁ h' e "StopIteration" → E (.ref e) { s with heap := h' }) :
    wpAny (model prog w) A (call (.ref W) []) Q E s := by
  refine wpAny_call (codeAny_of_tree ?_)
  show wpAny _ _ (callAny (.ref W) ⟨[], []⟩) _ _ _
  obtain ⟨hp, g, d, t, os⟩ := s
  dsimp only at hW hI hl
  have hl1 := Heap.lt_size hI
  unfold callAny
  refine wpAny_bind (wpAny_load hW ?_)
  dsimp only
  rw [if_pos (by decide)]
  simp only [List.getElem?_toArray, List.getElem?_cons_zero, List.getElem?_cons_succ]
  rw [if_pos (by decide)]
  refine wpAny_bind (wpAny_of_eq (check_ln I) (wpAny_pure ?_))
  have pl : plainId "list_iterator.__next__" = true := by decide +kernel
  refine ⟨plainId_quiet pl _, codeAny_builtin entry_listiter_next ?_⟩
  rw [Around.under_plainId pl _]
  repeat lk
  rw [show (Int.toNat (i : Int)) = i from rfl, hx]
  dsimp only
  refine wpAny_bind (wpAny_rule (wpAny_bind (wpAny_setField hI rfl (by simp) ?_)))
  have e1 : (hp.update I (Obj.mapFields (·.setIfInBounds 0 Value.none))).get? I = some (itEnd i) := by
    rw [Heap.get?_update_self _ hI rfl]
    simp [Obj.mapFields]
  have e2 : Heap.SameBut I hp (hp.update I (Obj.mapFields (·.setIfInBounds 0 Value.none))) := Heap.SameBut.update ..
  generalize hp.update I (Obj.mapFields (·.setIfInBounds 0 Value.none)) = h₁ at e1 e2 ⊢
  show wpAny _ _ (newExc (.type "StopIteration") [] >>= _) _ _ _
  refine wpAny_bind ?_
  simp only [newExc, newTuple]
  refine wpAny_bind (wpAny_newObj_type ?_ (by size_fits))
  refine wpAny_bind (m := firstArgMember _ _) (wpAny_of_eq (a := Value.none) (by first | rfl | (simp only [firstArgMember]; rfl)) ?_)
  refine wpAny_newObj_type ?_ (by size_fits)
  simp only [raiseNew]
  refine wpAny_bind (wpAny_handled ?_)
  simp only [show A.in1.handled = none from hh, show A.handled = none from hh]
  refine wpAny_bind (wpAny_pure (wpAny_throw ?_))
  refine h h₁ _ _ e1 e2 ⟨fun b o hb => Heap.get?_push_of_some _ (Heap.get?_push_of_some _ hb), Heap.get?_none_of_le (by rw [Heap.size_push]; lia), _, .ref h₁.objs.size, Heap.get?_push_size _ rfl, rfl, ?_⟩
  first | rfl | kernel_rfl
end
section
variable {prog : Program} {w : World} {A : Around} {E : Value → Shared → Prop} {s : Shared} {h₀ : Heap} {L I la : Addr} {m : Str → Option Value} {rest : List (Addr × Obj)} {i n : Nat} {items : Array Value} {v : Value} {Q : Value → Shared → Prop}
theorem getAttr_nextK {ex : Bool} (F : Fr h₀ L s.heap m) (N : News h₀ L s.heap rest) (ha : (I, itObj la i) ∈ rest)
    (h : ∀ W h', Fr h₀ L h' m → News h₀ L h' ((W, mwObj "list_iterator.__next__" I) :: rest) → (∀ q ∈ rest, q.1 < W) → Q (.ref W) { s with heap := h', toks := s.toks + 1 }) :
    wpAny (model prog w) A (getAttr (.ref I) "__next__" ex) Q E s :=
  getAttr_next (N _ ha).1 (h _ _ (F.push _) (News.push F N _) fun q hq => Heap.lt_size (N q hq).1)
theorem mw_itemK {W : Addr} (F : Fr h₀ L s.heap m) (N : News h₀ L s.heap ((I, itObj la i) :: rest)) (hI : ∀ q ∈ rest, q.1 ≠ I) (hW : (W, mwObj "list_iterator.__next__" I) ∈ rest) (ha : (la, listOf items n) ∈ rest) (hx : items[i]? = some v)
    (h : ∀ h', Fr h₀ L h' m → News h₀ L h' ((I, itObj la (i + 1)) :: rest) → Q v { s with heap := h' }) : wpAny (model prog w) A (call (.ref W) []) Q E s :=
  mw_item (N _ (.tail _ hW)).1 (N _ (.head _)).1 (N _ (.tail _ ha)).1 hx fun h' e sb => let ⟨a, b⟩ := upd_head F N hI e sb; h h' a b
theorem mw_stopK {W : Addr} (hh : A.handled = none) (F : Fr h₀ L s.heap m) (N : News h₀ L s.heap ((I, itObj la i) :: rest)) (hI : ∀ q ∈ rest, q.1 ≠ I) (hW : (W, mwObj "list_iterator.__next__" I) ∈ rest) (ha : (la, listOf items n) ∈ rest) (hx : items[i]? = none)
    (h : ∀ h₁ h' e, Fr h₀ L h₁ m → News h₀ L h₁ ((I, itEnd i) :: rest) → Heap.NewExc h₁ h' e "StopIteration" → E (.ref e) { s with heap := h' }) : wpAny (model prog w) A (call (.ref W) []) Q E s :=
  mw_stop hh (N _ (.tail _ hW)).1 (N _ (.head _)).1 (N _ (.tail _ ha)).1 hx fun h₁ h' e e1 sb hn => let ⟨a, b⟩ := upd_head F N hI e1 sb; h h₁ h' e a b hn
end
end

section
open PySem PySem.W PyProof.Rows PySem.Calls
theorem freshG9 : True := by
  w_top off
  trivial
section
variable {prog : Program} {w : World} {A : Around} {E : Value → Shared → Prop} {s : Shared} {env : Env} {K : Frag} {p : Program} {loose : List Str} {mean : ExcName → Option Value} {mg mb : Str → Option Value} {A₀ : Around} {base : Heap} {outer : List Env} {L : Addr} {m : Str → Option Value} {g : Heap}
/-- how a turn of a while ends, the ground may be turned -/
noncomputable def WhEndG {σ : Type} (K : Frag) (p : Program) (loose : List Str) (mean : ExcName → Option Value) (mg mb : Str → Option Value) (A₀ : Around) (base : Heap) (outer : List Env) (L : Addr) (m : Str → Option Value) (g : Heap) (vals : σ → List (Str × Option Value)) (led : σ → List (Addr × Obj)) (P : Nat → σ → Prop) (s : Shared) (n : Nat) (Q : Flow → Shared → Prop) (f : Flow) (s' : Shared) : Prop := match f with
  | .brk => Q .next s'
  | .ret v => Q (.ret v) s'
  | _ => ∃ k g' st h tk, k < n ∧ KtsTurn (frs outer) g g' ∧ s' = { s with heap := h, toks := tk } ∧ Gd K p loose mean mg mb A₀ base outer L (ovr (vals st) m) g' h (led st) ∧ P k st
theorem WhEndG.intro {σ : Type} {vals : σ → List (Str × Option Value)} {led : σ → List (Addr × Obj)} {P : Nat → σ → Prop} {n : Nat} {Q : Flow → Shared → Prop} {g' h : Heap} {tk : Nat} {m' : Str → Option Value} (k : Nat) (st : σ) (hk : k < n) (T : KtsTurn (frs outer) g g')
    (G : Gd K p loose mean mg mb A₀ base outer L m' g' h (led st)) (e : ∀ y, m' y = ovr (vals st) m y) (hp : P k st) (f : Flow) (hf : f = .next ∨ f = .cont) :
    WhEndG K p loose mean mg mb A₀ base outer L m g vals led P s n Q f { s with heap := h, toks := tk } := by
  have z : ∃ k g' st h' tk', k < n ∧ KtsTurn (frs outer) g g' ∧ ({ s with heap := h, toks := tk } : Shared) = { s with heap := h', toks := tk' } ∧ Gd K p loose mean mg mb A₀ base outer L (ovr (vals st) m) g' h' (led st) ∧ P k st :=
    ⟨k, g', st, h, tk, hk, T, rfl, (funext e : m' = _) ▸ G, hp⟩
  rcases hf with rfl | rfl <;> exact z
theorem while_G {σ : Type} {test : PySem.Expr} {body orelse : List Stmt} {Q : Flow → Shared → Prop} {pos : Pos} (vals : σ → List (Str × Option Value)) (led : σ → List (Addr × Obj)) (P : Nat → σ → Prop) (n₀ : Nat) (st₀ : σ) {led₀ : List (Addr × Obj)}
    (G : Gd K p loose mean mg mb A₀ base outer L m g s.heap led₀) (hs : ∀ p ∈ vals st₀, p.2 = m p.1) (hl : ∀ q ∈ led st₀, q ∈ led₀) (hp : P n₀ st₀)
    (turn : ∀ n st g' h tk, P n st → KtsTurn (frs outer) g g' → Gd K p loose mean mg mb A₀ base outer L (ovr (vals st) m) g' h (led st) →
      wpAny (model prog w) A (isTrue test env (eval test env)) (fun b s₂ => WhlIf b (wpAny (model prog w) A (execs body env) (WhEndG K p loose mean mg mb A₀ base outer L m g vals led P s n Q) E s₂) (wpAny (model prog w) A (execs orelse env) Q E s₂)) E { s with heap := h, toks := tk })
    (hE : PassesOwn (model prog w) A env E := by passes_own) : wpAny (model prog w) A (exec (.While test body orelse pos) env) Q E s := by
  refine while_T (fun n s' => ∃ st g' h tk, s' = { s with heap := h, toks := tk } ∧ KtsTurn (frs outer) g g' ∧ Gd K p loose mean mg mb A₀ base outer L (ovr (vals st) m) g' h (led st) ∧ P n st) n₀
    ⟨st₀, g, s.heap, s.toks, rfl, KtsTurn.refl, (funext fun y => (ovr_self (vals st₀) m y hs).symm : m = ovr (vals st₀) m) ▸ G.with G.F fun q hq => G.N q (hl q hq), hp⟩ (fun n s' hI => ?_) hE
  obtain ⟨st, g', h, tk, rfl, T, G', hp'⟩ := hI
  refine wpAny_mono (turn n st g' h tk hp' T G') (fun b s₂ h₂ => ?_) fun _ _ z => z
  cases b with
  | false => exact h₂
  | true =>
    refine wpAny_mono (h₂ : wpAny (model prog w) A (execs body env) (WhEndG K p loose mean mg mb A₀ base outer L m g vals led P s n Q) E s₂) (fun f s₃ z => ?_) fun _ _ z => z
    cases f with
    | brk => exact z
    | ret v => exact z
    | next => obtain ⟨k, g2, st, h, tk, hk, T2, e, a, c⟩ := z; exact ⟨k, hk, st, g2, h, tk, e, T2, a, c⟩
    | cont => obtain ⟨k, g2, st, h, tk, hk, T2, e, a, c⟩ := z; exact ⟨k, hk, st, g2, h, tk, e, T2, a, c⟩
/-- how a turn of a for ends -/
noncomputable def ForEndG {σ : Type} (K : Frag) (p : Program) (loose : List Str) (mean : ExcName → Option Value) (mg mb : Str → Option Value) (A₀ : Around) (base : Heap) (outer : List Env) (L : Addr) (m : Str → Option Value) (g : Heap) (vals : σ → List (Str × Option Value)) (led : σ → List (Addr × Obj)) (P : Nat → σ → Prop) (I : Addr) (ob : Nat → Obj → Prop) (s : Shared) (i : Nat) (Q : Flow → Shared → Prop) (f : Flow) (s' : Shared) : Prop := match f with
  | .brk => Q .next s'
  | .ret v => Q (.ret v) s'
  | _ => ∃ g' st o h tk, KtsTurn (frs outer) g g' ∧ s' = { s with heap := h, toks := tk } ∧ ob (i + 1) o ∧ Gd K p loose mean mg mb A₀ base outer L (ovr (vals st) m) g' h ((I, o) :: led st) ∧ (∀ q ∈ led st, q.1 ≠ I) ∧ P (i + 1) st
theorem ForEndG.intro {σ : Type} {vals : σ → List (Str × Option Value)} {led : σ → List (Addr × Obj)} {P : Nat → σ → Prop} {I : Addr} {ob : Nat → Obj → Prop} {i : Nat} {Q : Flow → Shared → Prop} {g' h : Heap} {tk : Nat} {m' : Str → Option Value} {o : Obj} (st : σ) (T : KtsTurn (frs outer) g g') (ho : ob (i + 1) o)
    (G : Gd K p loose mean mg mb A₀ base outer L m' g' h ((I, o) :: led st)) (e : ∀ y, m' y = ovr (vals st) m y) (hI : ∀ q ∈ led st, q.1 ≠ I) (hp : P (i + 1) st) (f : Flow) (hf : f = .next ∨ f = .cont) :
    ForEndG K p loose mean mg mb A₀ base outer L m g vals led P I ob s i Q f { s with heap := h, toks := tk } := by
  have z : ∃ g' st o h' tk', KtsTurn (frs outer) g g' ∧ ({ s with heap := h, toks := tk } : Shared) = { s with heap := h', toks := tk' } ∧ ob (i + 1) o ∧ Gd K p loose mean mg mb A₀ base outer L (ovr (vals st) m) g' h' ((I, o) :: led st) ∧ (∀ q ∈ led st, q.1 ≠ I) ∧ P (i + 1) st :=
    ⟨g', st, o, h, tk, T, rfl, ho, (funext e : m' = _) ▸ G, hI, hp⟩
  rcases hf with rfl | rfl <;> exact z
theorem loop_G2 {σ : Type} {n : Nat} {ob : Nat → Obj → Prop} {need : Heap → Prop} {V : Nat → Value → Prop} (W : It2 prog w n ob need V) {target : PySem.Expr} {body : List Stmt} {Q : Flow → Shared → Prop} {I : Addr} {o₀ : Obj} (vals : σ → List (Str × Option Value)) (led : σ → List (Addr × Obj)) (P : Nat → σ → Prop) (i₀ : Nat) (st₀ : σ)
    (hh : A.handled = none) (ho : ob i₀ o₀) (G : Gd K p loose mean mg mb A₀ base outer L m g s.heap ((I, o₀) :: led st₀)) (hs : ∀ p ∈ vals st₀, p.2 = m p.1) (hI : ∀ q ∈ led st₀, q.1 ≠ I) (hneed : ∀ i st g h, P i st → News g L h (led st) → need h) (hp : P i₀ st₀) (hi : i₀ ≤ n)
    (turn : ∀ i v st o g' h tk, i < n → V i v → P i st → KtsTurn (frs outer) g g' → (∀ q ∈ led st, q.1 ≠ I) → ob (i + 1) o → Gd K p loose mean mg mb A₀ base outer L (ovr (vals st) m) g' h ((I, o) :: led st) →
      wpAny (model prog w) A (letOwnedTupleGo target (.ref I) v) (fun _ s₁ => wpAny (model prog w) A (assign target env v) (fun _ s₂ => wpAny (model prog w) A (execs body env) (ForEndG K p loose mean mg mb A₀ base outer L m g vals led P I ob s i Q) E s₂) E s₁) E { s with heap := h, toks := tk })
    (done : ∀ st g' h tk, P n st → KtsTurn (frs outer) g g' → Gd K p loose mean mg mb A₀ base outer L (ovr (vals st) m) g' h (led st) → Q .next { s with heap := h, toks := tk })
    (hE : PassesOwn (model prog w) A env E) :
    codeAny (model prog w) A (.forLoop target (.ref I) body [] env) (fun r s' => match r with | .ok f => Q f s' | .error e => cameBackBy (model prog w) A env E e s') s := by
  refine codeAny_forLoop_any (fun k s' => ∃ i st o g' h tk, k = n - i ∧ i ≤ n ∧ s' = { s with heap := h, toks := tk } ∧ KtsTurn (frs outer) g g' ∧ ob i o ∧ Gd K p loose mean mg mb A₀ base outer L (ovr (vals st) m) g' h ((I, o) :: led st) ∧ (∀ q ∈ led st, q.1 ≠ I) ∧ P i st) ?_ (n - i₀)
    ⟨i₀, st₀, o₀, g, s.heap, s.toks, rfl, hi, rfl, KtsTurn.refl, ho, (funext fun y => (ovr_self (vals st₀) m y hs).symm : m = ovr (vals st₀) m) ▸ G, hI, hp⟩
  rintro k s' ⟨i, st, o, g', h, tk, rfl, hin, rfl, T, ho', G', hI', hp'⟩
  have hnd : need h := hneed i st g' h hp' fun q hq => G'.N q (.tail _ hq)
  have hIo : ∃ o, h.get? I = some o ∧ ob i o := ⟨o, (G'.N _ (.head _)).1, ho'⟩
  by_cases hlt : i < n
  · refine W.item _ _ _ _ I i hlt hIo hnd fun v h' tk' hV e sb => ?_
    obtain ⟨F1, o1, ho1, N1⟩ := upd_head2 G'.F G'.N hI' e sb
    refine wpAny_passesOwn hE (wpAny_mono (turn i v st o1 g' h' tk' hlt hV hp' T hI' ho1 (G'.with F1 N1)) (fun _ s₁ h₁ => ?_) fun _ _ z => z)
    refine wpAny_passesOwn hE (wpAny_mono h₁ (fun _ s₂ h₂ => ?_) fun _ _ z => z)
    refine wpAny_passesOwn hE (wpAny_mono h₂ (fun f s₃ h₃ => ?_) fun _ _ z => z)
    have fin : (∃ g' st o h tk, KtsTurn (frs outer) g g' ∧ s₃ = { s with heap := h, toks := tk } ∧ ob (i + 1) o ∧ Gd K p loose mean mg mb A₀ base outer L (ovr (vals st) m) g' h ((I, o) :: led st) ∧ (∀ q ∈ led st, q.1 ≠ I) ∧ P (i + 1) st) →
        ∃ k', k' < n - i ∧ ∃ i st o g' h tk, k' = n - i ∧ i ≤ n ∧ s₃ = { s with heap := h, toks := tk } ∧ KtsTurn (frs outer) g g' ∧ ob i o ∧ Gd K p loose mean mg mb A₀ base outer L (ovr (vals st) m) g' h ((I, o) :: led st) ∧ (∀ q ∈ led st, q.1 ≠ I) ∧ P i st := by
      rintro ⟨g2, st2, o2, h2, tk2, a1, a2, a3, a4, a5, a6⟩
      exact ⟨n - (i + 1), by lia, i + 1, st2, o2, g2, h2, tk2, rfl, hlt, a2, a1, a3, a4, a5, a6⟩
    cases f with
    | brk => exact h₃
    | ret v => exact h₃
    | next => exact fin h₃
    | cont => exact fin h₃
  · have e : i = n := by lia
    subst e
    refine W.done _ _ _ _ I hh hIo hnd fun h' ex => ?_
    refine wpAny_execs_nil ?_
    obtain ⟨F1, N1⟩ := ext_head2 G'.F G'.N hI' ex
    exact done st g' h' tk hp' T (G'.with F1 N1)
section
variable {σ : Type} {target : PySem.Expr} {body : List Stmt} {Q : Flow → Shared → Prop} {led₀ : List (Addr × Obj)}
theorem forAt_keyG {d : Addr} {o : Obj} {kvs : List (Int × Value)} (vals : σ → List (Str × Option Value)) (led : σ → List (Addr × Obj)) (P : Nat → σ → Prop) (st₀ : σ)
    (hh : A.handled = none) (G : Gd K p loose mean mg mb A₀ base outer L m g s.heap led₀) (hd : (d, o) ∈ led₀) (hmod : (d == sysModules) = false) (hdict : o.IsDictOf (PySem.intKind prog w) kvs) (hs : ∀ p ∈ vals st₀, p.2 = m p.1) (hl : ∀ q ∈ led st₀, q ∈ led₀) (hneed : ∀ i st, P i st → (d, o) ∈ led st) (hp : P 0 st₀)
    (turn : ∀ I ep i k t st oI g' h tk, (∀ q ∈ led₀, q.1 < I) → i < kvs.length → (∃ v, kvs[i]? = some (k, v)) → P i st → KtsTurn (frs outer) g g' → (∀ q ∈ led st, q.1 ≠ I) → obKey d kvs.length ep (i + 1) oI → Gd K p loose mean mg mb A₀ base outer L (ovr (vals st) m) g' h ((I, oI) :: led st) →
      wpAny (model prog w) A (letOwnedTupleGo target (.ref I) (.int k t)) (fun _ s₁ => wpAny (model prog w) A (assign target env (.int k t)) (fun _ s₂ => wpAny (model prog w) A (execs body env) (ForEndG K p loose mean mg mb A₀ base outer L m g vals led P I (obKey d kvs.length ep) s i Q) E s₂) E s₁) E { s with heap := h, toks := tk })
    (done : ∀ st g' h tk, P kvs.length st → KtsTurn (frs outer) g g' → Gd K p loose mean mg mb A₀ base outer L (ovr (vals st) m) g' h (led st) → Q .next { s with heap := h, toks := tk })
    (hE : PassesOwn (model prog w) A env E := by passes_own) : ForAt prog w A target body env Q E (.ref d) s := by
  unfold ForAt
  obtain ⟨ep, hda⟩ := (Heap.dictOf_iff.mpr ⟨o, (G.N _ hd).1, hdict⟩ : s.heap.DictOf (PySem.intKind prog w) d _).dictAt
  refine wpAny_pyIter_dict hmod hda ?_
  have F1 := G.F.push { cls := .type "dict_keyiterator", data := .fields #[.ref d, .int 0 0, .int kvs.length 0, .int ep 0] }
  have N1 := News.push G.F G.N { cls := .type "dict_keyiterator", data := .fields #[.ref d, .int 0 0, .int kvs.length 0, .int ep 0] }
  refine loop_G2 (s := ⟨_, s.gens, s.drawn, s.toks, s.os⟩) (it2_key (PySem.intKind prog w) d kvs ep) vals led P 0 st₀ hh (o₀ := { cls := .type "dict_keyiterator", data := .fields #[.ref d, .int 0 0, .int kvs.length 0, .int ep 0] }) ⟨rfl, rfl⟩ (G.with F1 fun q hq => by
    rcases List.mem_cons.mp hq with rfl | hq
    · exact N1 _ (.head _)
    · exact N1 _ (.tail _ (hl q hq))) hs (fun q hq => Nat.ne_of_lt (Heap.lt_size (G.N q (hl q hq)).1)) (fun i st g h hp N => ?_) hp (Nat.zero_le _) ?_ done hE
  · obtain ⟨od, es, hod, r⟩ := hda
    have e := (G.N _ hd).1
    rw [hod] at e
    cases e
    exact ⟨_, es, (N _ (hneed i st hp)).1, r⟩
  · rintro i v st oI g' h tk hi ⟨⟨k, u⟩, hq, hk⟩ hp' T hI ho G'
    have : ∃ t, v = .int k t := Value.isInt_shape hk
    obtain ⟨t, rfl⟩ := this
    exact turn _ ep i k t st oI g' h tk (fun q hq => Heap.lt_size (G.N q hq).1) hi ⟨u, hq⟩ hp' T hI ho G'
end
end
end

section
open PySem PySem.W PyProof.Rows PySem.Calls
theorem freshG10 : True := by
  w_top off
  trivial
section
variable {prog : Program} {w : World} {A : Around} {E : Value → Shared → Prop} {s : Shared} {h₀ : Heap} {L l D : Addr} {m : Str → Option Value} {rest : List (Addr × Obj)} {its : Array Value} {n : Nat} {Q : Value → Shared → Prop}
theorem tupleK (F : Fr h₀ L s.heap m) (N : News h₀ L s.heap rest) (hl : (l, listOf its n) ∈ rest) (hz : its.size ≤ sizeLine)
    (h : ∀ T h', Fr h₀ L h' m → News h₀ L h' ((T, tupOf its 0) :: rest) → (∀ q ∈ rest, q.1 < T) → Q (.ref T) { s with heap := h' }) : wpAny (model prog w) A (call (.type "tuple") [.ref l]) Q E s := by
  refine call_tuple_list ⟨_, (N _ hl).1, rfl, n, rfl⟩ (fun h' hk => ?_) hz
  have F' : Fr h₀ L h' m := F.keeps hk
  have N' : News h₀ L h' rest := fun p hp => ⟨hk _ _ (N p hp).1, (N p hp).2⟩
  exact h _ _ (F'.push _) (N'.push F' _) fun q hq => Heap.lt_size (N' q hq).1
theorem clearK (F : Fr h₀ L s.heap m) (N : News h₀ L s.heap ((D, listOf its n) :: rest)) (hD : ∀ q ∈ rest, q.1 ≠ D) (hz : its.size ≤ sizeLine)
    (h : ∀ h' n', Fr h₀ L h' m → News h₀ L h' ((D, listOf #[] n') :: rest) → Q .none { s with heap := h' }) : wpAny (model prog w) A (call (.builtin "list.clear") [.ref D]) Q E s := by
  have z := N _ (.head _)
  have e := IsL.update (h := s.heap) (l := D) (items := its) (n := n) z.1 (fun _ => #[])
  obtain ⟨a, b⟩ := upd_head F N hD (h' := s.heap.update D (Obj.mapSeq fun _ => #[])) e (Heap.SameBut.update ..)
  exact call_meets PySem.F.slot_list_clear ⟨_, z.1, rfl⟩ PySem.F.entry_list_clear (PySem.F.args_list_clear_1 _) (PySem.AutoSeq1.list_clear_list_0 D its n hz) ⟨z.1, h _ _ a b⟩
theorem len_tupK {t : Addr} (N : News h₀ L s.heap rest) (hp : (t, tupOf its n) ∈ rest) (hz : its.size ≤ sizeLine) (h : Q (.int its.size (s.toks + 1)) { s with toks := s.toks + 1 + 1 }) :
    wpAny (model prog w) A (call (.builtin "len") [.ref t]) Q E s :=
  len_tuple ⟨_, (N _ hp).1, rfl, n, rfl⟩ (by rw [sizeLine_eq] at hz; lia) h
end
end

section
open PySem PySem.W PyProof.Rows PySem.Calls
theorem freshPR : True := by
  w_top off
  trivial
/-- a list's items are pairs of ints, the ledger bears them -/
inductive PairsAre (led : List (Addr × Obj)) : List Value → List (Int × Int) → Prop
  | nil : PairsAre led [] []
  | cons {a : Addr} {k : Nat} {x y : Int} {t u : Tok} {vs : List Value} {ps : List (Int × Int)} : (a, tupOf #[.int x t, .int y u] k) ∈ led → PairsAre led vs ps → PairsAre led (.ref a :: vs) ((x, y) :: ps)
theorem PairsAre.mono {led led' : List (Addr × Obj)} (h : ∀ q ∈ led, q ∈ led') : ∀ {vs : List Value} {ps : List (Int × Int)}, PairsAre led vs ps → PairsAre led' vs ps
  | _, _, .nil => .nil
  | _, _, .cons a b => .cons (h _ a) (PairsAre.mono h b)
theorem PairsAre.length {led : List (Addr × Obj)} : ∀ {vs : List Value} {ps : List (Int × Int)}, PairsAre led vs ps → vs.length = ps.length
  | _, _, .nil => rfl
  | _, _, .cons _ b => congrArg (· + 1) (PairsAre.length b)
theorem PairsAre.snoc {led : List (Addr × Obj)} {a : Addr} {k : Nat} {x y : Int} {t u : Tok} (h : (a, tupOf #[.int x t, .int y u] k) ∈ led) : ∀ {vs : List Value} {ps : List (Int × Int)}, PairsAre led vs ps → PairsAre led (vs ++ [.ref a]) (ps ++ [(x, y)])
  | _, _, .nil => .cons h .nil
  | _, _, .cons a b => .cons a (PairsAre.snoc h b)
theorem PairsAre.get {led : List (Addr × Obj)} : ∀ {vs : List Value} {ps : List (Int × Int)}, PairsAre led vs ps → ∀ (i : Nat) (v : Value), vs[i]? = some v → ∃ a k x y t u, v = .ref a ∧ (a, tupOf #[.int x t, .int y u] k) ∈ led ∧ ps[i]? = some (x, y)
  | _, _, .nil, i, v, h => by simp at h
  | _, _, .cons a b, 0, v, h => by
    simp only [List.getElem?_cons_zero, Option.some.injEq] at h
    exact ⟨_, _, _, _, _, _, h.symm, a, rfl⟩
  | _, _, .cons a b, i + 1, v, h => by
    simp only [List.getElem?_cons_succ] at h
    exact PairsAre.get b i v h
end

section
open PySem PySem.W PyProof.Rows PySem.Calls
theorem freshCP : True := by
  w_top off
  trivial
section
open PyProof.Rows.LCg
variable {prog : Program} {w : World} {A : Around} {E : Value → Shared → Prop} {s : Shared} {h₀ : Heap} {L : Addr} {m : Str → Option Value} {env : Env}
/-- a list comprehension at its source -/
noncomputable def CPost (prog : Program) (w : World) (A : Around) (env : Env) (e : PySem.Expr) (scope : Scope) (cl : List (Str × Addr)) (Q : Value → Shared → Prop) (E : Value → Shared → Prop) (xv : Value) (s₁ : Shared) : Prop :=
  wpAny (model prog w) A (pyIter xv) (fun it s₂ => wpAny (model prog w) A (newList []) (fun acc s₃ => wpAny (model prog w) A (newFunctionEnv scope env.globals cl [] env.qual none .none (some env)) (fun cenv s₄ =>
    codeAny (model prog w) A (.compStart e 0 it acc { cenv with scope := relabel scope env }) (compPost (model prog w) A E none Q acc cenv.locals) s₄) E s₃) E s₂) E s₁
theorem comp_in {elt target iter : PySem.Expr} {tests : List PySem.Expr} {scope : Scope} {cl : List (Str × Addr)} {pos : Pos} {Q : Value → Shared → Prop}
    (hclos : closureFor scope env = pure cl) (hkind : scope.kind = .function) (hnames : ∀ y ∈ scope.names, y.2 = .local → scope.names.lookup y.1 = some .local)
    (h : wpAny (model prog w) A (eval iter env) (CPost prog w A env (.ListComp elt [⟨target, iter, tests, 0⟩] scope pos) scope cl Q E) E s)
    (hs : ∀ x, foldedSetIterable iter env x = pure x := by intro _; rfl) :
    wpAny (model prog w) A (eval (.ListComp elt [⟨target, iter, tests, 0⟩] scope pos) env) Q E s := by
  rw [eval_ListComp]
  exact wpAny_comprehension_free (use := none) rfl hs hclos hkind hnames h
/-- how a turn of a comprehension ends -/
noncomputable def CTurn {σ : Type} (h₀ : Heap) (L : Addr) (m : Str → Option Value) (led : σ → List (Addr × Obj)) (P : Nat → List Value → σ → Prop) (ob : Nat → Obj → Prop) (I C D : Addr) (ys : List Value) (s : Shared) (i : Nat) (ys' : List Value) (s' : Shared) : Prop :=
  ∃ st oI oC m₂ h tk, s' = { s with heap := h, toks := tk } ∧ ob (i + 1) oI ∧ NsObj oC m₂ ∧ Fr h₀ L h m ∧ News h₀ L h ((I, oI) :: (C, oC) :: (D, lst ys) :: led st) ∧ (∀ q ∈ led st, q.1 ≠ I ∧ q.1 ≠ C ∧ q.1 ≠ D) ∧ P (i + 1) ys' st
theorem comp_at {σ : Type} {elt target iter ct : PySem.Expr} {scope : Scope} {cl : List (Str × Addr)} {pos : Pos} {Q : Value → Shared → Prop} {ax : Addr} {vs : List Value} {k : Nat} {led₀ : List (Addr × Obj)} (led : σ → List (Addr × Obj)) (P : Nat → List Value → σ → Prop) (st₀ : σ)
    (hcell : ∀ y ∈ scope.names, y.2 ≠ .cell) (hkind : scope.kind = .function) (hh : A.handled = none) (hsz : vs.length ≤ 1000000)
    (F : Fr h₀ L s.heap m) (N : News h₀ L s.heap led₀) (hax : (ax, listOf vs.toArray k) ∈ led₀) (hl : ∀ q ∈ led st₀, q ∈ led₀) (hneed : ∀ i ys st, P i ys st → (ax, listOf vs.toArray k) ∈ led st) (hp : P 0 [] st₀)
    (turn : ∀ I C D i v st ys oI oC m₂ h tk (E' : Value → Shared → Prop), vs[i]? = some v → P i ys st → obList ax (i + 1) oI → NsObj oC m₂ → Fr h₀ L h m → News h₀ L h ((I, oI) :: (C, oC) :: (D, lst ys) :: led st) → (∀ q ∈ led st, q.1 ≠ I ∧ q.1 ≠ C ∧ q.1 ≠ D) → I ≠ C → I ≠ D → C ≠ D → L ≠ C → h₀.get? C = none →
      wpAny (model prog w) A (letOwnedTupleGo target (.ref I) v) (fun _ s₁ => wpAny (model prog w) A (assign target (compEnvC scope cl C env) v) (fun _ s₂ => wpAny (model prog w) A (isTrue ct (compEnvC scope cl C env) (eval ct (compEnvC scope cl C env))) (fun ok s₃ => if ok = true then
        wpAny (model prog w) A (eval elt (compEnvC scope cl C env)) (fun y s₄ => CTurn h₀ L m led P (obList ax) I C D ys s i (ys ++ [y]) s₄) E' s₃ else CTurn h₀ L m led P (obList ax) I C D ys s i ys s₃) E' s₂) E' s₁) E' { s with heap := h, toks := tk })
    (fin : ∀ D st ys h tk, P vs.length ys st → Fr h₀ L h m → News h₀ L h ((D, lst ys) :: led st) → (∀ q ∈ led st, q.1 ≠ D) → Q (.ref D) { s with heap := h, toks := tk }) :
    CPost prog w A env (.ListComp elt [⟨target, iter, [ct], 0⟩] scope pos) scope cl Q E (.ref ax) s := by
  unfold CPost
  refine wpAny_pyIter_list ⟨_, (N _ hax).1, rfl, _, rfl⟩ ?_
  have F1 := F.push { cls := .type "list_iterator", data := .fields #[.ref ax, .int 0 0] }
  have N1 := News.push F N { cls := .type "list_iterator", data := .fields #[.ref ax, .int 0 0] }
  have hlt : ∀ q ∈ led st₀, q.1 < s.heap.objs.size := fun q hq => Heap.lt_size (N q (hl q hq)).1
  have hLlt : L < s.heap.objs.size := F.ns.lt
  have N1' : News h₀ L (s.heap.push { cls := .type "list_iterator", data := .fields #[.ref ax, .int 0 0] }) ((s.heap.objs.size, { cls := .type "list_iterator", data := .fields #[.ref ax, .int 0 0] }) :: led st₀) := fun q hq => by
    rcases List.mem_cons.mp hq with rfl | hq
    · exact N1 _ (.head _)
    · exact N1 _ (.tail _ (hl q hq))
  generalize hH1 : s.heap.push { cls := .type "list_iterator", data := .fields #[.ref ax, .int 0 0] } = H1 at F1 N1'
  have hs1 : H1.objs.size = s.heap.objs.size + 1 := by rw [← hH1, Heap.size_push]
  generalize s.heap.objs.size = I at *
  have F2 := F1.push (lst [])
  have N2 := News.push F1 N1' (lst [])
  refine wpAny_newObj_type (wpAny_newFunctionEnv hcell (by intro y hy; simp at hy) (fun h₁ hns₁ hsb₁ => ?_) hkind)
  dsimp only at hns₁ hsb₁ ⊢
  have e2 : ({ cls := .type "list", dict := none, data := .seq ([] : List Value).toArray } : Obj) = lst [] := rfl
  rw [e2] at hns₁ hsb₁
  generalize hH2 : H1.push (lst []) = H2 at F2 N2 hns₁ hsb₁
  have hs2 : H2.objs.size = H1.objs.size + 1 := by rw [← hH2, Heap.size_push]
  have F3 := F2.push { cls := .type "dict", data := .dict #[] }
  have N3 := News.push F2 N2 { cls := .type "dict", data := .dict #[] }
  have hCm := N3 _ (.head _)
  have F4 : Fr h₀ L h₁ m := F3.change hsb₁ hCm.2.1 hCm.2.2
  obtain ⟨oC, hC1, hC2⟩ := ns_obj hns₁
  have N4 : News h₀ L h₁ ((I, { cls := .type "list_iterator", data := .fields #[.ref ax, .int 0 0] }) :: (H2.objs.size, oC) :: (H1.objs.size, lst []) :: led st₀) := by
    have up : ∀ q ∈ (H1.objs.size, lst []) :: (I, ({ cls := .type "list_iterator", data := .fields #[.ref ax, .int 0 0] } : Obj)) :: led st₀, h₁.get? q.1 = some q.2 ∧ q.1 ≠ L ∧ h₀.get? q.1 = none := fun q hq =>
      ⟨(hsb₁.2 _ (Nat.ne_of_lt (Heap.lt_size (N2 q hq).1))).trans (N3 q (.tail _ hq)).1, (N2 q hq).2⟩
    intro q hq
    rcases List.mem_cons.mp hq with rfl | hq
    · exact up _ (.tail _ (.head _))
    · rcases List.mem_cons.mp hq with rfl | hq
      · exact ⟨hC1, hCm.2⟩
      · rcases List.mem_cons.mp hq with rfl | hq
        · exact up _ (.head _)
        · exact up _ (.tail _ (.tail _ hq))
  have ap0 : ∀ q ∈ led st₀, q.1 ≠ I ∧ q.1 ≠ H2.objs.size ∧ q.1 ≠ H1.objs.size := fun q hq => by
    have := hlt q hq
    refine ⟨Nat.ne_of_lt this, Nat.ne_of_lt ?_, Nat.ne_of_lt ?_⟩
    · rw [hs2, hs1]; exact Nat.lt_of_lt_of_le this (by lia)
    · rw [hs1]; exact Nat.lt_of_lt_of_le this (by lia)
  have hIC : I ≠ H2.objs.size := by rw [hs2, hs1]; exact Nat.ne_of_lt (by lia)
  have hID : I ≠ H1.objs.size := by rw [hs1]; exact Nat.ne_of_lt (by lia)
  have hCD : H2.objs.size ≠ H1.objs.size := by rw [hs2]; exact Nat.ne_of_gt (by lia)
  have hCL : H2.objs.size ≠ L := hCm.2.1
  have hC0 : h₀.get? H2.objs.size = none := hCm.2.2
  generalize H2.objs.size = C at *
  generalize H1.objs.size = D at *
  have loop : ∀ s₃ : Shared, (∃ tk, s₃ = { s with heap := h₁, toks := tk }) →
      codeAny (model prog w) A (.compLoop (.ListComp elt [⟨target, iter, [ct], 0⟩] scope pos) 0 (.ref I) (.ref D) (compEnvC scope cl C env)) (compPost (model prog w) A E none Q (.ref D) C) s₃ := by
    rintro s₃ ⟨tk3, rfl⟩
    refine kct_loop (fun n s' => ∃ i ys st oI oC m' h tk, n = vs.length + 1 - i ∧ i ≤ vs.length ∧ ys.length ≤ i ∧ s' = { s with heap := h, toks := tk } ∧ obList ax i oI ∧ NsObj oC m' ∧ Fr h₀ L h m ∧ News h₀ L h ((I, oI) :: (C, oC) :: (D, lst ys) :: led st) ∧ (∀ q ∈ led st, q.1 ≠ I ∧ q.1 ≠ C ∧ q.1 ≠ D) ∧ P i ys st) ?_ (vs.length + 1)
      ⟨0, [], st₀, _, oC, _, h₁, tk3, rfl, Nat.zero_le _, Nat.le_refl _, rfl, ⟨rfl, rfl⟩, hC2, F4, N4, ap0, hp⟩
    rintro n s' ⟨i, ys, st, oI, oC, m', h, tk, rfl, hi, hyl, rfl, hob, hns, F5, N5, ap, hp5⟩
    have hI : ∀ q ∈ (C, oC) :: (D, lst ys) :: led st, q.1 ≠ I := fun q hq => by
      rcases List.mem_cons.mp hq with rfl | hq
      · exact Ne.symm hIC
      · rcases List.mem_cons.mp hq with rfl | hq
        · exact Ne.symm hID
        · exact (ap q hq).1
    have hnd : h.IsList ax vs.toArray := ⟨_, (N5 _ (.tail _ (.tail _ (.tail _ (hneed _ _ _ hp5))))).1, rfl, _, rfl⟩
    by_cases hlt5 : i < vs.length
    · refine (it2_list ax vs.toArray).item _ _ _ _ I i (by simpa using hlt5) ⟨oI, (N5 _ (.head _)).1, hob⟩ hnd fun v h' tk' hV e sb => ?_
      obtain ⟨F6, o6, ho6, N6⟩ := upd_head2 F5 N5 hI e sb
      refine wpAny_mono (turn I C D i v st ys o6 oC m' h' tk' _ (by simpa using hV) hp5 ho6 hns F6 N6 ap hIC hID hCD (Ne.symm hCL) hC0) (fun _ s₁ h₁ => ?_) fun _ _ z => z
      refine wpAny_mono h₁ (fun _ s₂ h₂ => ?_) fun _ _ z => z
      refine wpAny_mono h₂ (fun ok s₃ h₃ => ?_) fun _ _ z => z
      cases ok with
      | false =>
        simp only [Bool.false_eq_true, if_false] at h₃ ⊢
        obtain ⟨st7, oI7, oC7, m7, h7, tk7, rfl, a1, a2, a3, a4, a5, a6⟩ := h₃
        exact ⟨vs.length + 1 - (i + 1), by lia, i + 1, ys, st7, oI7, oC7, m7, h7, tk7, rfl, hlt5, Nat.le_succ_of_le hyl, rfl, a1, a2, a3, a4, a5, a6⟩
      | true =>
        simp only [if_true] at h₃ ⊢
        refine wpAny_mono h₃ (fun y s₄ h₄ => ?_) fun _ _ z => z
        obtain ⟨st7, oI7, oC7, m7, h7, tk7, rfl, a1, a2, a3, a4, a5, a6⟩ := h₄
        have zD := a4 (D, lst ys) (.tail _ (.tail _ (.head _)))
        refine append_at (hsz := by show ys.toArray.size ≤ sizeLine; rw [List.size_toArray, sizeLine_eq]; lia) zD.1 fun h8 hs8 hD8 => ?_
        refine ⟨vs.length + 1 - (i + 1), by lia, i + 1, ys ++ [y], st7, oI7, oC7, m7, h8, _, rfl, hlt5, by rw [List.length_append, List.length_singleton]; lia, rfl, a1, a2, a3.change hs8 zD.2.1 zD.2.2, ?_, a5, a6⟩
        intro q hq
        rcases List.mem_cons.mp hq with rfl | hq
        · exact ⟨(hs8.2 _ hID).trans (a4 _ (.head _)).1, (a4 _ (.head _)).2⟩
        · rcases List.mem_cons.mp hq with rfl | hq
          · exact ⟨(hs8.2 _ hCD).trans (a4 _ (.tail _ (.head _))).1, (a4 _ (.tail _ (.head _))).2⟩
          · rcases List.mem_cons.mp hq with rfl | hq
            · exact ⟨hD8.trans (congrArg some (lst_snoc ys y)), zD.2⟩
            · exact ⟨(hs8.2 _ (a5 q hq).2.2).trans (a4 _ (.tail _ (.tail _ (.tail _ hq)))).1, (a4 _ (.tail _ (.tail _ (.tail _ hq)))).2⟩
    · obtain rfl : i = vs.length := Nat.le_antisymm hi (Nat.not_lt.mp hlt5)
      refine (it2_list ax vs.toArray).done _ _ _ _ I hh ⟨oI, (N5 _ (.head _)).1, by simpa using hob⟩ hnd fun h' ex => ?_
      obtain ⟨F6, N6⟩ := ext_head2 F5 N5 hI ex
      have zC := N6 (C, oC) (.head _)
      refine ⟨m', hns.ns zC.1, fun h'' hs'' => ?_⟩
      refine fin D st ys h'' tk hp5 (F6.change hs'' zC.2.1 zC.2.2) (fun q hq => ?_) fun q hq => (ap q hq).2.2
      refine ⟨(hs''.2 _ ?_).trans (N6 q (.tail _ hq)).1, (N6 q (.tail _ hq)).2⟩
      rcases List.mem_cons.mp hq with rfl | hq
      · exact Ne.symm hCD
      · exact (ap q hq).2.1
  exact codeAny_compStart_list (loop _ ⟨_, rfl⟩) (wpAny_pyIter_listiter ⟨_, (N4 _ (.head _)).1, rfl, rfl⟩ (loop _ ⟨_, rfl⟩))
end
end

section
open PySem PySem.W PyProof.Rows PySem.Calls
theorem freshCQ : True := by
  w_top off
  trivial
section
open PyProof.Rows.LCg
variable {prog : Program} {w : World} {A : Around} {E : Value → Shared → Prop} {s : Shared} {h₀ : Heap} {L : Addr} {m : Str → Option Value} {env : Env}
theorem comp_pairs {σ : Type} {elt iter ct : PySem.Expr} {a b : Str} {pa pb tp : Pos} {kk : Nat} {scope : Scope} {cl : List (Str × Addr)} {pos : Pos} {Q : Value → Shared → Prop} {ax : Addr} {vs : List Value} {ps : List (Int × Int)} {k : Nat} {led₀ : List (Addr × Obj)} (led : σ → List (Addr × Obj)) (P : Nat → List Value → σ → Prop) (st₀ : σ)
    (hcell : ∀ y ∈ scope.names, y.2 ≠ .cell) (hkind : scope.kind = .function) (hxa : scope.names.lookup a = some .local) (hxb : scope.names.lookup b = some .local) (hab : ¬ a = b) (hh : A.handled = none) (hsz : vs.length ≤ 1000000)
    (F : Fr h₀ L s.heap m) (N : News h₀ L s.heap led₀) (hax : (ax, listOf vs.toArray k) ∈ led₀) (hl : ∀ q ∈ led st₀, q ∈ led₀) (hneed : ∀ i ys st, P i ys st → (ax, listOf vs.toArray k) ∈ led st ∧ PairsAre (led st) vs ps) (hp : P 0 [] st₀)
    (turn : ∀ I C D i x y t u st ys oI oC m₂ h tk (E' : Value → Shared → Prop), ps[i]? = some (x, y) → P i ys st → obList ax (i + 1) oI → NsObj oC m₂ → m₂ a = some (.int x t) → m₂ b = some (.int y u) → Fr h₀ L h m → News h₀ L h ((I, oI) :: (C, oC) :: (D, lst ys) :: led st) → (∀ q ∈ led st, q.1 ≠ I ∧ q.1 ≠ C ∧ q.1 ≠ D) → I ≠ C → I ≠ D → C ≠ D →
      wpAny (model prog w) A (isTrue ct (compEnvC scope cl C env) (eval ct (compEnvC scope cl C env))) (fun ok s₃ => if ok = true then
        wpAny (model prog w) A (eval elt (compEnvC scope cl C env)) (fun y s₄ => CTurn h₀ L m led P (obList ax) I C D ys s i (ys ++ [y]) s₄) E' s₃ else CTurn h₀ L m led P (obList ax) I C D ys s i ys s₃) E' { s with heap := h, toks := tk })
    (fin : ∀ D st ys h tk, P vs.length ys st → Fr h₀ L h m → News h₀ L h ((D, lst ys) :: led st) → (∀ q ∈ led st, q.1 ≠ D) → Q (.ref D) { s with heap := h, toks := tk }) :
    CPost prog w A env (.ListComp elt [⟨.Tuple [.Name a pa, .Name b pb] kk tp, iter, [ct], 0⟩] scope pos) scope cl Q E (.ref ax) s := by
  refine comp_at led P st₀ hcell hkind hh hsz F N hax hl (fun i ys st h => (hneed i ys st h).1) hp ?_ fin
  intro I C D i v st ys oI oC m₂ h tk E' hv hp' hob hns F' N' ap hIC hID hCD hLC hC0
  obtain ⟨t, kt, x, y, tx, ty, rfl, hmt, hpi⟩ := (hneed i ys st hp').2.get i v hv
  refine wpAny_letOwnedTupleGo_listiter ⟨oI, (N' _ (.head _)).1, hob.1, hob.2⟩ ?_
  have hT : h.IsTuple t #[.int x tx, .int y ty] := ⟨_, (N' _ (.tail _ (.tail _ (.tail _ hmt)))).1, rfl, _, rfl⟩
  refine kcp_assign (env := compEnvC scope cl C env) hh hT (lookup_relabel_local hxa) (lookup_relabel_local hxb) (by simp [compEnvC, relabel, hkind]) (hns.ns (N' _ (.tail _ (.head _))).1) fun h2 tk2 hn2 hs2 => ?_
  obtain ⟨oC2, hC2, hns2⟩ := ns_obj hn2
  have F2 : Fr h₀ L h2 m := ⟨F'.ns.at' fun o e => hs2 _ o hLC e, fun b o e => hs2 b o (fun q => by rw [show b = C from q, hC0] at e; cases e) (F'.keep b o e), F'.above⟩
  refine turn I C D i x y tx ty st ys oI oC2 _ h2 tk2 E' hpi hp' hob hns2 (by simp [hab]) (by simp) F2 (fun q hq => ?_) ap hIC hID hCD
  rcases List.mem_cons.mp hq with rfl | hq
  · exact ⟨hs2 _ _ hIC (N' _ (.head _)).1, (N' _ (.head _)).2⟩
  · rcases List.mem_cons.mp hq with rfl | hq
    · exact ⟨hC2, (N' _ (.tail _ (.head _))).2⟩
    · have z := N' q (.tail _ (.tail _ hq))
      refine ⟨hs2 _ _ ?_ z.1, z.2⟩
      rcases List.mem_cons.mp hq with rfl | hq
      · exact Ne.symm hCD
      · exact (ap q hq).2.1
theorem comp_name {σ : Type} {elt iter ct : PySem.Expr} {x : Str} {px : Pos} {scope : Scope} {cl : List (Str × Addr)} {pos : Pos} {Q : Value → Shared → Prop} {ax : Addr} {vs : List Value} {k : Nat} {led₀ : List (Addr × Obj)} (led : σ → List (Addr × Obj)) (P : Nat → List Value → σ → Prop) (st₀ : σ)
    (hcell : ∀ y ∈ scope.names, y.2 ≠ .cell) (hkind : scope.kind = .function) (hx : scope.names.lookup x = some .local) (hh : A.handled = none) (hsz : vs.length ≤ 1000000)
    (F : Fr h₀ L s.heap m) (N : News h₀ L s.heap led₀) (hax : (ax, listOf vs.toArray k) ∈ led₀) (hl : ∀ q ∈ led st₀, q ∈ led₀) (hneed : ∀ i ys st, P i ys st → (ax, listOf vs.toArray k) ∈ led st) (hp : P 0 [] st₀)
    (turn : ∀ I C D i v st ys oI oC m₂ h tk (E' : Value → Shared → Prop), vs[i]? = some v → P i ys st → obList ax (i + 1) oI → NsObj oC m₂ → m₂ x = some v → Fr h₀ L h m → News h₀ L h ((I, oI) :: (C, oC) :: (D, lst ys) :: led st) → (∀ q ∈ led st, q.1 ≠ I ∧ q.1 ≠ C ∧ q.1 ≠ D) → I ≠ C → I ≠ D → C ≠ D →
      wpAny (model prog w) A (isTrue ct (compEnvC scope cl C env) (eval ct (compEnvC scope cl C env))) (fun ok s₃ => if ok = true then
        wpAny (model prog w) A (eval elt (compEnvC scope cl C env)) (fun y s₄ => CTurn h₀ L m led P (obList ax) I C D ys s i (ys ++ [y]) s₄) E' s₃ else CTurn h₀ L m led P (obList ax) I C D ys s i ys s₃) E' { s with heap := h, toks := tk })
    (fin : ∀ D st ys h tk, P vs.length ys st → Fr h₀ L h m → News h₀ L h ((D, lst ys) :: led st) → (∀ q ∈ led st, q.1 ≠ D) → Q (.ref D) { s with heap := h, toks := tk }) :
    CPost prog w A env (.ListComp elt [⟨.Name x px, iter, [ct], 0⟩] scope pos) scope cl Q E (.ref ax) s := by
  refine comp_at led P st₀ hcell hkind hh hsz F N hax hl hneed hp ?_ fin
  intro I C D i v st ys oI oC m₂ h tk E' hv hp' hob hns F' N' ap hIC hID hCD hLC hC0
  refine wpAny_of_eq (rfl : letOwnedTupleGo (.Name x px) (.ref I) v = pure ()) ?_
  refine wpAny_assign_Name (wpAny_storeName_local (lookup_relabel_local hx) (hns.ns (N' _ (.tail _ (.head _))).1) (fun h2 hn2 hs2 => ?_) (by simp [compEnvC, relabel, hkind]))
  obtain ⟨oC2, hC2, hns2⟩ := ns_obj hn2
  have F2 : Fr h₀ L h2 m := F'.change hs2 (Ne.symm hLC) hC0
  refine turn I C D i v st ys oI oC2 _ h2 _ E' hv hp' hob hns2 (by simp) F2 (fun q hq => ?_) ap hIC hID hCD
  rcases List.mem_cons.mp hq with rfl | hq
  · exact ⟨(hs2.2 _ hIC).trans (N' _ (.head _)).1, (N' _ (.head _)).2⟩
  · rcases List.mem_cons.mp hq with rfl | hq
    · exact ⟨hC2, (N' _ (.tail _ (.head _))).2⟩
    · have z := N' q (.tail _ (.tail _ hq))
      refine ⟨(hs2.2 _ ?_).trans z.1, z.2⟩
      rcases List.mem_cons.mp hq with rfl | hq
      · exact Ne.symm hCD
      · exact (ap q hq).2.1
/-- a comprehension that picks ints of a list by a test -/
theorem comp_filter {iter ct : PySem.Expr} {x : Str} {px px2 : Pos} {scope : Scope} {cl : List (Str × Addr)} {pos : Pos} {Q : Value → Shared → Prop} {ax : Addr} {vs : List Value} {xs : List Int} {k : Nat} {led₀ : List (Addr × Obj)} (p : Int → Bool)
    (hcell : ∀ y ∈ scope.names, y.2 ≠ .cell) (hkind : scope.kind = .function) (hx : scope.names.lookup x = some .local) (hh : A.handled = none) (hsz : xs.length ≤ 1000000)
    (F : Fr h₀ L s.heap m) (N : News h₀ L s.heap led₀) (hax : (ax, listOf vs.toArray k) ∈ led₀) (hxs : IntsAre vs xs)
    (test : ∀ I C D v t ys oI oC m₂ h tk (E' : Value → Shared → Prop), v ∈ xs → NsObj oC m₂ → m₂ x = some (.int v t) → Fr h₀ L h m → News h₀ L h ((I, oI) :: (C, oC) :: (D, lst ys) :: led₀) →
      wpAny (model prog w) A (isTrue ct (compEnvC scope cl C env) (eval ct (compEnvC scope cl C env))) (fun ok s₃ => ok = p v ∧ ∃ h' tk', s₃ = { s with heap := h', toks := tk' } ∧ Fr h₀ L h' m ∧ News h₀ L h' ((I, oI) :: (C, oC) :: (D, lst ys) :: led₀)) E' { s with heap := h, toks := tk })
    (load : ∀ I C D v t ys oI oC m₂ h tk (E' : Value → Shared → Prop), NsObj oC m₂ → m₂ x = some (.int v t) → Fr h₀ L h m → News h₀ L h ((I, oI) :: (C, oC) :: (D, lst ys) :: led₀) →
      wpAny (model prog w) A (eval (.Name x px2) (compEnvC scope cl C env)) (fun y s₃ => y = .int v t ∧ ∃ h' tk', s₃ = { s with heap := h', toks := tk' } ∧ Fr h₀ L h' m ∧ News h₀ L h' ((I, oI) :: (C, oC) :: (D, lst ys) :: led₀)) E' { s with heap := h, toks := tk })
    (fin : ∀ D ys h tk, IntsAre ys (xs.filter p) → Fr h₀ L h m → News h₀ L h ((D, lst ys) :: led₀) → (∀ q ∈ led₀, q.1 ≠ D) → Q (.ref D) { s with heap := h, toks := tk }) :
    CPost prog w A env (.ListComp (.Name x px2) [⟨.Name x px, iter, [ct], 0⟩] scope pos) scope cl Q E (.ref ax) s := by
  refine comp_name (σ := Unit) (fun _ => led₀) (fun i ys _ => IntsAre ys ((xs.take i).filter p)) () hcell hkind hx hh (by rw [hxs.length]; exact hsz) F N hax (fun q hq => hq) (fun i ys st _ => hax) .nil ?_ ?_
  · intro I C D i v st ys oI oC m₂ h tk E' hv hp hob hns hm F' N' ap hIC hID hCD
    have hil : i < xs.length := by
      have := (List.getElem?_eq_some_iff.mp hv).1
      rw [hxs.length] at this; exact this
    obtain ⟨t, ht⟩ := hxs.get i xs[i] (by simp [hil])
    rw [ht] at hv
    obtain rfl := Option.some.inj hv
    have hst : (xs.take (i + 1)).filter p = (xs.take i).filter p ++ [xs[i]].filter p := by
      rw [List.take_add_one, List.getElem?_eq_getElem hil, Option.toList_some, List.filter_append]
    refine wpAny_mono (test I C D xs[i] t ys oI oC m₂ h tk E' (List.getElem_mem hil) hns hm F' N') (fun ok s₃ h₃ => ?_) fun _ _ z => z
    obtain ⟨rfl, h', tk', rfl, F3, N3⟩ := h₃
    cases hpv : p xs[i] with
    | true =>
      simp only [if_true]
      refine wpAny_mono (load I C D xs[i] t ys oI oC m₂ h' tk' E' hns hm F3 N3) (fun y s₄ h₄ => ?_) fun _ _ z => z
      obtain ⟨rfl, h'', tk'', rfl, F4, N4⟩ := h₄
      refine ⟨(), oI, oC, m₂, h'', tk'', rfl, hob, hns, F4, N4, ap, ?_⟩
      dsimp only
      rw [hst, List.filter_cons, if_pos hpv, List.filter_nil]
      exact IntsAre.append hp (.cons _ _ .nil)
    | false =>
      simp only [Bool.false_eq_true, if_false]
      refine ⟨(), oI, oC, m₂, h', tk', rfl, hob, hns, F3, N3, ap, ?_⟩
      dsimp only
      rw [hst, List.filter_cons, hpv]
      simpa using hp
  · intro D st ys h tk hp F' N' hD
    rw [hxs.length, List.take_length] at hp
    exact fin D ys h tk hp F' N' hD
end
end

section
open PySem PySem.W PyProof.Rows PySem.Calls
theorem freshGL1 : True := by
  w_top off
  trivial
section
variable {prog : Program} {w : World} {A : Around} {E : Value → Shared → Prop} {s : Shared} {h₀ : Heap} {L l D : Addr} {m : Str → Option Value} {rest : List (Addr × Obj)} {Q : Value → Shared → Prop}
theorem listTupK {its : Array Value} {n : Nat} (F : Fr h₀ L s.heap m) (N : News h₀ L s.heap rest) (hl : (l, tupOf its n) ∈ rest) (hz : its.size ≤ sizeLine)
    (h : ∀ T c h', Fr h₀ L h' m → News h₀ L h' ((T, listOf its c) :: rest) → (∀ q ∈ rest, q.1 < T) → Q (.ref T) { s with heap := h' }) : wpAny (model prog w) A (call (.type "list") [.ref l]) Q E s :=
  list_copyKT F N ⟨_, (N _ hl).1, rfl, n, rfl⟩ h hz
theorem neK {a b : Addr} {xs ys : List Value} {ns ms : List Int} {n k : Nat} (N : News h₀ L s.heap rest) (ha : (a, listOf xs.toArray n) ∈ rest) (hb : (b, listOf ys.toArray k) ∈ rest) (hi : IntsAre xs ns) (hj : IntsAre ys ms) (hu : A.units + 64 < cLine) (h : Q (.bool (!decide (ns = ms))) s) :
    wpAny (model prog w) A (compareOp .NotEq (.ref a) (.ref b)) Q E s :=
  ke_ne_ints ⟨_, (N _ ha).1, rfl, n, rfl⟩ ⟨_, (N _ hb).1, rfl, k, rfl⟩ hi hj hu h
theorem sortedK {vs : List Value} {ns : List Int} {n : Nat} (F : Fr h₀ L s.heap m) (N : News h₀ L s.heap rest) (hl : (l, listOf vs.toArray n) ∈ rest) (hi : IntsAre vs ns) (h64 : ns.length < 64)
    (h : ∀ D vs' ns' c h', Fr h₀ L h' m → News h₀ L h' ((D, listOf vs'.toArray c) :: rest) → (∀ q ∈ rest, q.1 < D) → IntsAre vs' ns' → ns'.Perm ns ∧ ns'.Pairwise (· ≤ ·) → Q (.ref D) { s with heap := h' }) :
    wpAny (model prog w) A (call (.builtin "sorted") [.ref l]) Q E s :=
  kso_sorted F N ⟨_, (N _ hl).1, rfl, n, rfl⟩ hi h64 fun D vs' ns' c h' F' N' l1 i' _ p' o' _ => h D vs' ns' c h' F' N' l1 i' ⟨p', o'⟩
theorem cut_at : ∀ (p : List Value) (y : Value) (q : List Value), kl_cut (p ++ y :: q) p.length = some (p, y, q)
  | [], _, _ => rfl
  | x :: p, y, q => by
    show kl_cut (x :: (p ++ y :: q)) (p.length + 1) = _
    unfold kl_cut
    rw [cut_at p y q]
theorem popAtK {i : Int} {u : Tok} {p q : List Value} {y : Value} {n : Nat} (F : Fr h₀ L s.heap m) (N : News h₀ L s.heap ((D, listOf (p ++ y :: q).toArray n) :: rest)) (hD : ∀ q ∈ rest, q.1 ≠ D) (hi : i = (p.length : Int)) (hz : (p ++ y :: q).length ≤ 1000)
    (h : ∀ h' n', Fr h₀ L h' m → News h₀ L h' ((D, listOf (p ++ q).toArray n') :: rest) → Q y { s with heap := h' }) : wpAny (model prog w) A (call (.builtin "list.pop") [.ref D, .int i u]) Q E s := by
  have hl : p.length < (p ++ y :: q).length := by rw [List.length_append, List.length_cons]; lia
  have z := N _ (.head _)
  have hy : (p ++ y :: q).toArray[p.length]? = some y := by simp
  have hk : seqIndex? i (p ++ y :: q).toArray.size = some p.length := by
    have hn : ¬ (i < 0) := by lia
    unfold seqIndex?
    simp only [if_neg hn]
    rw [if_pos]
    · rw [hi]; rfl
    · rw [List.size_toArray, Bool.and_eq_true, decide_eq_true_eq, decide_eq_true_eq]
      lia
  have hf : Builtin.List.listFitsIndex i = true := by
    unfold Builtin.List.listFitsIndex
    simp only [Bool.and_eq_true, decide_eq_true_eq]
    lia
  have hz' : (p ++ y :: q).toArray.size ≤ sizeLine := by rw [List.size_toArray]; rw [sizeLine_eq]; lia
  refine call_meets PySem.F.slot_list_pop ⟨_, z.1, rfl⟩ PySem.F.entry_list_pop (PySem.F.args_list_pop_2 _ _) (PySem.MeetsSeq.list_pop_at D _ n i u _ y hf hk hy hz') ⟨z.1, ?_⟩
  have e := PySem.IsL.update (h := s.heap) (l := D) (items := (p ++ y :: q).toArray) (n := n) z.1 (fun a => a.eraseIdxIfInBounds p.length)
  rw [kl_erase p q y] at e
  obtain ⟨a, b⟩ := upd_head F N hD (h' := s.heap.update D (Obj.mapSeq fun a => a.eraseIdxIfInBounds p.length)) e (Heap.SameBut.update ..)
  exact h _ _ a b
/-- a subscript of a list of ints at a place in bounds -/
theorem item_intsK {value slice : PySem.Expr} {u : Tok} {vs : List Value} {ns : List Int} {n k : Nat} {i : Int} (N : News h₀ L s.heap rest) (hm : (l, listOf vs.toArray n) ∈ rest) (hi : IntsAre vs ns) (hk : i = (k : Int)) (hlt : k < ns.length) (hz : ns.length ≤ 1000)
    (h : ∀ t, Q (.int (ns.getD k 0) t) s)
    (hs : subscripted slice false (.ref l) (.int i u) = operate [.ref l, .int i u] (getItem (.ref l) (.int i u)) := by with_unfolding_all rfl) :
    wpAny (model prog w) A (subscriptTail value slice (.ref l) (.int i u)) Q E s := by
  subst hk
  obtain ⟨t, ht⟩ := hi.get k (ns.getD k 0) (by rw [List.getD_eq_getElem?_getD, List.getElem?_eq_getElem hlt]; rfl)
  have hl : s.heap.IsList l vs.toArray := ⟨_, (N _ hm).1, rfl, n, rfl⟩
  exact tail_any hl.typeIs slot_list_getitem.lookup (wpAny_getItem_list hl (by lia) (by lia) (by simpa using ht) (h t)) hs
/-- a subscript of a list at a place in bounds -/
theorem item_atK {value slice : PySem.Expr} {u : Tok} {vs : List Value} {v : Value} {n k : Nat} {i : Int} (N : News h₀ L s.heap rest) (hm : (l, listOf vs.toArray n) ∈ rest) (hk : i = (k : Int)) (hv : vs[k]? = some v) (hz : vs.length ≤ 1000)
    (h : Q v s)
    (hs : subscripted slice false (.ref l) (.int i u) = operate [.ref l, .int i u] (getItem (.ref l) (.int i u)) := by with_unfolding_all rfl) :
    wpAny (model prog w) A (subscriptTail value slice (.ref l) (.int i u)) Q E s := by
  subst hk
  have hl : s.heap.IsList l vs.toArray := ⟨_, (N _ hm).1, rfl, n, rfl⟩
  have hlt := (List.getElem?_eq_some_iff.mp hv).1
  exact tail_any hl.typeIs slot_list_getitem.lookup (wpAny_getItem_list hl (by lia) (by lia) (by simpa using hv) h) hs
end
/-- what a call of list.pop(i) asks -/
theorem split_at {α : Type} {l : List α} {k : Nat} (h : k < l.length) : ∃ p y q, l = p ++ y :: q ∧ p.length = k :=
  ⟨l.take k, l[k], l.drop (k + 1), by rw [← List.drop_eq_getElem_cons h, List.take_append_drop], by rw [List.length_take]; lia⟩
theorem ints_split {vs : List Value} {p q : List Int} {y : Int} (h : IntsAre vs (p ++ y :: q)) : ∃ vp t vq, vs = vp ++ .int y t :: vq ∧ IntsAre vp p ∧ IntsAre vq q ∧ vp.length = p.length := by
  induction p generalizing vs with
  | nil =>
    cases h with
    | cons _ t r => exact ⟨[], t, _, rfl, .nil, r, rfl⟩
  | cons x p ih =>
    cases h with
    | cons _ t r =>
      obtain ⟨vp, t', vq, rfl, a, b, c⟩ := ih r
      exact ⟨_ :: vp, t', vq, rfl, .cons _ t a, b, by rw [List.length_cons, List.length_cons, c]⟩
end

section
open PySem PySem.W PyProof.Rows PySem.Calls
theorem freshGL2 : True := by
  w_top off
  trivial
theorem ints_kf {vs : List Value} {ns : List Int} (h : IntsAre vs ns) : kf_ints vs = true := by
  induction h with
  | nil => rfl
  | cons _ _ _ ih => exact ih
theorem any_contains (k : Int) : ∀ ns : List Int, ns.any (· == k) = ns.contains k
  | [] => rfl
  | a :: ns => by
    rw [List.any_cons, List.contains_cons, any_contains k ns]
    rw [show (a == k) = (k == a) from by rw [Bool.eq_iff_iff, beq_iff_eq, beq_iff_eq]; exact eq_comm]
section
variable {prog : Program} {w : World} {A : Around} {E : Value → Shared → Prop} {s : Shared} {h₀ : Heap} {L l : Addr} {rest : List (Addr × Obj)} {Q : Value → Shared → Prop} {vs : List Value} {ns : List Int} {n : Nat} {k : Int} {t : Tok}
theorem inK (N : News h₀ L s.heap rest) (hm : (l, listOf vs.toArray n) ∈ rest) (hi : IntsAre vs ns) (h : Q (.bool (ns.contains k)) s) : wpAny (model prog w) A (compareOp .In (.int k t) (.ref l)) Q E s :=
  kf_in N hm (ints_kf hi) (by show vs.any (isInt k) = _; rw [any_isInt k hi, any_contains]) h
theorem notInK (N : News h₀ L s.heap rest) (hm : (l, listOf vs.toArray n) ∈ rest) (hi : IntsAre vs ns) (h : Q (.bool (!ns.contains k)) s) : wpAny (model prog w) A (compareOp .NotIn (.int k t) (.ref l)) Q E s :=
  kf_notin N hm (ints_kf hi) (by show (!vs.any (isInt k)) = _; rw [any_isInt k hi, any_contains]) h
end
end

section
open PySem PySem.W PyProof.Rows PySem.Calls
theorem freshPM : True := by
  w_top off
  trivial
theorem perm_ix {α : Type} (L : List (List α)) {p q : List Nat} (h : p.Perm q) : ((p.map fun i => L.getD i []).flatten).Perm ((q.map fun i => L.getD i []).flatten) := (h.map _).flatten
theorem perm_a {α : Type} (A R : List α) (a b c p q : α) : (a :: b :: c :: (A ++ p :: q :: R)).Perm (A ++ p :: q :: c :: a :: b :: R) := by
  have h : (a :: b :: c :: (A ++ p :: q :: (R ++ []))).Perm (A ++ p :: q :: c :: a :: b :: (R ++ [])) := perm_ix [[a], [b], [c], A, [p], [q], R] (p := [0, 1, 2, 3, 4, 5, 6]) (q := [3, 4, 5, 2, 0, 1, 6]) (by decide)
  rwa [List.append_nil] at h
theorem perm_b {α : Type} (A R : List α) (a p q r s t : α) : (a :: (A ++ p :: q :: r :: s :: t :: R)).Perm (A ++ p :: q :: r :: s :: t :: a :: R) := by
  have h : (a :: (A ++ p :: q :: r :: s :: t :: (R ++ []))).Perm (A ++ p :: q :: r :: s :: t :: a :: (R ++ [])) := perm_ix [[a], A, [p], [q], [r], [s], [t], R] (p := [0, 1, 2, 3, 4, 5, 6, 7]) (q := [1, 2, 3, 4, 5, 6, 0, 7]) (by decide)
  rwa [List.append_nil] at h
theorem perm_d {α : Type} (A R : List α) (D bd ol l3 l4 wl s : α) : (bd :: ol :: l3 :: l4 :: wl :: s :: (A ++ D :: R)).Perm (A ++ D :: l3 :: l4 :: bd :: ol :: wl :: s :: R) := by
  have h : (bd :: ol :: l3 :: l4 :: wl :: s :: (A ++ D :: (R ++ []))).Perm (A ++ D :: l3 :: l4 :: bd :: ol :: wl :: s :: (R ++ [])) := perm_ix [[bd], [ol], [l3], [l4], [wl], [s], A, [D], R] (p := [0, 1, 2, 3, 4, 5, 6, 7, 8]) (q := [6, 7, 2, 3, 0, 1, 4, 5, 8]) (by decide)
  rwa [List.append_nil] at h
theorem perm_f {α : Type} (A R : List α) (D bd ol l3 l4 wl s : α) : (s :: l3 :: l4 :: bd :: wl :: ol :: (A ++ D :: R)).Perm (A ++ D :: l3 :: l4 :: bd :: ol :: wl :: s :: R) := by
  have h : (s :: l3 :: l4 :: bd :: wl :: ol :: (A ++ D :: (R ++ []))).Perm (A ++ D :: l3 :: l4 :: bd :: ol :: wl :: s :: (R ++ [])) := perm_ix [[s], [l3], [l4], [bd], [wl], [ol], A, [D], R] (p := [0, 1, 2, 3, 4, 5, 6, 7, 8]) (q := [6, 7, 1, 2, 3, 5, 4, 0, 8]) (by decide)
  rwa [List.append_nil] at h
end

section
open PySem PySem.W PyProof.Rows PySem.Calls
noncomputable abbrev arT (dp un : Nat) (gd : Option (List Code)) (env : Env) (outer : List Env) : Around := { handled := none, depth := dp, frames := some (env :: outer), guards := gd, units := un }
noncomputable abbrev ffObj (I W dx : Addr) : Obj := { cls := .ref 54, dict := some dx, data := .plain, slots := #[some (.ref W), some (.ref I)] }
end

local macro_rules | `(tactic| walk_at "T cr") => `(tactic| (first | assumption | (apply And.right; first | assumption | (apply And.right; first | assumption | (apply And.right; first | assumption | (apply And.right; first | assumption | (apply And.right; first | assumption | (apply And.right; first | assumption | (apply And.right; assumption)))))))))
local macro_rules | `(tactic| walk_at "T lt") => `(tactic| with_reducible (first | assumption | (apply And.left; walk_at "T cr") | (apply And.right; walk_at "T cr")))
local macro_rules | `(tactic| k_ne) => `(tactic| (refine neN ?_; (try dsimp only); first | walk_at "T lt" | (refine Ne.symm ?_; walk_at "T lt") | (refine Nat.ne_of_gt ?_; walk_at "T lt") | (refine Nat.ne_of_lt ?_; walk_at "T lt") | omega))
local macro_rules | `(tactic| k_mem) => `(tactic| first | assumption | (refine List.Mem.tail _ ?_; k_mem))
local macro_rules | `(tactic| walk_at "T room") => `(tactic| ((try dsimp only [arT]); (simp only [depth_under_make, depth_under_kw, depth_in1, depth_deeper, recursionLimit] at *); omega))
local macro_rules | `(tactic| walk_at "T enter") => `(tactic| (k_dflt (refine code_T (by k_asm) (by k_asm) (by k_asm) (by k_asm) (by k_asm) (by k_asm) (by k_asm) (by k_asm) rfl (by first | assumption | exact rfl) (by first | assumption | exact rfl) (by k_is) (by k_is) (by walk_at "T room") (by first | exact BindsTo.of_eq rfl | exact binds_K (by k_in) rfl (by k_is) rfl rfl rfl) (locs rfl) ?_ rfl rfl rfl (by decide); k_whole; intro g' L' h' FG' F' N' B' X' T' D' l1 l2; (try dsimp only); (try k_fold))))
local macro_rules | `(tactic| walk_at "exec While") => `(tactic| refine stop_in ?_)
local macro_rules | `(tactic| walk_at "callWith ref") => `(tactic| (k_here; k_dflt (first | (refine callWith_mw (by k_asm) (by k_mem) ?_; k_whole) | refine callWith_mw0 (id := "list.__contains__") (mwAt_of (by k_asm) (by k_mem)) ?_)))
local macro_rules | `(tactic| walk_at "And") => `(tactic| ((with_reducible show MwAt _ _ _ _ ∧ _); k_dflt (refine ⟨mwAt_of (by k_asm) (by k_mem), ?_⟩); (try dsimp only [List.nil_append, List.cons_append])))
local macro_rules | `(tactic| walk_at "call ref") => `(tactic| ((with_reducible show wpAny _ _ (call (Value.ref _) [Value.int _ _]) _ _ _); k_dflt (refine call_containsK (by k_asm) (by k_mem) (by k_mem) (by assumption) ?_; k_whole)))

section
open PySem PySem.W PyProof.Rows PySem.Calls
theorem freshF1 : True := by
  w_top off
  trivial
section
variable {prog p : Program} {loose : List Str} {w : World} {mg mb : Str → Option Value} {mean : ExcName → Option Value} {dp un : Nat} {gd : Option (List Code)} {env : Env} {outer : List Env} {A₀ : Around} {base h₀ : Heap} {L : Addr} {m : Str → Option Value} {rest : List (Addr × Obj)} {s : Shared}
    {Q E : Value → Shared → Prop} 
theorem next_spec {x dx I W la lb : Addr} {i : Nat} {va vb : List Value} {na nb : Nat} {xs ys : List Int}
    (B : Below A₀ base outer h₀) (F : Fr h₀ L s.heap m) (X : (hd.heap_39 w.params).In h₀) (T : Top p loose mean mg mb h₀) (XB : (hd.heap_39 w.params).In base) (TB : Top p loose mean mg mb base) (D : KtsDicts (frs outer) h₀)
    (hf : env.frame = some L) (hk : env.scope.kind = .function) (hdp : dp + 10 < recursionLimit)
    (N : News h₀ L s.heap ((I, itObj la i) :: rest)) (hI : ∀ q ∈ rest, q.1 ≠ I)
    (hx : (x, ffObj I W dx) ∈ rest) (hdx : (dx, dictOf [] 0) ∈ rest) (hW : (W, mwObj "list.__contains__" lb) ∈ rest) (ha : (la, listOf va.toArray na) ∈ rest) (hb : (lb, listOf vb.toArray nb) ∈ rest) (hxs : IntsAre va xs) (hys : IntsAre vb ys)
    (hQ : ∀ j k t h₀' h' tk, i ≤ j → xs[j]? = some k → va[j]? = some (.int k t) → ys.contains k = false → (∀ j' k', i ≤ j' → j' < j → xs[j']? = some k' → ys.contains k' = true) → KtsTurn (frs outer) h₀ h₀' → Fr h₀' L h' m → News h₀' L h' ((I, itObj la (j + 1)) :: rest) → Below A₀ base outer h₀' → (hd.heap_39 w.params).In h₀' → Top p loose mean mg mb h₀' → KtsDicts (frs outer) h₀' → Q (.int k t) { s with heap := h', toks := tk })
    (hE : ∀ j h₀' e h' tk, (∀ j' k', i ≤ j' → xs[j']? = some k' → ys.contains k' = true) → KtsTurn (frs outer) h₀ h₀' → Fr h₀' L h' m → News h₀' L h' ((I, itEnd j) :: rest) → Below A₀ base outer h₀' → (hd.heap_39 w.params).In h₀' → Top p loose mean mg mb h₀' → KtsDicts (frs outer) h₀' →
      ({ s with heap := h', toks := tk } : Shared).TypeIs (.ref e) "StopIteration" → E (.ref e) { s with heap := h', toks := tk }) :
    wpAny (model prog w) (arT dp un gd env outer) (call (.ref 50) [.ref x]) Q E s := by
  refine wpAny_call ?_
  walk_at "T enter"
  k_steps
  unfold Stop
  rename Fr _ _ _ _ => F1
  rename News _ _ _ _ => N1
  refine while_S (σ := Nat × Option Value) (fun st => [(Str.ofString "item", st.2)]) (fun st => (I, itObj la st.1) :: rest) (fun n st => n = xs.length - st.1 ∧ i ≤ st.1 ∧ ∀ j' k', i ≤ j' → j' < st.1 → xs[j']? = some k' → ys.contains k' = true) _ (i, none) F1 N1 (by intro q hq; rw [List.mem_singleton.mp hq]; rfl) (fun q hq => hq) ⟨rfl, Nat.le_refl _, fun j' k' h1 h2 => absurd h1 (by lia)⟩ ?_
  clear F1 N1
  rintro n ⟨j, u⟩ h' tk ⟨rfl, hij, hbef⟩ F1 N1
  dsimp only at hij hbef N1
  k_steps
  cases hv : xs[j]? with
  | none =>
    refine next_stopK rfl F1 N1 hI ha (by rw [List.getElem?_toArray, List.getElem?_eq_none_iff, hxs.length]; exact List.getElem?_eq_none_iff.mp hv) (fun h₁ h₂ e F2 N2 hn => ?_)
    dsimp only [ek]
    refine leave_newS (by assumption) hn F2 N2 (fun h₃ R1 _ U => ?_)
    obtain ⟨h₀', a1, a2, a3, a4, a5, a6, a7⟩ := ground_stop B XB TB D hf (by assumption) R1 U
    refine hE j h₀' e h₃ _ (fun j' k' h1 h2 => hbef j' k' h1 ?_ h2) a1 a2 a3 a4 a5 a6 a7 (raised_type R1)
    have h3 := (List.getElem?_eq_some_iff.mp h2).1
    have h4 := List.getElem?_eq_none_iff.mp hv
    lia
  | some k =>
    obtain ⟨t, ht⟩ := hxs.get j k hv
    refine next_itemK F1 N1 hI ha (by rw [List.getElem?_toArray]; exact ht) (fun h₂ F2 N2 => ?_)
    clear F1 N1
    k_steps
    · rename (List.contains _ _ = true) => hc
      have hlt := (List.getElem?_eq_some_iff.mp hv).1
      refine WhEndS.intro (xs.length - (j + 1)) (j + 1, some (.int k t)) (by lia) (by assumption) (fun y => by dsimp only [ovr]; split <;> rfl) (by assumption) ⟨rfl, by dsimp only; lia, fun j' k' h1 h2 h3 => ?_⟩ _ (.inl rfl)
      dsimp only at h2
      by_cases q : j' = j
      · subst q
        rw [hv] at h3
        cases h3
        exact hc
      · exact hbef j' k' h1 (by lia) h3
    · have hc : ys.contains k = false := by first | assumption | (rename ((!List.contains _ _) = true) => hc; simpa using hc) | (simp_all; done)
      dsimp only [qk]
      refine ⟨_, _, _, _, KtsTurn.refl, by assumption, by assumption, fun h₀' a1 a2 a3 a4 a5 a6 a7 => hQ j k t h₀' _ _ hij hv ht hc hbef a1 a2 a3 a4 a5 a6 a7⟩
end
end

section
open PySem PySem.W PyProof.Rows PySem.Calls
theorem freshF2 : True := by
  w_top off
  trivial
theorem filt_none (xs : List Int) (q : Int → Bool) : ∀ i, (∀ j k, i ≤ j → xs[j]? = some k → q k = false) → (xs.drop i).filter q = [] := by
  intro i h
  rw [List.filter_eq_nil_iff]
  intro a ha
  obtain ⟨j, hj⟩ := List.mem_iff_getElem?.mp ha
  rw [List.getElem?_drop] at hj
  rw [h (i + j) a (Nat.le_add_right _ _) hj]
  exact Bool.false_ne_true
theorem filt_hit (xs : List Int) (q : Int → Bool) : ∀ (d i j : Nat) (k : Int), j - i = d → i ≤ j → xs[j]? = some k → q k = true → (∀ j' k', i ≤ j' → j' < j → xs[j']? = some k' → q k' = false) → (xs.drop i).filter q = k :: (xs.drop (j + 1)).filter q := by
  intro d
  induction d with
  | zero =>
    intro i j k hd hij hx hq _
    have e : i = j := by lia
    subst e
    have hlt := (List.getElem?_eq_some_iff.mp hx).1
    have hk : xs[i] = k := (List.getElem?_eq_some_iff.mp hx).2
    rw [List.drop_eq_getElem_cons hlt, hk, List.filter_cons_of_pos hq]
  | succ d ih =>
    intro i j k hd hij hx hq hb
    have hlt : i < xs.length := by
      have := (List.getElem?_eq_some_iff.mp hx).1
      lia
    have hi : xs[i]? = some xs[i] := List.getElem?_eq_getElem hlt
    have hn := hb i xs[i] (Nat.le_refl _) (by lia) hi
    rw [List.drop_eq_getElem_cons hlt, List.filter_cons_of_neg (by rw [hn]; exact Bool.false_ne_true)]
    exact ih (i + 1) j k (by lia) (by lia) hx hq fun j' k' h1 h2 h3 => hb j' k' (by lia) h2 h3
section
variable {prog p : Program} {loose : List Str} {w : World} {mg mb : Str → Option Value} {mean : ExcName → Option Value} {dp un : Nat} {gd : Option (List Code)} {env : Env} {outer : List Env} {A₀ : Around} {base h₀ : Heap} {L : Addr} {m : Str → Option Value} {rest : List (Addr × Obj)}
    {Q E : Value → Shared → Prop} 
theorem pyNext_ff {x dx I W la lb : Addr} {i : Nat} {va vb : List Value} {na nb : Nat} {xs ys : List Int} {s : Shared} {Q : Option Value → Shared → Prop}
    (G : Gd (hd.heap_39 w.params) p loose mean mg mb A₀ base outer L m h₀ s.heap ((I, itObj la i) :: rest))
    (hf : env.frame = some L) (hk : env.scope.kind = .function) (hdp : dp + 10 < recursionLimit) (hI : ∀ q ∈ rest, q.1 ≠ I)
    (hx : (x, ffObj I W dx) ∈ rest) (hdx : (dx, dictOf [] 0) ∈ rest) (hW : (W, mwObj "list.__contains__" lb) ∈ rest) (ha : (la, listOf va.toArray na) ∈ rest) (hb : (lb, listOf vb.toArray nb) ∈ rest) (hxs : IntsAre va xs) (hys : IntsAre vb ys)
    (hQ : ∀ j k t h₀' h' tk, i ≤ j → xs[j]? = some k → ys.contains k = false → (∀ j' k', i ≤ j' → j' < j → xs[j']? = some k' → ys.contains k' = true) → KtsTurn (frs outer) h₀ h₀' →
      Gd (hd.heap_39 w.params) p loose mean mg mb A₀ base outer L m h₀' h' ((I, itObj la (j + 1)) :: rest) → Q (some (.int k t)) { s with heap := h', toks := tk })
    (hE : ∀ j h₀' h' tk, (∀ j' k', i ≤ j' → xs[j']? = some k' → ys.contains k' = true) → KtsTurn (frs outer) h₀ h₀' →
      Gd (hd.heap_39 w.params) p loose mean mg mb A₀ base outer L m h₀' h' ((I, itEnd j) :: rest) → Q none { s with heap := h', toks := tk }) :
    wpAny (model prog w) (arT dp un gd env outer) (pyNext (.ref x)) Q E s := by
  obtain ⟨B, F, X, N, T, XB, TB, D⟩ := G
  have II : InstAt s.heap x (ffObj I W dx) 54 (some (dictOf [] 0)) := InstAt.of_news N (.tail _ hx) (.tail _ hdx)
  refine owit_next F X II (f := 50) (by k_is) (by k_is) ?_
  refine next_spec B F X T XB TB D hf hk hdp N hI hx hdx hW ha hb hxs hys ?_ ?_
  · intro j k t h₀' h' tk h1 h2 _ h3 h4 T0 F' N' B' X' T' D'
    exact hQ j k t h₀' h' tk h1 h2 h3 h4 T0 ⟨B', F', X', N', T', XB, TB, D'⟩
  · intro j h₀' e h' tk h1 T0 F' N' B' X' T' D' ht
    unfold OwitStop
    refine wpAny_isInstance ht isSubtype_stop ?_
    rw [if_pos rfl]
    exact hE j h₀' h' tk h1 T0 ⟨B', F', X', N', T', XB, TB, D'⟩
end
end

section
open PySem PySem.W PyProof.Rows PySem.Calls
theorem freshF3 : True := by
  w_top off
  trivial
section
variable {prog p : Program} {loose : List Str} {w : World} {mg mb : Str → Option Value} {mean : ExcName → Option Value} {dp un : Nat} {gd : Option (List Code)} {env : Env} {outer : List Env} {A₀ : Around} {base : Heap} {L : Addr} {m : Str → Option Value} {rest : List (Addr × Obj)}
theorem ext_loop {x dx I W la lb S : Addr} {va vb : List Value} {na nb : Nat} {xs ys : List Int} {R : Result → Shared → Prop}
    (hf : env.frame = some L) (hk : env.scope.kind = .function) (hdp : dp + 10 < recursionLimit) (hI : ∀ q ∈ rest, q.1 ≠ I) (hS : ∀ q ∈ rest, q.1 ≠ S) (hSI : S ≠ I)
    (hx : (x, ffObj I W dx) ∈ rest) (hdx : (dx, dictOf [] 0) ∈ rest) (hW : (W, mwObj "list.__contains__" lb) ∈ rest) (ha : (la, listOf va.toArray na) ∈ rest) (hb : (lb, listOf vb.toArray nb) ∈ rest) (hxs : IntsAre va xs) (hys : IntsAre vb ys) :
    ∀ (r i : Nat) (h₀ : Heap) (acc : List Value) (accI : List Int) (n : Nat) (s : Shared), xs.length - i = r → IntsAre acc accI → acc.length + r ≤ sizeLine →
    Gd (hd.heap_39 w.params) p loose mean mg mb A₀ base outer L m h₀ s.heap ((S, listOf acc.toArray n) :: (I, itObj la i) :: rest) →
    (∀ j h₀' h' tk ws n', KtsTurn (frs outer) h₀ h₀' → Gd (hd.heap_39 w.params) p loose mean mg mb A₀ base outer L m h₀' h' ((S, listOf ws.toArray n') :: (I, itEnd j) :: rest) → IntsAre ws (accI ++ (xs.drop i).filter fun k => !ys.contains k) → R (.ok (.ret .none)) { s with heap := h', toks := tk }) →
    codeAny (model prog w) (arT dp un gd env outer) (.builtin "list.extend.loop" ⟨[.ref S, .ref x, .none], []⟩) R s := by
  intro r
  induction r using Nat.strongRecOn with
  | ind r ih =>
  intro i h₀ acc accI n s hr hacc hsz G hR
  have G' : Gd (hd.heap_39 w.params) p loose mean mg mb A₀ base outer L m h₀ s.heap ((I, itObj la i) :: (S, listOf acc.toArray n) :: rest) := G.with G.F fun q hq => G.N q (by
    rcases List.mem_cons.mp hq with rfl | hq
    · exact .tail _ (.head _)
    · rcases List.mem_cons.mp hq with rfl | hq
      · exact .head _
      · exact .tail _ (.tail _ hq))
  refine codeAny_builtin F.entry_extend_loop ?_
  rw [Around.under_plainId F.plain_extend_loop _]
  show wpAny _ (arT dp (un + 1) gd env outer) (pyNext (.ref x) >>= _) _ _ s
  refine wpAny_bind (pyNext_ff (i := i) G' hf hk hdp (fun q hq => ?_) (.tail _ hx) (.tail _ hdx) (.tail _ hW) (.tail _ ha) (.tail _ hb) hxs hys ?_ ?_)
  · rcases List.mem_cons.mp hq with rfl | hq
    · exact hSI
    · exact hI q hq
  · intro j k t h₀' h' tk h1 h2 h3 h4 T0 G1
    have hlt := (List.getElem?_eq_some_iff.mp h2).1
    have hS1 : h'.get? S = some (listOf acc.toArray n) := (G1.N _ (.tail _ (.head _))).1
    show wpAny _ _ (updateSeq S (·.push (.int k t)) >>= _) _ _ _
    have hle : acc.length ≤ sizeLine := by lia
    refine wpAny_bind (wpAny_updateSeq hS1 rfl ?_ (by simpa using hle))
    have hS2 := Heap.get?_update_self (Obj.mapSeq (·.push (Value.int k t))) hS1 rfl
    have N0 : News h₀' L h' ((S, listOf acc.toArray n) :: (I, itObj la (j + 1)) :: rest) := fun q hq => G1.N q (by
      rcases List.mem_cons.mp hq with rfl | hq
      · exact .tail _ (.head _)
      · rcases List.mem_cons.mp hq with rfl | hq
        · exact .head _
        · exact .tail _ (.tail _ hq))
    have hSr : ∀ q ∈ (I, itObj la (j + 1)) :: rest, q.1 ≠ S := fun q hq => by
      rcases List.mem_cons.mp hq with rfl | hq
      · exact hSI.symm
      · exact hS q hq
    obtain ⟨F2, N2⟩ := upd_head (s := ⟨h', s.gens, s.drawn, tk, s.os⟩) G1.F N0 hSr hS2 (Heap.SameBut.update ..)
    refine wpAny_pure ⟨plainId_quiet F.plain_extend_loop _, ?_⟩
    have e : Obj.mapSeq (·.push (Value.int k t)) (listOf acc.toArray n) = listOf (acc ++ [Value.int k t]).toArray (n + 1) := by
      simp [Obj.mapSeq]
    rw [e] at N2
    refine ih (xs.length - (j + 1)) (by lia) (j + 1) h₀' (acc ++ [.int k t]) (accI ++ [k]) (n + 1) _ rfl (hacc.append (.cons k t .nil)) (by rw [List.length_append]; simp only [List.length_cons, List.length_nil]; lia) (G1.with F2 N2) ?_
    intro j' h₀'' h'' tk' ws n' T1 G2 hw
    refine hR j' h₀'' h'' tk' ws n' (T0.trans T1) G2 ?_
    rw [filt_hit xs (fun k => !ys.contains k) _ i j k rfl h1 h2 (by simp only [h3]; rfl) (fun j' k' a b c => by simp only [h4 j' k' a b c]; rfl)]
    rw [List.append_assoc] at hw
    exact hw
  · intro j h₀' h' tk h1 T0 G1
    refine wpAny_pure ?_
    refine hR j h₀' h' tk acc n T0 (G1.with G1.F fun q hq => G1.N q ?_) ?_
    · rcases List.mem_cons.mp hq with rfl | hq
      · exact .tail _ (.head _)
      · rcases List.mem_cons.mp hq with rfl | hq
        · exact .head _
        · exact .tail _ (.tail _ hq)
    · rw [filt_none xs (fun k => !ys.contains k) i (fun j k a b => by simp only [h1 j k a b]; rfl), List.append_nil]
      exact hacc
end
end

section
open PySem PySem.W PyProof.Rows PySem.Calls
theorem freshF4 : True := by
  w_top off
  trivial
section
variable {prog p : Program} {loose : List Str} {w : World} {mg mb : Str → Option Value} {mean : ExcName → Option Value} {dp un : Nat} {gd : Option (List Code)} {env : Env} {outer : List Env} {A₀ : Around} {base h₀ : Heap} {L : Addr} {m : Str → Option Value} {rest : List (Addr × Obj)} {s : Shared} {Q E : Value → Shared → Prop}
theorem iter_spec {x dx I W : Addr} (G : Gd (hd.heap_39 w.params) p loose mean mg mb A₀ base outer L m h₀ s.heap rest)
    (hf : env.frame = some L) (hk : env.scope.kind = .function) (hdp : dp + 10 < recursionLimit)
    (hx : (x, ffObj I W dx) ∈ rest) (hdx : (dx, dictOf [] 0) ∈ rest)
    (hQ : ∀ h₀' h' tk, KtsTurn (frs outer) h₀ h₀' → Gd (hd.heap_39 w.params) p loose mean mg mb A₀ base outer L m h₀' h' rest → Q (.ref x) { s with heap := h', toks := tk }) :
    wpAny (model prog w) (arT dp un gd env outer) (call (.ref 43) [.ref x]) Q E s := by
  obtain ⟨B, F, X, N, T, XB, TB, D⟩ := G
  refine wpAny_call ?_
  walk_at "T enter"
  k_steps
  refine ⟨_, _, _, _, KtsTurn.refl, by assumption, by assumption, fun h₀' a1 a2 a3 a4 a5 a6 a7 => hQ h₀' _ _ a1 ⟨a4, a2, a5, a3, a6, XB, TB, a7⟩⟩
theorem room_ff {M : Model} {A : Around} {x : Addr} {ox : Obj} {od : Option Obj} {Q : Bool → Shared → Prop} (X : (hd.heap_39 w.params).In s.heap) (I : InstAt s.heap x ox 54 od) (h : Q true s) : wpAny M A (Builtin.List.listLengthHint (.ref x)) Q E s := by
  have L1 : Looks M s.heap (specialOf (.ref x) "__len__") none := I.type.andThen (looks_findIn X (by k_is))
  have L2 : Looks M s.heap (specialOf (.ref x) "__length_hint__") none := I.type.andThen (looks_findIn X (by k_is))
  unfold Builtin.List.listLengthHint
  refine wpAny_bind (L1.here ?_)
  obtain ⟨hh, g, d, t, os⟩ := s
  dsimp only at L2
  repeat lk
  exact h
theorem list_ff {x dx I W la lb : Addr} {va vb : List Value} {na nb : Nat} {xs ys : List Int}
    (G : Gd (hd.heap_39 w.params) p loose mean mg mb A₀ base outer L m h₀ s.heap ((I, itObj la 0) :: rest))
    (hf : env.frame = some L) (hk : env.scope.kind = .function) (hdp : dp + 10 < recursionLimit) (hI : ∀ q ∈ rest, q.1 ≠ I)
    (hx : (x, ffObj I W dx) ∈ rest) (hdx : (dx, dictOf [] 0) ∈ rest) (hW : (W, mwObj "list.__contains__" lb) ∈ rest) (ha : (la, listOf va.toArray na) ∈ rest) (hb : (lb, listOf vb.toArray nb) ∈ rest) (hxs : IntsAre va xs) (hys : IntsAre vb ys) (hsz : xs.length ≤ 1000000)
    (hQ : ∀ S h₀' h' tk ws n' j, s.heap.objs.size ≤ S → KtsTurn (frs outer) h₀ h₀' → Gd (hd.heap_39 w.params) p loose mean mg mb A₀ base outer L m h₀' h' ((S, listOf ws.toArray n') :: (I, itEnd j) :: rest) → IntsAre ws (xs.filter fun k => !ys.contains k) → Q (.ref S) { s with heap := h', toks := tk }) :
    wpAny (model prog w) (arT dp un gd env outer) (call (.type "list") [.ref x]) Q E s := by
  refine callType_codes (Q₁ := fun obj s₁ => obj = .ref s.heap.objs.size ∧ s₁ = { s with heap := s.heap.push { cls := .type "list", data := .seq #[] } }) PySem.F.called_list (PySem.F.typeCall_list_1 _) PySem.F.entry_list_init
    (code_list_new _ ⟨rfl, rfl⟩) fun obj s₁ h₁ => ?_
  obtain ⟨rfl, rfl⟩ := h₁
  have hS : (s.heap.push { cls := .type "list", data := .seq #[] }).get? s.heap.objs.size = some { cls := .type "list", data := .seq #[] } := Heap.get?_push_size _ rfl
  refine ⟨⟨_, hS, rfl⟩, PySem.F.args_list_init_2 _ _, ?_⟩
  have F1 := G.F.push { cls := .type "list", data := .seq #[] }
  have N1 := News.push G.F G.N { cls := .type "list", data := .seq #[] }
  have hfr : ∀ q ∈ ((I, itObj la 0) :: rest : List (Addr × Obj)), q.1 ≠ s.heap.objs.size := fun q hq => Nat.ne_of_lt (Heap.lt_size (G.N q hq).1)
  generalize hSS : s.heap.objs.size = S at hS N1 hfr ⊢
  generalize s.heap.push { cls := .type "list", data := .seq #[] } = hp1 at hS F1 N1 ⊢
  have hxS : x ≠ S := hfr _ (.tail _ hx)
  show wpAny _ (arT dp (un + 2) gd env outer) (do let old ← Builtin.List.listItems (.ref S); Builtin.List.listUpdate (.ref S) (fun _ => #[]); letGo old.toList.reverse; Builtin.List.listExtendWith (.ref S) (.ref x) .none) _ _ _
  refine wpAny_bind ?_
  unfold Builtin.List.listItems
  refine wpAny_bind (wpAny_seqItems hS rfl (wpAny_pure ?_))
  show wpAny _ _ (updateSeq S (fun _ => #[]) >>= fun _ => letGo (#[] : Array Value).toList.reverse >>= fun _ => Builtin.List.listExtendWith (.ref S) (.ref x) .none) _ _ _
  refine wpAny_bind (wpAny_updateSeq hS rfl ?_)
  have hS₂ := Heap.get?_update_self (Obj.mapSeq (fun _ => (#[] : Array Value))) hS rfl
  obtain ⟨F2, N2⟩ := upd_head (s := ⟨hp1, s.gens, s.drawn, s.toks, s.os⟩) F1 N1 hfr hS₂ (Heap.SameBut.update ..)
  refine wpAny_bind (wpAny_letGo ?_)
  generalize hp1.update S (Obj.mapSeq (fun _ => (#[] : Array Value))) = hp2 at hS₂ F2 N2 ⊢
  unfold Builtin.List.listExtendWith
  have II : InstAt hp2 x (ffObj I W dx) 54 (some (dictOf [] 0)) := InstAt.of_news N2 (.tail _ (.tail _ hx)) (.tail _ (.tail _ hdx))
  have X2 : (hd.heap_39 w.params).In hp2 := G.X.keeps F2.keep
  refine wpAny_bind (II.type.at ?_)
  have h1 : Builtin.List.listSameRef (.ref S) (.ref x) = false := by simp [Builtin.List.listSameRef, hxS.symm]
  rw [h1, show (Value.ref 54 == Value.type "list") = false by decide, show (Value.ref 54 == Value.type "tuple") = false by decide]
  simp only [Bool.or_self, Bool.false_eq_true, if_false]
  refine wpAny_bind (owit_iter F2 G.X II (f := 43) (by k_is) (by k_is) (iter_spec (s := ⟨hp2, s.gens, s.drawn, s.toks, s.os⟩) (G.with F2 N2) hf hk hdp (.tail _ (.tail _ hx)) (.tail _ (.tail _ hdx)) fun h₀' h' tk T1 G1 => ?_))
  have II' : InstAt h' x (ffObj I W dx) 54 (some (dictOf [] 0)) := InstAt.of_news G1.N (.tail _ (.tail _ hx)) (.tail _ (.tail _ hdx))
  refine owit_it (g := .ref 50) G1.F G1.X II' (by k_is) ?_
  refine wpAny_bind (wpAny_holding (room_ff (s := ⟨h', s.gens, s.drawn, tk, s.os⟩) (G1.X.keeps G1.F.keep) II' ?_))
  simp only [Bool.true_or, if_true]
  refine wpAny_bind (wpAny_rule (wpAny_bind ?_))
  show wpAny _ _ (updateSeq S (·.push .none) >>= fun _ => updateSeq S (·.pop)) _ _ _
  have hS3 : h'.get? S = some _ := (G1.N _ (.head _)).1
  refine wpAny_bind (wpAny_updateSeq hS3 rfl ?_)
  have hS4 := Heap.get?_update_self (Obj.mapSeq (·.push Value.none)) hS3 rfl
  obtain ⟨F4, N4⟩ := upd_head (s := ⟨h', s.gens, s.drawn, tk, s.os⟩) G1.F G1.N hfr hS4 (Heap.SameBut.update ..)
  refine wpAny_updateSeq (hz := by seq_fits) hS4 rfl ?_
  have hS5 := Heap.get?_update_self (Obj.mapSeq (·.pop)) hS4 rfl
  obtain ⟨F5, N5⟩ := upd_head (s := ⟨_, s.gens, s.drawn, tk, s.os⟩) F4 N4 hfr hS5 (Heap.SameBut.update ..)
  refine wpAny_pure ⟨plainId_quiet PySem.F.plain_extend_loop _, ?_⟩
  have N6 : News h₀' L _ ((S, listOf ([] : List Value).toArray 2) :: (I, itObj la 0) :: rest) := N5
  refine ext_loop (s := ⟨_, s.gens, s.drawn, tk, s.os⟩) hf hk hdp hI (fun q hq => hfr q (.tail _ hq)) (hfr _ (.head _)).symm hx hdx hW ha hb hxs hys xs.length 0 h₀' [] [] _ rfl .nil (by rw [sizeLine_eq]; simp only [List.length_nil]; lia) (G1.with F5 N6) ?_
  intro j h₀'' h'' tk' ws n' T2 G2 hw
  exact ⟨rfl, hQ S h₀'' h'' tk' ws n' j (Nat.le_of_eq hSS) (T1.trans T2) G2 (by simpa using hw)⟩
end
end

local macro_rules | `(tactic| k_room) => `(tactic| walk_at "T room")
local macro_rules | `(tactic| walk_at "getAttr ref") => `(tactic| ((with_reducible show wpAny _ _ (getAttr (Value.ref _) (PySem.Str.ofString "__contains__") _) _ _ _); k_dflt (refine getAttr_containsK (by k_asm) (by k_asm) (by k_mem) ?_; k_whole); intro W' h' F' N' l1; (try k_lt l1); (try k_sweep)))
local macro_rules | `(tactic| walk_at "call type:list") => `(tactic| refine stop_in ?_)
local macro_rules | `(tactic| walk_at "call builtin:iter") => `(tactic| (k_dflt (refine iter_listK (by k_asm) (by k_asm) (by k_mem) ?_; k_whole); intro I' h' F' N' l1; (try k_lt l1); (try k_sweep)))
local macro_rules | `(tactic| k_all) => `(tactic| (intro q9 hq9; (have a9 := ltN ((by assumption : ∀ p ∈ _, p.1 < _) q9 hq9)); first | exact Nat.ne_of_lt a9 | exact Nat.ne_of_gt a9 | (refine neN ?_; (try dsimp only); omega)))

section
open PySem PySem.W PyProof.Rows PySem.Calls
theorem freshF5 : True := by
  w_top off
  trivial
section
variable {prog p : Program} {loose : List Str} {w : World} {mg mb : Str → Option Value} {mean : ExcName → Option Value} {dp un : Nat} {gd : Option (List Code)} {env : Env} {outer : List Env} {A₀ : Around} {base h₀ : Heap} {L : Addr} {m : Str → Option Value} {rest : List (Addr × Obj)} {s : Shared} {Q E : Value → Shared → Prop}
theorem filter_spec {la lb : Addr} {va vb : List Value} {na nb : Nat} {xs ys : List Int}
    (G : Gd (hd.heap_39 w.params) p loose mean mg mb A₀ base outer L m h₀ s.heap rest)
    (hf : env.frame = some L) (hk : env.scope.kind = .function) (hdp : dp + 20 < recursionLimit)
    (ha : (la, listOf va.toArray na) ∈ rest) (hb : (lb, listOf vb.toArray nb) ∈ rest) (hxs : IntsAre va xs) (hys : IntsAre vb ys) (hsz : xs.length ≤ 1000000)
    (hQ : ∀ S h₀' h' tk ws n', s.heap.objs.size ≤ S → KtsTurn (frs outer) h₀ h₀' → Gd (hd.heap_39 w.params) p loose mean mg mb A₀ base outer L m h₀' h' ((S, listOf ws.toArray n') :: rest) → IntsAre ws (xs.filter fun k => !ys.contains k) → Q (.ref S) { s with heap := h', toks := tk }) :
    wpAny (model prog w) (arT dp un gd env outer) (call (.ref 65) [.ref la, .ref lb]) Q E s := by
  obtain ⟨B, F, X, N, T, XB, TB, D⟩ := G
  refine wpAny_call ?_
  walk_at "T enter"
  k_steps
  unfold Stop
  show wpAny (model prog w) (arT (dp + 1) (un + 3) gd _ (env :: outer)) _ _ _ _
  rename News _ _ _ _ => N9
  rename Fr _ _ _ _ => F9
  rename (Shared.heap s).objs.size ≤ _ => l9
  refine list_ff ⟨by assumption, F9, by assumption, N9, by assumption, XB, TB, by assumption⟩ rfl rfl (by lia) (by k_all) (.head _) (.tail _ (.head _)) (.tail _ (.tail _ (.head _))) (.tail _ (.tail _ (.tail _ ha))) (.tail _ (.tail _ (.tail _ hb))) hxs hys hsz ?_
  intro S h₀' h' tk ws n' j hS T1 G1 hw
  have hlt := ltN F9.ns.lt
  dsimp only at hlt
  dsimp only at hS
  refine ⟨h₀', _, _, (S, listOf ws.toArray n') :: rest, T1, G1.F, fun q hq => G1.N q ?_, fun h₀'' a1 a2 a3 a4 a5 a6 a7 => hQ S h₀'' _ _ ws n' (by lia) a1 ⟨a4, a2, a5, a3, a6, XB, TB, a7⟩ hw⟩
  rcases List.mem_cons.mp hq with rfl | hq
  · exact .head _
  · exact .tail _ (.tail _ (.tail _ (.tail _ (.tail _ hq))))
end
end

local macro_rules | `(tactic| walk_at "call ref") => `(tactic| ((with_reducible show wpAny _ _ (call (Value.ref 65) [Value.ref _, Value.ref _]) _ _ _); refine stop_in ?_))

section
open PySem PySem.W PyProof.Rows PySem.Calls
theorem freshF6 : True := by
  w_top off
  trivial
section
variable {prog p : Program} {loose : List Str} {w : World} {mg mb : Str → Option Value} {mean : ExcName → Option Value} {dp un : Nat} {gd : Option (List Code)} {env : Env} {outer : List Env} {A₀ : Around} {base h₀ : Heap} {L : Addr} {m : Str → Option Value} {rest : List (Addr × Obj)} {s : Shared} {Q E : Value → Shared → Prop}
theorem join_spec {la lb : Addr} {va vb : List Value} {na nb : Nat} {xs ys : List Int}
    (G : Gd (hd.heap_39 w.params) p loose mean mg mb A₀ base outer L m h₀ s.heap rest)
    (hf : env.frame = some L) (hk : env.scope.kind = .function) (hdp : dp + 30 < recursionLimit)
    (ha : (la, listOf va.toArray na) ∈ rest) (hb : (lb, listOf vb.toArray nb) ∈ rest) (hxs : IntsAre va xs) (hys : IntsAre vb ys) (hsx : xs.length ≤ 1000000) (hsy : ys.length ≤ 1000000)
    (hQ : ∀ S h₀' h' tk ws n', s.heap.objs.size ≤ S → KtsTurn (frs outer) h₀ h₀' → Gd (hd.heap_39 w.params) p loose mean mg mb A₀ base outer L m h₀' h' ((S, listOf ws.toArray n') :: rest) → IntsAre ws (xs ++ ys.filter fun k => !xs.contains k) → Q (.ref S) { s with heap := h', toks := tk }) :
    wpAny (model prog w) (arT dp un gd env outer) (call (.ref 201) [.ref la, .ref lb]) Q E s := by
  obtain ⟨B, F, X, N, T, XB, TB, D⟩ := G
  refine wpAny_call ?_
  walk_at "T enter"
  k_steps
  unfold Stop
  show wpAny (model prog w) (arT (dp + 1) (un + 3) gd _ (env :: outer)) _ _ _ _
  rename Fr _ _ _ _ => F9
  rename (Shared.heap s).objs.size ≤ _ => l9
  refine filter_spec ⟨by assumption, F9, by assumption, by assumption, by assumption, XB, TB, by assumption⟩ rfl rfl (by lia) hb ha hys hxs hsy ?_
  intro S h₀' h' tk ws n' hS T1 G1 hw
  have hlt := ltN F9.ns.lt
  dsimp only at hlt hS
  obtain ⟨B1, F1, X1, N1, T1', _, _, D1⟩ := G1
  k_steps
  have hsz := List.length_filter_le (fun k => !xs.contains k) ys
  refine add_listK F1 N1 (.tail _ ha) (.head _) hxs hw (by lia) ?_
  intro S2 h2 hS2 F2 N2 l2 hw2
  try dsimp only at hS2
  have hlt2 := ltN F1.ns.lt
  try dsimp only at hlt2
  dsimp only [qk]
  refine ⟨h₀', _, _, (S2, listOf (va ++ ws).toArray 0) :: rest, T1, F2, fun q hq => N2 q ?_, fun h₀'' a1 a2 a3 a4 a5 a6 a7 => hQ S2 h₀'' _ _ _ 0 (by lia) a1 ⟨a4, a2, a5, a3, a6, XB, TB, a7⟩ hw2⟩
  rcases List.mem_cons.mp hq with rfl | hq
  · exact .head _
  · exact .tail _ (.tail _ hq)
end
end

local macro_rules | `(tactic| walk_at "exec For Name Name cons nil") => `(tactic| k_dflt (refine for_in ?_))
local macro_rules | `(tactic| walk_at "exec For Name Call cons nil") => `(tactic| k_dflt (refine for_in ?_))
local macro_rules | `(tactic| walk_at "exec For Name Attribute cons nil") => `(tactic| k_dflt (refine for_in ?_))
local macro_rules | `(tactic| walk_at "exec For Tuple Name cons nil") => `(tactic| k_dflt (refine for_in ?_))
local macro_rules | `(tactic| walk_at "exec For") => `(tactic| k_dflt (refine for_in ?_))
local macro_rules | `(tactic| walk_at "call ref") => `(tactic| ((with_reducible show wpAny _ _ (call (Value.ref 201) [Value.ref _, Value.ref _]) _ _ _); refine stop_in ?_))

section
open PySem PySem.W PyProof.Rows PySem.Calls
theorem freshF7 : True := by
  w_top off
  trivial
/-- a list's items are lists of ints, the ledger bears them -/
inductive ListsAre (led : List (Addr × Obj)) : List Value → List (List Int) → Prop
  | nil : ListsAre led [] []
  | cons {a : Addr} {ws : List Value} {k : Nat} {xs : List Int} {vs : List Value} {xss : List (List Int)} : (a, listOf ws.toArray k) ∈ led → IntsAre ws xs → ListsAre led vs xss → ListsAre led (.ref a :: vs) (xs :: xss)
theorem ListsAre.mono {led led' : List (Addr × Obj)} (h : ∀ q ∈ led, q ∈ led') : ∀ {vs : List Value} {xss : List (List Int)}, ListsAre led vs xss → ListsAre led' vs xss
  | _, _, .nil => .nil
  | _, _, .cons a b c => .cons (h _ a) b (ListsAre.mono h c)
theorem ListsAre.length {led : List (Addr × Obj)} : ∀ {vs : List Value} {xss : List (List Int)}, ListsAre led vs xss → vs.length = xss.length
  | _, _, .nil => rfl
  | _, _, .cons _ _ c => congrArg (· + 1) (ListsAre.length c)
theorem ListsAre.get {led : List (Addr × Obj)} : ∀ {vs : List Value} {xss : List (List Int)}, ListsAre led vs xss → ∀ (i : Nat) (v : Value), vs[i]? = some v → ∃ a ws k xs, v = .ref a ∧ (a, listOf ws.toArray k) ∈ led ∧ IntsAre ws xs ∧ xss[i]? = some xs
  | _, _, .nil, i, v, h => by simp at h
  | _, _, .cons a b c, 0, v, h => by
    simp only [List.getElem?_cons_zero, Option.some.injEq] at h
    exact ⟨_, _, _, _, h.symm, a, b, rfl⟩
  | _, _, .cons a b c, i + 1, v, h => by
    simp only [List.getElem?_cons_succ] at h
    exact ListsAre.get c i v h
/-- a row, what it lacks of another behind it -/
noncomputable def joinF (xs ys : List Int) : List Int := xs ++ ys.filter fun k => !xs.contains k
end

section
open PySem PySem.W PyProof.Rows PySem.Calls
theorem freshF8 : True := by
  w_top off
  trivial
section
variable {prog p : Program} {loose : List Str} {w : World} {mg mb : Str → Option Value} {mean : ExcName → Option Value} {dp un : Nat} {gd : Option (List Code)} {env : Env} {outer : List Env} {A₀ : Around} {base h₀ : Heap} {L : Addr} {m : Str → Option Value} {rest : List (Addr × Obj)} {s : Shared} {Q E : Value → Shared → Prop}
theorem reduce_spec2 {ls l0 : Addr} {vs v0 : List Value} {ns n0 : Nat} {xss : List (List Int)} {x0 : List Int}
    (G : Gd (hd.heap_39 w.params) p loose mean mg mb A₀ base outer L m h₀ s.heap rest)
    (hf : env.frame = some L) (hk : env.scope.kind = .function) (hdp : dp + 50 < recursionLimit)
    (hs : (ls, listOf vs.toArray ns) ∈ rest) (h0 : (l0, listOf v0.toArray n0) ∈ rest) (hxs : ListsAre rest vs xss) (hx0 : IntsAre v0 x0) (hb : ∀ i, ((xss.take i).foldl joinF x0).length ≤ 1000000) (hb2 : ∀ xs ∈ xss, xs.length ≤ 1000000)
    (hQ : ∀ S h₀' h' tk ws n', KtsTurn (frs outer) h₀ h₀' → Gd (hd.heap_39 w.params) p loose mean mg mb A₀ base outer L m h₀' h' ((S, listOf ws.toArray n') :: rest) → IntsAre ws (xss.foldl joinF x0) → (∀ q ∈ rest, q.1 ≠ l0 → q.1 ≠ S) → Q (.ref S) { s with heap := h', toks := tk }) :
    wpAny (model prog w) (arT dp un gd env outer) (call (.ref 74) [.ref 201, .ref ls, .ref l0]) Q E s := by
  obtain ⟨B, F, X, N, T, XB, TB, D⟩ := G
  have X := X
  refine wpAny_call ?_
  walk_at "T enter"
  k_steps
  rename Fr _ _ _ _ => F9
  rename News _ _ _ _ => N9
  refine forAt_iter (σ := Addr × List Value × Nat × Option Value) (vs := vs) (k := ns) (fun st => [(Str.ofString "value", some (.ref st.1)), (Str.ofString "element", st.2.2.2)]) (fun st => (st.1, listOf st.2.1.toArray st.2.2.1) :: rest) (fun i st => IntsAre st.2.1 ((xss.take i).foldl joinF x0) ∧ ∀ q ∈ rest, q.1 ≠ l0 → q.1 ≠ st.1) (l0, v0, n0, none) rfl ⟨by assumption, F9, by assumption, fun q hq => N9 q ?_, by assumption, XB, TB, by assumption⟩ ?_ ?_ (fun i st _ => .tail _ hs) ⟨by simpa using hx0, fun q _ h => h⟩ (Nat.zero_le _) ?_ ?_
  · rcases List.mem_cons.mp hq with rfl | hq
    · exact .head _
    · rcases List.mem_cons.mp hq with rfl | hq
      · exact .tail _ h0
      · exact .tail _ hq
  · intro q hq
    rcases List.mem_cons.mp hq with rfl | hq
    · rfl
    · rw [List.mem_singleton.mp hq]; rfl
  · rename (∀ q ∈ rest, q.1 < _) => l9
    intro q hq
    rcases List.mem_cons.mp hq with rfl | hq
    · exact Nat.ne_of_lt (l9 _ h0)
    · exact Nat.ne_of_lt (l9 _ hq)
  · rintro i v ⟨a, ws, n1, u⟩ g1 h1 tk1 hi hv ⟨hp, hq0⟩ T1 hI1 G1
    obtain ⟨b, ws2, k2, ys, rfl, hb', hys, hxi⟩ := hxs.get i v hv
    refine wpAny_pure (a := ()) ?_
    refine wpAny_assign_Name ?_
    clear F9 N9
    obtain ⟨B1, F1, X1, N1, T1', _, _, D1⟩ := G1
    dsimp only at F1 N1 hp hI1
    k_steps
    unfold Stop
    show wpAny (model prog w) (arT (dp + 1) (un + 3) gd _ (env :: outer)) _ _ _ _
    (try clear F1); (try clear N1)
    rename Fr _ _ _ _ => F2
    rename News _ _ _ _ => N2
    have hIlt := Heap.lt_size (N2 _ (.head _)).1
    have hrest : ∀ q ∈ rest, q.1 < _ := fun q hq => Heap.lt_size (N2 q (.tail _ (.tail _ hq))).1
    refine join_spec ⟨by assumption, F2, by assumption, N2, by assumption, XB, TB, by assumption⟩ rfl rfl (by lia) (.tail _ (.head _)) (.tail _ (.tail _ hb')) hp hys (hb i) (hb2 ys (List.mem_of_getElem? hxi)) ?_
    intro S h₀' h' tk ws' n' hS T2 G2 hw
    clear F2 N2
    obtain ⟨B3, F3, X3, N3, T3, _, _, D3⟩ := G2
    dsimp only at hS hIlt
    k_steps
    rename Fr _ _ _ _ => F4
    rename News _ _ _ _ => N4
    refine ForEnd.intro (S, ws', n', some (.ref b)) (T1.trans T2) ⟨by assumption, F4, by assumption, fun q hq => N4 q ?_, by assumption, XB, TB, by assumption⟩ (fun y => ?_) ?_ ?_ _ (.inl rfl)
    · rcases List.mem_cons.mp hq with rfl | hq
      · exact .tail _ (.head _)
      · rcases List.mem_cons.mp hq with rfl | hq
        · exact .head _
        · exact .tail _ (.tail _ (.tail _ hq))
    · dsimp only [ovr]
      repeat' split
      all_goals first | rfl | simp_all
    · intro q hq
      rcases List.mem_cons.mp hq with rfl | hq
      · exact Nat.ne_of_gt (Nat.lt_of_lt_of_le hIlt hS)
      · exact hI1 q (.tail _ hq)
    · dsimp only
      rw [List.take_add_one, hxi, Option.toList_some, List.foldl_append]
      refine ⟨hw, fun q hq _ => Nat.ne_of_lt (Nat.lt_of_lt_of_le (hrest q hq) hS)⟩
  · rintro ⟨a, ws, n1, u⟩ g1 h1 tk1 ⟨hp, hq0⟩ T1 G1
    clear F9 N9
    obtain ⟨B1, F1, X1, N1, T1', _, _, D1⟩ := G1
    dsimp only at F1 N1 hp ⊢
    k_steps
    rename Fr _ _ _ _ => F4
    rename News _ _ _ _ => N4
    rw [hxs.length, List.take_length] at hp
    dsimp only [qk]
    exact ⟨g1, _, _, _, T1, F4, N4, fun h₀'' a1 a2 a3 a4 a5 a6 a7 => hQ a h₀'' _ _ ws n1 a1 ⟨a4, a2, a5, a3, a6, XB, TB, a7⟩ hp hq0⟩
end
end

section
open PySem PySem.W PyProof.Rows PySem.Calls
noncomputable abbrev ent (w : World) (n : Str) (t : Tok) (v : Value) : DictEntry := { hash := PyData.keyHash w.params n, key := .str n t, val := v }
noncomputable abbrev soDict (w : World) (t1 t2 t3 t4 : Tok) (d : Addr) (rv : Value) (a : Int) (ta : Tok) (b : Int) (tb : Tok) : Obj :=
  dictOf [ent w (Str.ofString "_node2info") t1 (.ref d), ent w (Str.ofString "_ready_nodes") t2 rv, ent w (Str.ofString "_npassedout") t3 (.int a ta), ent w (Str.ofString "_nfinished") t4 (.int b tb)] 4
theorem allLt_at {d : Addr} : ∀ {l : List (Addr × Obj)}, AllLt d l → ∀ p ∈ l, p.1 < d
  | [], _, p, h => nomatch h
  | q :: r, ⟨a, b⟩, p, h => by
    rcases List.mem_cons.mp h with rfl | h
    · exact a
    · exact allLt_at b p h
noncomputable abbrev infoObj (k : Int) (kt : Tok) (np : Int) (nt : Tok) (sa idx : Addr) : Obj := { cls := .ref 93, dict := some idx, data := .plain, slots := #[some (.int k kt), some (.int np nt), some (.ref sa)] }
section
variable {prog : Program} {w : World} {A₀ A : Around} {s : Shared} {base h₀ : Heap} {outer : List Env} {env : Env} {L : Addr} {m : Str → Option Value} {news : List (Addr × Obj)} {K : Frag} {p : Program} {loose : List Str} {mean : ExcName → Option Value} {mg mb : Str → Option Value}
  {R : Result → Shared → Prop} {name qual : Str} {params : Arguments} {body : List Stmt} {scope : Scope} {dV kV doc pm cdv ct oc : Value} {an od : Option Addr} {osl : Array (Option Value)} {f : Addr} {args : Args} {binds : List (Str × Value)}
/-- a call of one of the text's plain defs, the ground not turned -/
theorem code_K (B : Below A₀ base outer h₀) (F : Fr h₀ L s.heap m) (X₀ : K.In h₀) (N : News h₀ L s.heap news) (T : Top p loose mean mg mb h₀) 
    (hA : A.frames = some (env :: outer)) (hf : env.frame = some L) (hke : env.scope.kind = .function)
    (ho : K.lookup f = some ⟨oc, od, .func (fnOf name qual params body scope dV kV doc pm an cdv ct), osl⟩) (hcd : codeIn K cdv qual = true) (hroom : A.depth < recursionLimit)
    (hbind : BindsTo s (fnOf name qual params body scope dV kV doc pm an cdv ct) args binds) (hloc : ∀ y ∈ binds, scope.names.lookup y.1 = some .local)
    (h : ∀ g L' h₁, Fr h₀ L g m → Fr g L' h₁ (fun y => binds.reverse.lookup y) → News g L' h₁ news → Below A base (env :: outer) g → K.In g → Top p loose mean mg mb g → (∀ p ∈ news, p.1 < L') → s.heap.objs.size ≤ L' →
      wpAny (model prog w) (A.deeper (envOf qual scope L' f cdv)) (execs body (envOf qual scope L' f cdv))
        (fun fl s' => LeaveK h₀ L m g R (match fl with | .ret v => v | _ => .none) s')
        (fun e s' => wpAny (model prog w) (A.deeper (envOf qual scope L' f cdv)) (leaving (envOf qual scope L' f cdv) e) (fun _ s'' => R (.error e) s'') (fun e' s'' => R (.error e') s'') s')
        { s with heap := h₁, toks := s.toks + binds.length })
    (hco : scope.isCoroutine = false) (hgen : scope.isGenerator = false) (hk : scope.kind = .function)
    (hcell : ∀ x ∈ scope.names, x.2 ≠ .cell) : codeAny (model prog w) A (.call (.ref f) args) R s := by
  have X := X₀.keeps F.keep
  obtain ⟨FG, BG, st, lv⟩ := groundX (R := R) B F N hA hf hke
  refine codeAny_call_def (fd := fnOf name qual params body scope dV kV doc pm an cdv ct) (body := body) (binds := binds) hroom (X _ _ ho) rfl (T.nolimit.keeps F.keep) (codeRec_of X hcd) rfl hbind hcell hloc (fun h₁ hns hk₁ => ?_) hco hgen hk
  exact wpAny_mono (h _ s.heap.objs.size h₁ FG ⟨hns, fun b o e => hk₁ b o (of_hideAll _ e), Nat.le_of_eq (hideAll_size _ _)⟩
    (fun q hq => ⟨hk₁ _ _ (N q hq).1, Nat.ne_of_lt (Heap.lt_size (N q hq).1), hideAll_none _ (List.mem_map_of_mem hq)⟩) BG (X₀.keeps st) (T.keeps st) (fun q hq => Heap.lt_size (N q hq).1) (Nat.le_refl _)) (fun fl s' hl => lv _ _ hl) fun _ _ y => y
end
end

local macro_rules | `(tactic| walk_at "call builtin:dict.get") => `(tactic| (k_dflt (refine kdg_get1 (knd := PySem.intKind _ _) (by k_asm) (by k_mem) (by assumption) (by assumption) (intKind_is _ _ _ _) _ (by assumption) ?_; k_whole); (try dsimp only [Option.getD])))
local macro_rules | `(tactic| k_all) => `(tactic| (intro q9 hq9; (have a9 := ltN (allLt_at (by assumption : AllLt _ _) q9 hq9)); first | exact Nat.ne_of_lt a9 | exact Nat.ne_of_gt a9 | (refine neN ?_; (try dsimp only); omega)))
local macro_rules | `(tactic| k_all) => `(tactic| walk_at "T lt")
local macro_rules | `(tactic| walk_at "setItem ref int") => `(tactic| (k_dflt (refine kda_set (knd := PySem.intKind _ _) (by k_asm) (by k_asm) (by k_updF) (by assumption) (intKind_is _ _ _ _) (by assumption) ?_; k_whole); intro h' o' F' N' hd'; (try dsimp only at N'); (try k_sweep)))

local macro_rules | `(tactic| walk_at "K enter") => `(tactic| (k_dflt (refine code_K (by k_asm) (by k_asm) (by k_asm) (by k_asm) (by k_asm) rfl (by first | assumption | exact rfl) (by first | assumption | exact rfl) (by k_is) (by k_is) (by walk_at "T room") (by first | exact BindsTo.of_eq rfl | exact binds_K (by k_in) rfl (by k_is) rfl rfl rfl) (locs rfl) ?_ rfl rfl rfl (by decide); k_whole; intro g' L' h' FG' F' N' B' X' T' l1 l2; (try dsimp only); (try k_fold))))

section
open PySem PySem.W PyProof.Rows PySem.Calls
theorem freshS1 : True := by
  w_top off
  trivial
section
variable {prog p : Program} {loose : List Str} {w : World} {mg mb : Str → Option Value} {mean : ExcName → Option Value} {dp un : Nat} {gd : Option (List Code)} {env : Env} {outer : List Env} {A₀ : Around} {base h₀ : Heap} {L : Addr} {m : Str → Option Value} {rest : List (Addr × Obj)} {s : Shared} {Q E : Value → Shared → Prop}
theorem getinfo_old {x dx d ia : Addr} {rv : Value} {a b k : Int} {t1 t2 t3 t4 ta tb t : Tok} {o : Obj} {kvs : List (Int × Value)}
    (B : Below A₀ base outer h₀) (F : Fr h₀ L s.heap m) (X₀ : (hd.heap_39 w.params).In h₀) (T : Top p loose mean mg mb h₀)
    (N : News h₀ L s.heap ((x, instObj 190 dx) :: (dx, soDict w t1 t2 t3 t4 d rv a ta b tb) :: (d, o) :: rest))
    (hf : env.frame = some L) (hk : env.scope.kind = .function) (hdp : dp + 50 < recursionLimit)
    (hmod : (d == sysModules) = false)
    (hd' : o.IsDictOf (PySem.intKind prog w) kvs) (hv : valueAt kvs k = some (.ref ia))
    (hQ : ∀ h' tk, Fr h₀ L h' m → News h₀ L h' ((x, instObj 190 dx) :: (dx, soDict w t1 t2 t3 t4 d rv a ta b tb) :: (d, o) :: rest) → Q (.ref ia) { s with heap := h', toks := tk }) :
    wpAny (model prog w) (arT dp un gd env outer) (call (.ref 133) [.ref x, .int k t]) Q E s := by
  have X := X₀
  refine wpAny_call ?_
  walk_at "K enter"
  k_steps
  rename Fr _ _ _ _ => F1
  rename News _ _ _ _ => N1
  exact hQ _ _ F1 N1
theorem getinfo_new {x dx d : Addr} {rv : Value} {a b k : Int} {t1 t2 t3 t4 ta tb t : Tok} {o : Obj} {kvs : List (Int × Value)}
    (B : Below A₀ base outer h₀) (F : Fr h₀ L s.heap m) (X₀ : (hd.heap_39 w.params).In h₀) (T : Top p loose mean mg mb h₀)
    (N : News h₀ L s.heap ((x, instObj 190 dx) :: (dx, soDict w t1 t2 t3 t4 d rv a ta b tb) :: (d, o) :: rest))
    (hf : env.frame = some L) (hk : env.scope.kind = .function) (hdp : dp + 50 < recursionLimit)
    (hmod : (d == sysModules) = false) (hx : x ≠ d) (hdx : dx ≠ d) (hrest : ∀ q ∈ rest, q.1 ≠ d)
    (hd' : o.IsDictOf (PySem.intKind prog w) kvs) (hv : valueAt kvs k = none) (hsz : kvs.length ≤ sizeLine)
    (hQ : ∀ I idx sa kt nt o' h' tk, x < idx ∧ dx < idx ∧ d < idx ∧ AllLt idx rest → idx < I → I < sa → Fr h₀ L h' m → News h₀ L h' ((sa, listOf #[] 0) :: (I, infoObj k kt 0 nt sa idx) :: (idx, dictOf [] 0) :: (x, instObj 190 dx) :: (dx, soDict w t1 t2 t3 t4 d rv a ta b tb) :: (d, o') :: rest) →
      o'.IsDictOf (PySem.intKind prog w) (stored kvs k (.ref I)) → Q (.ref I) { s with heap := h', toks := tk }) :
    wpAny (model prog w) (arT dp un gd env outer) (call (.ref 133) [.ref x, .int k t]) Q E s := by
  have X := X₀
  refine wpAny_call ?_
  walk_at "K enter"
  k_steps
  rename Fr _ _ _ _ => F1
  rename News _ _ _ _ => N1
  rename Obj.IsDictOf _ _ (stored _ _ _) => hd2
  rename (_ < _ ∧ _ < _ ∧ _ < _ ∧ _ < _ ∧ _ < _ ∧ _) => l3
  exact hQ _ _ _ _ _ _ _ _ (by assumption) (by assumption) l3.1 F1 N1 hd2
end
end

section
open PySem PySem.W PyProof.Rows PySem.Calls
theorem freshN0 : True := by
  w_top off
  trivial
/-- addresses apart -/
noncomputable def Ap (l : List (Addr × Obj)) : Prop := (l.map (·.1)).Nodup
theorem Ap.head {p : Addr × Obj} {l : List (Addr × Obj)} (h : Ap (p :: l)) : ∀ q ∈ l, q.1 ≠ p.1 := fun q hq e =>
  (List.nodup_cons.mp h).1 (List.mem_map.mpr ⟨q, hq, e⟩)
theorem Ap.tail {p : Addr × Obj} {l : List (Addr × Obj)} (h : Ap (p :: l)) : Ap l := (List.nodup_cons.mp h).2
theorem Ap.cons {p : Addr × Obj} {l : List (Addr × Obj)} (h : ∀ q ∈ l, q.1 ≠ p.1) (hl : Ap l) : Ap (p :: l) :=
  List.nodup_cons.mpr ⟨fun hm => by obtain ⟨q, hq, e⟩ := List.mem_map.mp hm; exact h q hq e, hl⟩
theorem Ap.perm {l l' : List (Addr × Obj)} (h : l.Perm l') (a : Ap l) : Ap l' := (h.map _).nodup_iff.mp a
theorem Ap.same {l l' : List (Addr × Obj)} (h : l.map (·.1) = l'.map (·.1)) (a : Ap l) : Ap l' := by unfold Ap; rw [← h]; exact a
theorem Ap.right {l l' : List (Addr × Obj)} (a : Ap (l ++ l')) : Ap l' := by
  induction l with
  | nil => exact a
  | cons p l ih => exact ih a.tail
theorem Ap.fresh {p : Addr × Obj} {l : List (Addr × Obj)} (h : ∀ q ∈ l, q.1 < p.1) (hl : Ap l) : Ap (p :: l) := .cons (fun q hq => Nat.ne_of_lt (h q hq)) hl
theorem Ap.above {h₀ h : Heap} {L : Addr} {p : Addr × Obj} {l : List (Addr × Obj)} (N : News h₀ L h l) (hs : h.objs.size ≤ p.1) (hl : Ap l) : Ap (p :: l) :=
  .fresh (fun q hq => Nat.lt_of_lt_of_le (Heap.lt_size (N q hq).1) hs) hl
theorem News.perm {h₀ h : Heap} {L : Addr} {l l' : List (Addr × Obj)} (N : News h₀ L h l) (p : l.Perm l') : News h₀ L h l' := fun q hq => N q (p.mem_iff.mpr hq)
theorem allLt_in {d : Addr} : ∀ {l : List (Addr × Obj)}, (∀ p ∈ l, p.1 < d) → AllLt d l := allLt_of

/-- a node's info, its dict, its successors -/
structure Nd where
  k : Int
  ia : Addr
  idx : Addr
  sa : Addr
  np : Int
  kt : Tok
  nt : Tok
  svs : List Value
  sn : Nat
  succ : List Int
noncomputable def Nd.led (n : Nd) : List (Addr × Obj) := [(n.ia, infoObj n.k n.kt n.np n.nt n.sa n.idx), (n.idx, dictOf [] 0), (n.sa, listOf n.svs.toArray n.sn)]
noncomputable def Nd.kv (n : Nd) : Int × Value := (n.k, .ref n.ia)
noncomputable def Nd.ab (n : Nd) : Int × Int × List Int := (n.k, n.np, n.succ)
noncomputable def ndsLed (l : List Nd) : List (Addr × Obj) := l.flatMap Nd.led
/-- a sorter -/
structure So where
  x : Addr
  dx : Addr
  d : Addr
  o : Obj
  t1 : Tok
  t2 : Tok
  t3 : Tok
  t4 : Tok
  rv : Value
  a : Int
  ta : Tok
  b : Int
  tb : Tok
  nds : List Nd
noncomputable def So.led (w : World) (S : So) : List (Addr × Obj) := (S.x, instObj 190 S.dx) :: (S.dx, soDict w S.t1 S.t2 S.t3 S.t4 S.d S.rv S.a S.ta S.b S.tb) :: (S.d, S.o) :: ndsLed S.nds
noncomputable def So.ab (S : So) : List (Int × Int × List Int) := S.nds.map Nd.ab
structure So.Ok (prog : Program) (w : World) (S : So) (rest : List (Addr × Obj)) : Prop where
  mod : (S.d == sysModules) = false
  dict : S.o.IsDictOf (PySem.intKind prog w) (S.nds.map Nd.kv)
  its : ∀ n ∈ S.nds, IntsAre n.svs n.succ
  keys : (S.nds.map (·.k)).Nodup
  ap : Ap (S.led w ++ rest)
/-- a sorter's ledger, one node ahead -/
noncomputable def So.front (w : World) (S : So) (pre : List Nd) (n : Nd) (post : List Nd) (rest : List (Addr × Obj)) : List (Addr × Obj) :=
  (n.ia, infoObj n.k n.kt n.np n.nt n.sa n.idx) :: (n.idx, dictOf [] 0) :: (n.sa, listOf n.svs.toArray n.sn) :: (S.x, instObj 190 S.dx) :: (S.dx, soDict w S.t1 S.t2 S.t3 S.t4 S.d S.rv S.a S.ta S.b S.tb) :: (S.d, S.o) :: (ndsLed pre ++ ndsLed post ++ rest)
theorem So.front_perm (w : World) (S : So) {pre post : List Nd} {n : Nd} (rest : List (Addr × Obj)) (h : S.nds = pre ++ n :: post) : (S.led w ++ rest).Perm (S.front w pre n post rest) := by
  unfold So.led So.front
  rw [h]
  have e : ndsLed (pre ++ n :: post) = ndsLed pre ++ (n.led ++ ndsLed post) := by simp [ndsLed]
  rw [e]
  simp only [Nd.led, List.cons_append, List.nil_append, List.append_assoc]
  have p1 : ∀ (A B : List (Addr × Obj)) (a b c : Addr × Obj), (A ++ a :: b :: c :: B).Perm (a :: b :: c :: (A ++ B)) := fun A B a b c =>
    (List.perm_append_comm_assoc A [a, b, c] B)
  have p2 := p1 (ndsLed pre) (ndsLed post ++ rest) (n.ia, infoObj n.k n.kt n.np n.nt n.sa n.idx) (n.idx, dictOf [] 0) (n.sa, listOf n.svs.toArray n.sn)
  refine List.Perm.trans (((p2.cons _).cons _).cons _) ?_
  exact List.perm_append_comm_assoc [(S.x, instObj 190 S.dx), (S.dx, _), (S.d, S.o)] [_, _, _] _
/-- a node's key told -/
noncomputable def touchA (l : List (Int × Int × List Int)) (k : Int) : List (Int × Int × List Int) := if l.any (·.1 = k) then l else l ++ [(k, 0, [])]
/-- one node's data turned -/
noncomputable def turnA (l : List (Int × Int × List Int)) (k : Int) (f : Int × List Int → Int × List Int) : List (Int × Int × List Int) := l.map fun e => if e.1 = k then (k, f e.2) else e
theorem turnA_split {pre post : List (Int × Int × List Int)} {k : Int} {v : Int × List Int} {f : Int × List Int → Int × List Int} (h : ((pre ++ (k, v) :: post).map (·.1)).Nodup) : turnA (pre ++ (k, v) :: post) k f = pre ++ (k, f v) :: post := by
  have off : ∀ l : List (Int × Int × List Int), (∀ e ∈ l, e.1 ≠ k) → l.map (fun e => if e.1 = k then (k, f e.2) else e) = l := by
    intro l hl
    conv => rhs; rw [← List.map_id l]
    exact List.map_congr_left fun e he => by rw [if_neg (hl e he)]; rfl
  rw [List.map_append, List.map_cons, List.nodup_append] at h
  obtain ⟨_, h2, h3⟩ := h
  unfold turnA
  rw [List.map_append, List.map_cons, if_pos rfl, off pre fun e he => h3 _ (List.mem_map_of_mem he) _ (.head _), off post fun e he q => (List.nodup_cons.mp h2).1 (List.mem_map.mpr ⟨e, he, q⟩)]
theorem valueAt_nds (k : Int) : ∀ l : List Nd, valueAt (l.map Nd.kv) k = (l.find? (·.k = k)).map fun n => .ref n.ia
  | [] => rfl
  | n :: l => by
    have ih := valueAt_nds k l
    unfold valueAt at ih ⊢
    rw [List.map_cons, List.find?_cons, List.find?_cons]
    by_cases h : n.k = k
    · simp [Nd.kv, h]
    · simp only [Nd.kv, h, decide_false]
      exact ih
section
variable {prog p : Program} {loose : List Str} {w : World} {mg mb : Str → Option Value} {mean : ExcName → Option Value} {dp un : Nat} {gd : Option (List Code)} {env : Env} {outer : List Env} {A₀ : Around} {base h₀ : Heap} {L : Addr} {m : Str → Option Value} {rest : List (Addr × Obj)} {s : Shared} {Q E : Value → Shared → Prop}
theorem getinfo_spec {S : So} {k : Int} {t : Tok}
    (B : Below A₀ base outer h₀) (F : Fr h₀ L s.heap m) (X₀ : (hd.heap_39 w.params).In h₀) (T : Top p loose mean mg mb h₀)
    (N : News h₀ L s.heap (S.led w ++ rest)) (ok : S.Ok prog w rest)
    (hf : env.frame = some L) (hk : env.scope.kind = .function) (hdp : dp + 50 < recursionLimit) (hlen : S.nds.length ≤ 1000)
    (hQ : ∀ o' pre n post h' tk, Fr h₀ L h' m → News h₀ L h' (So.led w { S with o := o', nds := pre ++ n :: post } ++ rest) → So.Ok prog w { S with o := o', nds := pre ++ n :: post } rest → n.k = k →
      So.ab { S with o := o', nds := pre ++ n :: post } = touchA S.ab k → Q (.ref n.ia) { s with heap := h', toks := tk }) :
    wpAny (model prog w) (arT dp un gd env outer) (call (.ref 133) [.ref S.x, .int k t]) Q E s := by
  have hv := valueAt_nds k S.nds
  cases hfind : S.nds.find? (·.k = k) with
  | some n =>
    rw [hfind] at hv
    obtain ⟨hnk, pre, post, hsp, _⟩ := List.find?_eq_some_iff_append.mp hfind
    have hnk : n.k = k := by simpa using hnk
    refine getinfo_old B F X₀ T N hf hk hdp ok.mod ok.dict hv fun h' tk F' N' => ?_
    have e : ({ S with o := S.o, nds := pre ++ n :: post } : So) = S := by rw [← hsp]
    refine hQ S.o pre n post h' tk F' ?_ ?_ hnk ?_
    · rw [e]; exact N'
    · rw [e]; exact ok
    · rw [e]
      unfold touchA
      rw [if_pos]
      unfold So.ab
      rw [hsp, List.any_map, List.any_eq_true]
      exact ⟨n, List.mem_append_right _ (.head _), decide_eq_true hnk⟩
  | none =>
    rw [hfind] at hv
    have hno : ∀ n ∈ S.nds, n.k ≠ k := fun n hn => by simpa using List.find?_eq_none.mp hfind n hn
    have a1 := ok.ap
    have hd0 : ∀ q ∈ ndsLed S.nds ++ rest, q.1 ≠ S.d := a1.tail.tail.head
    refine getinfo_new B F X₀ T N hf hk hdp ok.mod (Ne.symm (a1.head _ (.tail _ (.head _)))) (Ne.symm (a1.tail.head _ (.head _))) hd0 ok.dict hv ?_ fun I idx sa kt nt o' h' tk hlt hI hsa F' N' hd' => ?_
    · rw [List.length_map, sizeLine_eq]; lia
    have hst : stored (S.nds.map Nd.kv) k (.ref I) = (S.nds ++ [(⟨k, I, idx, sa, 0, kt, nt, [], 0, []⟩ : Nd)]).map Nd.kv := by
      unfold stored
      rw [if_neg, List.map_append]; · rfl
      intro h
      rw [List.any_map, List.any_eq_true] at h
      obtain ⟨n, hn, e⟩ := h
      exact hno n hn (of_decide_eq_true e)
    have hp := So.front_perm w { S with o := o', nds := S.nds ++ (⟨k, I, idx, sa, 0, kt, nt, [], 0, []⟩ : Nd) :: [] } rest (pre := S.nds) (post := []) rfl
    have hR : ∀ q ∈ S.led w ++ rest, q.1 < idx := by
      intro q hq
      rcases List.mem_cons.mp hq with rfl | hq
      · exact hlt.1
      · rcases List.mem_cons.mp hq with rfl | hq
        · exact hlt.2.1
        · rcases List.mem_cons.mp hq with rfl | hq
          · exact hlt.2.2.1
          · exact allLt_at hlt.2.2.2 q hq
    refine hQ o' S.nds ⟨k, I, idx, sa, 0, kt, nt, [], 0, []⟩ [] h' tk F' (News.perm (fun q hq => N' q ?_) hp.symm) ⟨ok.mod, by rw [← hst]; exact hd', ?_, ?_, ?_⟩ rfl ?_
    · unfold So.front at hq
      simp only [ndsLed, List.flatMap_nil, List.append_nil, List.mem_cons, List.mem_append] at hq
      refine List.mem_cons.mpr ?_
      rw [List.mem_cons, List.mem_cons]
      rcases hq with h | h | h | h
      · exact .inr (.inl h)
      · exact .inr (.inr (.inl h))
      · exact .inl h
      · refine .inr (.inr (.inr ?_))
        rcases h with rfl | rfl | rfl | h
        · exact .head _
        · exact .tail _ (.head _)
        · exact .tail _ (.tail _ (.head _))
        · exact .tail _ (.tail _ (.tail _ (List.mem_append.mpr h)))
    · intro n hn
      rcases List.mem_append.mp hn with h | h
      · exact ok.its n h
      · rw [List.mem_singleton.mp h]; exact .nil
    · show ((S.nds ++ [(_ : Nd)]).map (fun n : Nd => n.k)).Nodup
      rw [List.map_append, List.nodup_append]
      refine ⟨ok.keys, by simp, fun a ha b hb e => ?_⟩
      rw [List.map_singleton, List.mem_singleton] at hb
      obtain ⟨n, hn, rfl⟩ := List.mem_map.mp ha
      exact hno n hn (e.trans hb)
    · refine Ap.perm hp.symm ?_
      unfold So.front
      have a2 : Ap ((S.x, instObj 190 S.dx) :: (S.dx, soDict w S.t1 S.t2 S.t3 S.t4 S.d S.rv S.a S.ta S.b S.tb) :: (S.d, o') :: (ndsLed S.nds ++ ndsLed [] ++ rest)) := by
        refine Ap.same ?_ a1
        simp [So.led, ndsLed]
      have hR2 : ∀ q ∈ ((S.x, instObj 190 S.dx) :: (S.dx, soDict w S.t1 S.t2 S.t3 S.t4 S.d S.rv S.a S.ta S.b S.tb) :: (S.d, o') :: (ndsLed S.nds ++ ndsLed [] ++ rest) : List (Addr × Obj)), q.1 < idx := by
        intro q hq
        have : q.1 ∈ (S.led w ++ rest).map (·.1) := by
          have := List.mem_map_of_mem (f := (·.1)) hq
          simpa [So.led, ndsLed] using this
        obtain ⟨q', hq', e⟩ := List.mem_map.mp this
        rw [← e]; exact hR q' hq'
      have b1 := ltN hI
      have b2 := ltN hsa
      refine .cons (fun q hq => ?_) (.cons (fun q hq => ?_) (.cons (fun q hq => ?_) a2))
      · rcases List.mem_cons.mp hq with rfl | hq
        · exact neN (by dsimp only; lia)
        · rcases List.mem_cons.mp hq with rfl | hq
          · exact neN (by dsimp only; lia)
          · have := ltN (hR2 q hq)
            exact neN (by dsimp only; lia)
      · rcases List.mem_cons.mp hq with rfl | hq
        · exact neN (by dsimp only; lia)
        · have := ltN (hR2 q hq)
          exact neN (by dsimp only; lia)
      · have := ltN (hR2 q hq)
        exact neN (by dsimp only; lia)
    · show (S.nds ++ [_]).map Nd.ab = _
      unfold touchA So.ab
      rw [if_neg, List.map_append]; · rfl
      intro h
      rw [List.any_map, List.any_eq_true] at h
      obtain ⟨n, hn, e⟩ := h
      exact hno n hn (of_decide_eq_true e)
end
end

local macro_rules | `(tactic| walk_at "call ref") => `(tactic| ((with_reducible show wpAny _ _ (call (Value.ref 133) [Value.ref _, Value.int _ _]) _ _ _); refine stop_in ?_))
local macro_rules | `(tactic| walk_at "K star") => `(tactic| (k_dflt (refine kpc_rest (by k_asm) (by k_asm) (by k_asm) (by k_asm) (by k_asm) rfl (by first | assumption | exact rfl) (by first | assumption | exact rfl) (by k_is) (by k_is) (by k_room) (by kl_lit) rfl (fun _ => rfl) (fun _ => locs rfl) ?_ rfl rfl rfl (by decide); k_whole; intro D' g' L' h' l1 FG' F' N' B' X' T'; (try k_lt l1); (try dsimp only); (try k_fold))))
local macro_rules | `(tactic| walk_at "call builtin:list.append") => `(tactic| (k_here; k_dflt (refine append_K (by k_asm) (by k_asm) (by k_upd) ?_ (by assumption); k_whole); intro h' F' N'; (try k_sweep)))

section
open PySem PySem.W PyProof.Rows PySem.Calls
theorem freshN1 : True := by
  w_top off
  trivial
theorem So.Ok.more {prog : Program} {w : World} {S : So} {rest : List (Addr × Obj)} {D : Addr} {o : Obj} (ok : S.Ok prog w rest) (h : S.x < D ∧ S.dx < D ∧ S.d < D ∧ AllLt D (ndsLed S.nds ++ rest)) : S.Ok prog w ((D, o) :: rest) := by
  refine ⟨ok.mod, ok.dict, ok.its, ok.keys, Ap.perm List.perm_middle.symm (Ap.fresh (fun q hq => ?_) ok.ap)⟩
  rcases List.mem_cons.mp hq with rfl | hq
  · exact h.1
  · rcases List.mem_cons.mp hq with rfl | hq
    · exact h.2.1
    · rcases List.mem_cons.mp hq with rfl | hq
      · exact h.2.2.1
      · exact allLt_at h.2.2.2 q hq
theorem So.Ok.less {prog : Program} {w : World} {S : So} {rest : List (Addr × Obj)} {q : Addr × Obj} (ok : S.Ok prog w (q :: rest)) : S.Ok prog w rest :=
  ⟨ok.mod, ok.dict, ok.its, ok.keys, Ap.tail (Ap.perm List.perm_middle ok.ap)⟩
theorem So.Ok.perm {prog : Program} {w : World} {S : So} {rest rest' : List (Addr × Obj)} (ok : S.Ok prog w rest) (h : rest.Perm rest') : S.Ok prog w rest' :=
  ⟨ok.mod, ok.dict, ok.its, ok.keys, Ap.perm (h.append_left _) ok.ap⟩
/-- one node's data turned, its addresses the same -/
theorem So.Ok.turn {prog : Program} {w : World} {S : So} {rest : List (Addr × Obj)} {pre post : List Nd} {n n' : Nd} (ok : So.Ok prog w S rest) (hs : S.nds = pre ++ n :: post) (hk : n'.k = n.k) (h1 : n'.ia = n.ia) (h2 : n'.idx = n.idx) (h3 : n'.sa = n.sa) (hi : IntsAre n'.svs n'.succ) :
    So.Ok prog w { S with nds := pre ++ n' :: post } rest := by
  obtain ⟨x, dx, d, o, t1, t2, t3, t4, rv, a, ta, b, tb, nds⟩ := S
  dsimp only at hs
  subst hs
  refine ⟨ok.mod, ?_, fun q hq => ?_, ?_, ?_⟩
  · have e : (pre ++ n' :: post).map Nd.kv = (pre ++ n :: post).map Nd.kv := by simp [Nd.kv, hk, h1]
    show Obj.IsDictOf _ _ ((pre ++ n' :: post).map Nd.kv)
    rw [e]; exact ok.dict
  · rcases List.mem_append.mp hq with hq | hq
    · exact ok.its q (List.mem_append_left _ hq)
    · rcases List.mem_cons.mp hq with rfl | hq
      · exact hi
      · exact ok.its q (List.mem_append_right _ (.tail _ hq))
  · have e : (pre ++ n' :: post).map (fun n : Nd => n.k) = (pre ++ n :: post).map (fun n : Nd => n.k) := by simp [hk]
    show ((pre ++ n' :: post).map (fun n : Nd => n.k)).Nodup
    rw [e]; exact ok.keys
  · refine Ap.same ?_ ok.ap
    simp [So.led, ndsLed, Nd.led, h1, h2, h3]
theorem So.mid (w : World) (S : So) (q : Addr × Obj) (rest : List (Addr × Obj)) : (q :: (S.x, instObj 190 S.dx) :: (S.dx, soDict w S.t1 S.t2 S.t3 S.t4 S.d S.rv S.a S.ta S.b S.tb) :: (S.d, S.o) :: (ndsLed S.nds ++ rest)).Perm (S.led w ++ q :: rest) :=
  List.Perm.symm (List.perm_middle (l₁ := S.led w))
noncomputable abbrev So.tl (w : World) (S : So) (pre post : List Nd) (rest : List (Addr × Obj)) : List (Addr × Obj) := (S.x, instObj 190 S.dx) :: (S.dx, soDict w S.t1 S.t2 S.t3 S.t4 S.d S.rv S.a S.ta S.b S.tb) :: (S.d, S.o) :: (ndsLed pre ++ ndsLed post ++ rest)
theorem So.perm_i (w : World) (S : So) {pre post : List Nd} {n : Nd} (q : Addr × Obj) (rest : List (Addr × Obj)) (h : S.nds = pre ++ n :: post) :
    (S.led w ++ q :: rest).Perm ((n.ia, infoObj n.k n.kt n.np n.nt n.sa n.idx) :: q :: (n.idx, dictOf [] 0) :: (n.sa, listOf n.svs.toArray n.sn) :: So.tl w S pre post rest) := by
  refine (List.perm_middle (l₁ := S.led w)).trans (((So.front_perm w S rest h).cons q).trans ?_)
  exact List.Perm.swap _ _ _
theorem So.perm_s (w : World) (S : So) {pre post : List Nd} {n : Nd} (q : Addr × Obj) (rest : List (Addr × Obj)) (h : S.nds = pre ++ n :: post) :
    (S.led w ++ q :: rest).Perm ((n.sa, listOf n.svs.toArray n.sn) :: q :: (n.ia, infoObj n.k n.kt n.np n.nt n.sa n.idx) :: (n.idx, dictOf [] 0) :: So.tl w S pre post rest) := by
  refine (So.perm_i w S q rest h).trans ?_
  refine List.Perm.trans (l₂ := q :: (n.sa, listOf n.svs.toArray n.sn) :: (n.ia, infoObj n.k n.kt n.np n.nt n.sa n.idx) :: (n.idx, dictOf [] 0) :: So.tl w S pre post rest) ?_ (List.Perm.swap _ _ _)
  refine (List.Perm.swap _ _ _).trans (List.Perm.cons _ ?_)
  exact (List.perm_middle (l₁ := [(n.ia, infoObj n.k n.kt n.np n.nt n.sa n.idx), (n.idx, dictOf [] 0)]))
noncomputable def pushF (v : Int) (e : Int × List Int) : Int × List Int := (e.1, e.2 ++ [v])
noncomputable def incF (c : Int) (e : Int × List Int) : Int × List Int := (e.1 + c, e.2)
noncomputable def addA (l : List (Int × Int × List Int)) (high : Int) (lows : List Int) : List (Int × Int × List Int) :=
  lows.foldl (fun l low => turnA (touchA l low) low (pushF high)) (turnA (touchA l high) high (incF lows.length))
theorem touchA_length (l : List (Int × Int × List Int)) (k : Int) : (touchA l k).length ≤ l.length + 1 := by
  unfold touchA; split <;> simp
theorem turnA_length (l : List (Int × Int × List Int)) (k : Int) (f : Int × List Int → Int × List Int) : (turnA l k f).length = l.length := by simp [turnA]
theorem So.ab_turn {S : So} {pre post : List Nd} {n : Nd} {prog : Program} {w : World} {rest : List (Addr × Obj)} (n' : Nd) (f : Int × List Int → Int × List Int) (ok : So.Ok prog w S rest) (hs : S.nds = pre ++ n :: post) (hk : n'.k = n.k) (hf : (n'.np, n'.succ) = f (n.np, n.succ)) :
    So.ab { S with nds := pre ++ n' :: post } = turnA S.ab n.k f := by
  have h := ok.keys
  rw [hs] at h
  have e : ∀ x : Nd, (pre ++ x :: post).map Nd.ab = pre.map Nd.ab ++ (x.k, x.np, x.succ) :: post.map Nd.ab := fun x => by simp [Nd.ab]
  show (pre ++ n' :: post).map Nd.ab = turnA (S.nds.map Nd.ab) n.k f
  rw [hs, e, e, turnA_split, hk, ← hf]
  simpa [Nd.ab, Function.comp_def] using h
theorem So.Ok.cons {prog : Program} {w : World} {S : So} {rest : List (Addr × Obj)} {q : Addr × Obj} (ok : S.Ok prog w rest) (h : ∀ r ∈ S.led w ++ rest, r.1 ≠ q.1) : S.Ok prog w (q :: rest) :=
  ⟨ok.mod, ok.dict, ok.its, ok.keys, Ap.perm List.perm_middle.symm (Ap.cons h ok.ap)⟩
theorem So.touch_length {S S' : So} {k : Int} (h : S'.ab = touchA S.ab k) : S'.nds.length ≤ S.nds.length + 1 := by
  have := congrArg List.length h
  have h2 := touchA_length S.ab k
  rw [← this] at h2
  simpa [So.ab] using h2
theorem touchA_all {l : List (Int × Int × List Int)} {k : Int} {c : Nat} (h : ∀ e ∈ l, e.2.2.length ≤ c) : ∀ e ∈ touchA l k, e.2.2.length ≤ c := by
  unfold touchA
  split
  · exact h
  · intro e he
    rcases List.mem_append.mp he with he | he
    · exact h e he
    · rw [List.mem_singleton.mp he]; exact Nat.zero_le _
theorem incA_all {l : List (Int × Int × List Int)} {k x : Int} {c : Nat} (h : ∀ e ∈ l, e.2.2.length ≤ c) : ∀ e ∈ turnA l k (incF x), e.2.2.length ≤ c := by
  intro e he
  obtain ⟨e', he', rfl⟩ := List.mem_map.mp he
  split
  · exact h e' he'
  · exact h e' he'
theorem ints_snoc {vs : List Value} {xs : List Int} {k : Int} {t : Tok} (h : IntsAre vs xs) : IntsAre (vs ++ [.int k t]) (xs ++ [k]) := by
  induction h with
  | nil => exact .cons _ _ .nil
  | cons n t _ ih => exact .cons _ _ ih
section
variable {prog p : Program} {loose : List Str} {w : World} {mg mb : Str → Option Value} {mean : ExcName → Option Value} {dp un : Nat} {gd : Option (List Code)} {env : Env} {outer : List Env} {A₀ : Around} {base h₀ : Heap} {L : Addr} {m : Str → Option Value} {rest : List (Addr × Obj)} {s : Shared} {Q E : Value → Shared → Prop}
theorem add2_spec {S : So} {high low : Int} {th tl : Tok} (hrv : S.rv = .none)
    (B : Below A₀ base outer h₀) (F : Fr h₀ L s.heap m) (X₀ : (hd.heap_39 w.params).In h₀) (T : Top p loose mean mg mb h₀)
    (N : News h₀ L s.heap (S.led w ++ rest)) (ok : S.Ok prog w rest)
    (hf : env.frame = some L) (hk : env.scope.kind = .function) (hdp : dp + 60 < recursionLimit) (hlen : S.nds.length ≤ 900) (hsc : ∀ e ∈ S.ab, e.2.2.length ≤ 1000)
    (hQ : ∀ o' nds' h' tk, Fr h₀ L h' m → News h₀ L h' (So.led w { S with o := o', nds := nds' } ++ rest) → So.Ok prog w { S with o := o', nds := nds' } rest →
      So.ab { S with o := o', nds := nds' } = addA S.ab high [low] → Q .none { s with heap := h', toks := tk }) :
    wpAny (model prog w) (arT dp un gd env outer) (call (.ref 140) [.ref S.x, .int high th, .int low tl]) Q E s := by
  have X := X₀
  obtain ⟨x, dx, d, o, t1, t2, t3, t4, rv, a, ta, b, tb, nds⟩ := S
  dsimp only at hrv hlen hsc hQ ⊢
  subst hrv
  have N0 := N
  dsimp only [So.led, List.cons_append] at N0
  clear N
  refine wpAny_call ?_
  walk_at "K star"
  rename_i D' _ _ _ _ _ _ _ _ _ _
  k_steps
  unfold Stop
  show wpAny (model prog w) (arT (dp + 1) (un + 3) gd _ (env :: outer)) _ _ _ _
  rename News _ _ _ _ => N1
  rename (_ < _ ∧ _ < _ ∧ _ < _ ∧ AllLt _ _) => l3
  refine getinfo_spec (S := ⟨x, dx, d, o, t1, t2, t3, t4, .none, a, ta, b, tb, nds⟩) (by assumption) (by assumption) (by assumption) (by assumption) (News.perm N1 (So.mid w ⟨x, dx, d, o, t1, t2, t3, t4, .none, a, ta, b, tb, nds⟩ _ _)) (ok.more l3) rfl rfl (by lia) (by dsimp only; lia) fun o1 pre n post h1 tk1 F1 N2 ok1 hn hab => ?_
  have N3 := News.perm N2 (So.perm_i w _ _ _ rfl)
  have A3 := (Ap.perm (So.perm_i w _ _ _ rfl) ok1.ap).head
  dsimp only [So.tl] at N3 A3
  clear N1 N2
  k_steps
  rename Fr _ _ _ _ => F4
  rename News _ _ _ _ => N4
  have hlen1 : (pre ++ n :: post).length ≤ nds.length + 1 := by
    have := congrArg List.length hab
    have h2 := touchA_length (So.ab ⟨x, dx, d, o, t1, t2, t3, t4, .none, a, ta, b, tb, nds⟩) high
    rw [← this] at h2
    simpa [So.ab] using h2
  dsimp only at hab ok1 hn
  obtain ⟨τ, N5⟩ : ∃ τ, News _ _ _ (So.led w ⟨x, dx, d, o1, t1, t2, t3, t4, .none, a, ta, b, tb, pre ++ { n with np := n.np + 1, nt := τ } :: post⟩ ++ _) :=
    ⟨_, News.perm N4 (So.perm_i w ⟨x, dx, d, o1, t1, t2, t3, t4, .none, a, ta, b, tb, pre ++ { n with np := n.np + 1, nt := _ } :: post⟩ _ rest rfl).symm⟩
  have ok2 := So.Ok.turn (n' := { n with np := n.np + 1, nt := τ }) ok1 rfl rfl rfl rfl rfl (ok1.its n (List.mem_append_right _ (.head _)))
  have hab2 := So.ab_turn { n with np := n.np + 1, nt := τ } (incF 1) ok1 rfl rfl rfl
  rw [hab] at hab2
  dsimp only at ok2 hab2
  clear N4 A3
  have hlen2 : (pre ++ { n with np := n.np + 1, nt := τ } :: post).length ≤ nds.length + 1 := by simpa using hlen1
  generalize hnds1 : (pre ++ { n with np := n.np + 1, nt := τ } :: post) = nds1 at N5 ok2 hab2 hlen2
  rw [hn] at hab2
  clear hab ok1 hlen1 hnds1
  refine forAtN_tup (σ := Obj × List Nd × Option Value × Option Value) (vs := #[.int low tl]) (k := 0) (fun st => [(Str.ofString "pred_info", st.2.2.2), (Str.ofString "pred", st.2.2.1)]) (fun st => So.led w ⟨x, dx, d, st.1, t1, t2, t3, t4, .none, a, ta, b, tb, st.2.1⟩ ++ (D', tupOf #[.int low tl] 0) :: rest)
    (fun i st => So.Ok prog w ⟨x, dx, d, st.1, t1, t2, t3, t4, .none, a, ta, b, tb, st.2.1⟩ ((D', tupOf #[.int low tl] 0) :: rest) ∧ So.ab ⟨x, dx, d, st.1, t1, t2, t3, t4, .none, a, ta, b, tb, st.2.1⟩ = ([low].take i).foldl (fun l low => turnA (touchA l low) low (pushF high)) (turnA (touchA (So.ab ⟨x, dx, d, o, t1, t2, t3, t4, .none, a, ta, b, tb, nds⟩) high) high (incF 1)) ∧ st.2.1.length ≤ nds.length + 1 + i)
    (o1, nds1, none, none) rfl F4 N5 ?_ ?_ (fun q hq => hq) ?_ ?_ ?_ ?_
  · exact List.mem_append_right _ (.head _)
  · intro q hq
    rcases List.mem_cons.mp hq with rfl | hq
    · rfl
    · rw [List.mem_singleton.mp hq]; rfl
  · intro i st _
    exact List.mem_append_right _ (.head _)
  · exact ⟨ok2, hab2, hlen2⟩
  · rintro I i v ⟨o2, nds2, u1, u2⟩ oI h2 tk2 hi hv ⟨ok3, hab3, hl3⟩ hI hob F5 N6
    clear F4 N5
    obtain rfl : i = 0 := by simpa using hi
    obtain rfl : .int low tl = v := by simpa using hv
    dsimp only at ok3 hab3 hl3 hI F5 N6
    have N7 := N6
    dsimp only [So.led, List.cons_append] at N7
    refine wpAny_pure (a := ()) ?_
    refine wpAny_assign_Name ?_
    k_steps
    unfold Stop
    show wpAny (model prog w) (arT (dp + 1) (un + 3) gd _ (env :: outer)) _ _ _ _
    rename News _ _ _ _ => N8
    refine getinfo_spec (S := ⟨x, dx, d, o2, t1, t2, t3, t4, .none, a, ta, b, tb, nds2⟩) (by assumption) (by assumption) (by assumption) (by assumption) (News.perm N8 (So.mid w ⟨x, dx, d, o2, t1, t2, t3, t4, .none, a, ta, b, tb, nds2⟩ _ _)) (ok3.cons hI) rfl rfl (by lia) (by dsimp only; lia) fun o3 pre n post h3 tk3 F6 N9 ok4 hn hab4 => ?_
    have hl4 := So.touch_length hab4
    subst hn
    have N10 := News.perm N9 (So.perm_s w _ _ _ rfl)
    have A3 := (Ap.perm (So.perm_s w _ _ _ rfl) ok4.ap).head
    have hits := ok4.its n (List.mem_append_right _ (.head _))
    dsimp only [So.tl] at N10 A3 hl4 hab4 ok4
    have hsz : n.svs.toArray.size ≤ sizeLine := by
      rw [List.size_toArray, hits.length, sizeLine_eq]
      have h5 : n.ab ∈ So.ab ⟨x, dx, d, o3, t1, t2, t3, t4, .none, a, ta, b, tb, pre ++ n :: post⟩ := List.mem_map_of_mem (List.mem_append_right _ (.head _))
      rw [hab4, hab3] at h5
      have h6 : n.succ.length ≤ 1000 := touchA_all (incA_all (touchA_all hsc)) _ h5
      lia
    (try clear N6); (try clear N7); clear N8 N9
    k_steps
    rename Fr _ _ _ _ => F7
    rename News _ _ _ _ => N11
    have ok5 := So.Ok.turn (n' := { n with svs := n.svs ++ [.int high th], sn := n.sn + 1, succ := n.succ ++ [high] }) ok4 rfl rfl rfl rfl rfl (ints_snoc hits)
    have hab5 := So.ab_turn { n with svs := n.svs ++ [.int high th], sn := n.sn + 1, succ := n.succ ++ [high] } (pushF high) ok4 rfl rfl rfl
    rw [hab4] at hab5
    dsimp only at ok5 hab5
    rw [show n.svs.toArray.push (Value.int high th) = (n.svs ++ [Value.int high th]).toArray from by simp] at N11
    refine ForEndN.intro (o3, pre ++ { n with svs := n.svs ++ [.int high th], sn := n.sn + 1, succ := n.succ ++ [high] } :: post, some (.int n.k tl), some (.ref n.ia)) hob F7
      (News.perm (News.perm N11 (So.perm_s w ⟨x, dx, d, o3, t1, t2, t3, t4, .none, a, ta, b, tb, pre ++ { n with svs := n.svs ++ [.int high th], sn := n.sn + 1, succ := n.succ ++ [high] } :: post⟩ _ _ rfl).symm) List.perm_middle) ?_ ((Ap.perm List.perm_middle ok5.ap).head) ⟨ok5.less, ?_, ?_⟩ _ (.inl rfl)
    · intro y
      dsimp only [ovr]
      repeat' split
      all_goals first | rfl | simp_all
    · dsimp only
      rw [hab5, hab3]; rfl
    · dsimp only
      have : (pre ++ { n with svs := n.svs ++ [.int high th], sn := n.sn + 1, succ := n.succ ++ [high] } :: post).length = (pre ++ n :: post).length := by simp
      lia
  · rintro ⟨o2, nds2, u1, u2⟩ h2 tk2 ⟨ok3, hab3, hl3⟩ F5 N6
    dsimp only at ok3 hab3 F5 N6
    k_steps
    rename News _ _ _ _ => N8
    exact hQ o2 nds2 _ _ (by assumption) (fun q hq => News.perm N8 List.perm_middle q (.tail _ hq)) ok3.less hab3
end
end

section
open PySem PySem.W PyProof.Rows PySem.Calls
theorem freshN2 : True := by
  w_top off
  trivial
section
variable {prog p : Program} {loose : List Str} {w : World} {mg mb : Str → Option Value} {mean : ExcName → Option Value} {dp un : Nat} {gd : Option (List Code)} {env : Env} {outer : List Env} {A₀ : Around} {base h₀ : Heap} {L : Addr} {m : Str → Option Value} {rest : List (Addr × Obj)} {s : Shared} {Q E : Value → Shared → Prop}
theorem add1_spec {S : So} {high : Int} {th : Tok} (hrv : S.rv = .none)
    (B : Below A₀ base outer h₀) (F : Fr h₀ L s.heap m) (X₀ : (hd.heap_39 w.params).In h₀) (T : Top p loose mean mg mb h₀)
    (N : News h₀ L s.heap (S.led w ++ rest)) (ok : S.Ok prog w rest)
    (hf : env.frame = some L) (hk : env.scope.kind = .function) (hdp : dp + 60 < recursionLimit) (hlen : S.nds.length ≤ 900) (hsc : ∀ e ∈ S.ab, e.2.2.length ≤ 1000)
    (hQ : ∀ o' nds' h' tk, Fr h₀ L h' m → News h₀ L h' (So.led w { S with o := o', nds := nds' } ++ rest) → So.Ok prog w { S with o := o', nds := nds' } rest →
      So.ab { S with o := o', nds := nds' } = addA S.ab high [] → Q .none { s with heap := h', toks := tk }) :
    wpAny (model prog w) (arT dp un gd env outer) (call (.ref 140) [.ref S.x, .int high th]) Q E s := by
  have X := X₀
  obtain ⟨x, dx, d, o, t1, t2, t3, t4, rv, a, ta, b, tb, nds⟩ := S
  dsimp only at hrv hlen hsc hQ ⊢
  subst hrv
  have N0 := N
  dsimp only [So.led, List.cons_append] at N0
  clear N
  refine wpAny_call ?_
  walk_at "K star"
  rename_i D' _ _ _ _ _ _ _ _ _ _
  k_steps
  unfold Stop
  show wpAny (model prog w) (arT (dp + 1) (un + 3) gd _ (env :: outer)) _ _ _ _
  rename News _ _ _ _ => N1
  rename (_ < _ ∧ _ < _ ∧ _ < _ ∧ AllLt _ _) => l3
  refine getinfo_spec (S := ⟨x, dx, d, o, t1, t2, t3, t4, .none, a, ta, b, tb, nds⟩) (by assumption) (by assumption) (by assumption) (by assumption) (News.perm N1 (So.mid w ⟨x, dx, d, o, t1, t2, t3, t4, .none, a, ta, b, tb, nds⟩ _ _)) (ok.more l3) rfl rfl (by lia) (by dsimp only; lia) fun o1 pre n post h1 tk1 F1 N2 ok1 hn hab => ?_
  have N3 := News.perm N2 (So.perm_i w _ _ _ rfl)
  have A3 := (Ap.perm (So.perm_i w _ _ _ rfl) ok1.ap).head
  dsimp only [So.tl] at N3 A3
  clear N1 N2
  k_steps
  rename Fr _ _ _ _ => F4
  rename News _ _ _ _ => N4
  have hlen1 : (pre ++ n :: post).length ≤ nds.length + 1 := by
    have := congrArg List.length hab
    have h2 := touchA_length (So.ab ⟨x, dx, d, o, t1, t2, t3, t4, .none, a, ta, b, tb, nds⟩) high
    rw [← this] at h2
    simpa [So.ab] using h2
  dsimp only at hab ok1 hn
  obtain ⟨τ, N5⟩ : ∃ τ, News _ _ _ (So.led w ⟨x, dx, d, o1, t1, t2, t3, t4, .none, a, ta, b, tb, pre ++ { n with np := n.np + 0, nt := τ } :: post⟩ ++ _) :=
    ⟨_, News.perm N4 (So.perm_i w ⟨x, dx, d, o1, t1, t2, t3, t4, .none, a, ta, b, tb, pre ++ { n with np := n.np + 0, nt := _ } :: post⟩ _ rest rfl).symm⟩
  have ok2 := So.Ok.turn (n' := { n with np := n.np + 0, nt := τ }) ok1 rfl rfl rfl rfl rfl (ok1.its n (List.mem_append_right _ (.head _)))
  have hab2 := So.ab_turn { n with np := n.np + 0, nt := τ } (incF 0) ok1 rfl rfl rfl
  rw [hab] at hab2
  dsimp only at ok2 hab2
  clear N4 A3
  have hlen2 : (pre ++ { n with np := n.np + 0, nt := τ } :: post).length ≤ nds.length + 1 := by simpa using hlen1
  generalize hnds1 : (pre ++ { n with np := n.np + 0, nt := τ } :: post) = nds1 at N5 ok2 hab2 hlen2
  rw [hn] at hab2
  clear hab ok1 hlen1 hnds1
  refine forAtN_tup (σ := Obj × List Nd × Option Value × Option Value) (vs := #[]) (k := 0) (fun st => [(Str.ofString "pred_info", st.2.2.2), (Str.ofString "pred", st.2.2.1)]) (fun st => So.led w ⟨x, dx, d, st.1, t1, t2, t3, t4, .none, a, ta, b, tb, st.2.1⟩ ++ (D', tupOf #[] 0) :: rest)
    (fun i st => So.Ok prog w ⟨x, dx, d, st.1, t1, t2, t3, t4, .none, a, ta, b, tb, st.2.1⟩ ((D', tupOf #[] 0) :: rest) ∧ So.ab ⟨x, dx, d, st.1, t1, t2, t3, t4, .none, a, ta, b, tb, st.2.1⟩ = (([] : List Int).take i).foldl (fun l low => turnA (touchA l low) low (pushF high)) (turnA (touchA (So.ab ⟨x, dx, d, o, t1, t2, t3, t4, .none, a, ta, b, tb, nds⟩) high) high (incF 0)) ∧ st.2.1.length ≤ nds.length + 1 + i)
    (o1, nds1, none, none) rfl F4 N5 ?_ ?_ (fun q hq => hq) ?_ ?_ ?_ ?_
  · exact List.mem_append_right _ (.head _)
  · intro q hq
    rcases List.mem_cons.mp hq with rfl | hq
    · rfl
    · rw [List.mem_singleton.mp hq]; rfl
  · intro i st _
    exact List.mem_append_right _ (.head _)
  · exact ⟨ok2, hab2, hlen2⟩
  · intro I i v st o h tk hi
    exact absurd hi (Nat.not_lt_zero _)
  · rintro ⟨o2, nds2, u1, u2⟩ h2 tk2 ⟨ok3, hab3, hl3⟩ F5 N6
    dsimp only at ok3 hab3 F5 N6
    k_steps
    rename News _ _ _ _ => N8
    exact hQ o2 nds2 _ _ (by assumption) (fun q hq => News.perm N8 List.perm_middle q (.tail _ hq)) ok3.less hab3
end
end

section
open PySem PySem.W PyProof.Rows PySem.Calls
theorem freshP0 : True := by
  w_top off
  trivial
theorem nodup_map_inj {α β : Type} {f : α → β} : ∀ {l : List α}, (l.map f).Nodup → ∀ a ∈ l, ∀ b ∈ l, f a = f b → a = b
  | [], _, a, ha, _, _, _ => nomatch ha
  | x :: l, h, a, ha, b, hb, e => by
    have h' := List.nodup_cons.mp h
    rcases List.mem_cons.mp ha with ea | ha2
    · rcases List.mem_cons.mp hb with eb | hb2
      · exact ea.trans eb.symm
      · exact absurd (List.mem_map.mpr ⟨b, hb2, e.symm.trans (congrArg f ea)⟩) h'.1
    · rcases List.mem_cons.mp hb with eb | hb2
      · exact absurd (List.mem_map.mpr ⟨a, ha2, e.trans (congrArg f eb)⟩) h'.1
      · exact nodup_map_inj h'.2 a ha2 b hb2 e
section
variable {prog : Program} {w : World} {A : Around} {E : Value → Shared → Prop} {s : Shared} {env : Env} {h₀ : Heap} {L : Addr} {m : Str → Option Value} {news : List (Addr × Obj)}
theorem paired_nodes : ∀ (nds : List Nd), (nds.map (·.ia)).Nodup → ∀ (p : Value → Bool) (F : Value → Value → Prop) (ys : List Value), (∀ n ∈ nds, p (.ref n.ia) = decide (n.np = 0)) → (∀ n ∈ nds, ∀ y, F (.ref n.ia) y → y = .int n.k n.kt) →
    Paired F ((nds.map fun n => Value.ref n.ia).filter p) ys → IntsAre ys ((nds.filter fun n => decide (n.np = 0)).map (·.k))
  | [], _, p, F, ys, hp, hF, h => by
    cases h; exact .nil
  | n :: nds, hn, p, F, ys, hp, hF, h => by
    rw [List.map_cons, List.filter_cons, hp n (.head _)] at h
    rw [List.filter_cons]
    have hn' := (List.nodup_cons.mp hn).2
    by_cases q : n.np = 0
    · rw [if_pos (decide_eq_true q)] at h ⊢
      cases h with
      | cons h1 h2 =>
        rw [hF n (.head _) _ h1]
        exact .cons _ _ (paired_nodes nds hn' p F _ (fun k hk => hp k (.tail _ hk)) (fun k hk => hF k (.tail _ hk)) h2)
    · rw [if_neg (by simpa using q)] at h ⊢
      exact paired_nodes nds hn' p F _ (fun k hk => hp k (.tail _ hk)) (fun k hk => hF k (.tail _ hk)) h
theorem comp_nodes {ct elt : PySem.Expr} {x : Str} {scope : Scope} {Q : Value → Shared → Prop} {v d : Addr} {o : Obj} {nds : List Nd}
    (hh : A.handled = none) (F : Fr h₀ L s.heap m) (N : News h₀ L s.heap news) (hv : (v, ({ cls := .type "dict_values", data := .fields #[.ref d] } : Obj)) ∈ news) (hd : (d, o) ∈ news) (hdict : o.IsDictOf (PySem.intKind prog w) (nds.map Nd.kv)) (hinj : (nds.map (·.ia)).Nodup) (hsz : nds.length ≤ 1000)
    (tests : ∀ n C s₃ m₃ E', n ∈ nds → s₃.heap.Ns C m₃ → m₃ x = some (.ref n.ia) → Fr h₀ L s₃.heap m → News h₀ L s₃.heap news → wpAny (model prog w) A (isTrue ct (compEnv scope C env) (eval ct (compEnv scope C env))) (fun ok s₄ => ok = decide (n.np = 0) ∧ Keeps s₃ s₄) E' s₃)
    (elts : ∀ n C s₃ m₃ E', n ∈ nds → s₃.heap.Ns C m₃ → m₃ x = some (.ref n.ia) → Fr h₀ L s₃.heap m → News h₀ L s₃.heap news → wpAny (model prog w) A (eval elt (compEnv scope C env)) (fun y s₄ => y = .int n.k n.kt ∧ Keeps s₃ s₄) E' s₃)
    (fin : ∀ D k ys h' tk, Fr h₀ L h' m → News h₀ L h' ((D, listOf ys.toArray k) :: news) → (∀ q ∈ news, q.1 ≠ D) → IntsAre ys ((nds.filter fun n => decide (n.np = 0)).map (·.k)) → Q (.ref D) { s with heap := h', toks := tk }) :
    wpAny (model prog w) A (pyIter (.ref v)) (CompPost prog w A env scope x [ct] elt Q) E s := by
  obtain ⟨ep, hda⟩ := (Heap.dictOf_iff.mpr ⟨o, (N _ hd).1, hdict⟩ : s.heap.DictOf (PySem.intKind prog w) d _).dictAt
  have hdlt : d < s.heap.objs.size := Heap.lt_size (N _ hd).1
  refine wpAny_pyIter_values ⟨_, (N _ hv).1, rfl, rfl⟩ hda ?_
  have up : ∀ (h' : Heap), (∀ b o', b ∉ [s.heap.objs.size] → (s.heap.push { cls := .type "dict_valueiterator", data := .fields #[.ref d, .int 0 0, .int (nds.map Nd.kv).length 0, .int ep 0] }).get? b = some o' → h'.get? b = some o') → ∀ b o', s.heap.get? b = some o' → h'.get? b = some o' :=
    fun h' hk b o' e => hk b o' (not_iter_of_old e) (Heap.get?_push_of_some _ e)
  unfold CompPost
  have hP : ∀ (i : Nat) (u : Value), (∃ k, (nds.map Nd.kv)[i]? = some (k, u)) → ∃ n ∈ nds, u = Value.ref n.ia := by
    rintro i u ⟨k, hk⟩
    obtain ⟨n, hn, e⟩ := List.mem_map.mp (List.mem_of_getElem? hk)
    exact ⟨n, hn, (congrArg Prod.snd e).symm⟩
  have huniq := nodup_map_inj hinj
  have hp0 : ∀ n ∈ nds, (nds.any fun n' => decide (n.ia = n'.ia) && decide (n'.np = 0)) = decide (n.np = 0) := by
    intro n hn
    rw [Bool.eq_iff_iff, List.any_eq_true]
    constructor
    · rintro ⟨n', hn', e⟩
      have e' := huniq n hn n' hn' (by simpa using (Bool.and_eq_true_iff.mp e).1)
      subst e'
      exact (Bool.and_eq_true_iff.mp e).2
    · intro e
      exact ⟨n, hn, by simpa using e⟩
  refine ⟨fun u => match u with | .ref a => nds.any fun n => decide (a = n.ia) && decide (n.np = 0) | _ => false, fun u y => ∃ n ∈ nds, u = .ref n.ia ∧ y = .int n.k n.kt, s.heap.objs.size, [s.heap.objs.size, d], [s.heap.objs.size], (nds.map Nd.kv).length, _, _, rfl,
    Walks.dictValues (knd := PySem.intKind prog w) hh _ d (Nat.ne_of_lt hdlt) _ ep, by rw [List.length_map, sizeLine_eq]; lia, ⟨⟨_, Heap.get?_push_size _ rfl, rfl, rfl⟩, hda.push _⟩, ?_, ⟨?_, ?_⟩, ?_⟩
  · intro b hb
    show b < (s.heap.push _).objs.size
    rw [Heap.size_push]
    rcases List.mem_cons.mp hb with rfl | hb
    · exact Nat.lt_succ_self _
    · rw [List.mem_singleton.mp hb]; exact Nat.lt_succ_of_lt hdlt
  · intro C i u s₃ m₃ E' hPi hn hm hk htk
    obtain ⟨n, hn', rfl⟩ := hP i u hPi
    refine wpAny_tests_one ?_
    refine wpAny_mono (tests n C s₃ m₃ E' hn' hn hm (F.keeps (up _ hk)) (N.grown (up _ hk))) (fun ok s₄ h => ⟨?_, h.2⟩) fun _ _ e => e
    dsimp only
    rw [h.1, hp0 n hn']
  · intro C i u s₃ m₃ E' hPi hp hn hm hk htk
    obtain ⟨n, hn', rfl⟩ := hP i u hPi
    exact wpAny_mono (elts n C s₃ m₃ E' hn' hn hm (F.keeps (up _ hk)) (N.grown (up _ hk))) (fun y s₄ h => ⟨⟨n, hn', rfl, h.1⟩, h.2⟩) fun _ _ e => e
  · intro D h' tk ys vs hnew hlD hplD hlen hPv hF hk
    have e : vs = nds.map fun n => Value.ref n.ia := by
      apply List.ext_getElem?
      intro j
      cases e : vs[j]? with
      | some u =>
        obtain ⟨k, hk⟩ := hPv j u e
        rw [List.getElem?_map] at hk ⊢
        cases hj : nds[j]? with
        | none => rw [hj] at hk; cases hk
        | some n =>
          rw [hj] at hk
          have : Nd.kv n = (k, u) := Option.some.inj hk
          exact congrArg some (congrArg Prod.snd this).symm
      | none =>
        have h1 : vs.length ≤ j := List.getElem?_eq_none_iff.mp e
        symm
        rw [List.getElem?_eq_none_iff]
        rw [List.length_map] at hlen ⊢
        lia
    subst e
    obtain ⟨k, hD⟩ := hplD
    have hfree : ∀ b o, s.heap.get? b = some o → b ≠ D := fun b o e q => by rw [← q, Heap.get?_push_of_some _ e] at hnew; cases hnew
    refine fin D k ys.toList h' tk (F.keeps (up h' hk)) (fun q hq => ?_) (fun q hq => hfree _ _ (N q hq).1) (paired_nodes nds hinj _ _ _ (fun n hn => hp0 n hn) ?_ hF)
    · rcases List.mem_cons.mp hq with rfl | hq
      · refine ⟨by simpa using hD, fun q => ?_, ?_⟩
        · obtain ⟨oL, _, _, hL, _⟩ := F.ns
          exact hfree _ _ hL q.symm
        · cases e : h₀.get? D with
          | none => rfl
          | some o' => exact absurd rfl (hfree _ _ (F.keep _ _ e))
      · exact N.grown (up h' hk) q hq
    · rintro n hn y ⟨n', hn', e, rfl⟩
      have := huniq n hn n' hn' (by injection e)
      subst this; rfl
end
end

section
open PySem PySem.W PyProof.Rows PySem.Calls
theorem freshC0 : True := by
  w_top off
  trivial
/-- an entry of the walk's stack: a node, its iterator, the iterator's bound __next__, how far -/
structure Se where
  n : Nd
  kt : Tok
  I : Addr
  W : Addr
  i : Nat
noncomputable def Se.led (e : Se) : List (Addr × Obj) := [(e.I, itObj e.n.sa e.i), (e.W, mwObj "list_iterator.__next__" e.I)]
noncomputable abbrev stkLed (l : List Se) : List (Addr × Obj) := l.flatMap Se.led
noncomputable abbrev stkVs (l : List Se) : List Value := l.map fun e => .int e.n.k e.kt
noncomputable abbrev stkWs (l : List Se) : List Value := l.map fun e => .ref e.W
noncomputable def wsum (f : Nd → Nat) : List Nd → (Int → Bool) → Nat
  | [], _ => 0
  | n :: l, sf => (if sf n.k = true then 0 else f n) + wsum f l sf
noncomputable abbrev muA (nds : List Nd) (sf : Int → Bool) : Nat := wsum (fun n => n.succ.length + 2) nds sf
noncomputable abbrev unsN (nds : List Nd) (sf : Int → Bool) : Nat := wsum (fun _ => 1) nds sf
noncomputable def muB (l : List Se) : Nat := (l.map fun e => e.n.succ.length - e.i + 1).sum
theorem muB_append (a b : List Se) : muB (a ++ b) = muB a + muB b := by simp [muB]
theorem muB_one (e : Se) : muB [e] = e.n.succ.length - e.i + 1 := by simp [muB]
theorem wsum_mono (f : Nd → Nat) (k : Int) (sf : Int → Bool) : ∀ l : List Nd, wsum f l (fun k' => sf k' || decide (k' = k)) ≤ wsum f l sf
  | [] => Nat.le_refl _
  | y :: l => by
    have ih := wsum_mono f k sf l
    simp only [wsum]
    by_cases h1 : sf y.k = true
    · simp only [h1, Bool.true_or, if_true]; lia
    · by_cases h2 : y.k = k
      · simp only [h1, h2, decide_true, Bool.or_true, if_true]; lia
      · simp only [h1, h2, decide_false, Bool.or_false, if_false]; lia
theorem wsum_push (f : Nd → Nat) {sf : Int → Bool} {n : Nd} (hs : sf n.k = false) : ∀ {nds : List Nd}, n ∈ nds → wsum f nds (fun k' => sf k' || decide (k' = n.k)) + f n ≤ wsum f nds sf
  | x :: l, hn => by
    simp only [wsum]
    rcases List.mem_cons.mp hn with e | hn
    · subst e
      have := wsum_mono f n.k sf l
      simp only [hs, decide_true, Bool.or_true, if_true, Bool.false_eq_true, if_false]; lia
    · have := wsum_push f hs hn
      by_cases h1 : sf x.k = true
      · simp only [h1, Bool.true_or, if_true]; lia
      · by_cases h2 : x.k = n.k
        · simp only [h1, h2, decide_true, Bool.or_true, if_true, if_false]; lia
        · simp only [h1, h2, decide_false, Bool.or_false, if_false]; lia
/-- what holds of the walk at every turn -/
structure Cy (nds : List Nd) (sf : Int → Bool) (c : Nat) (stk : List Se) : Prop where
  seen : ∀ e ∈ stk, sf e.n.k = true
  mem : ∀ e ∈ stk, e.n ∈ nds
  inc : (stk.map fun e => e.n.k).Pairwise (· < ·)
  idx : ∀ e ∈ stk, e.i ≤ e.n.succ.length
  cnt : c + unsN nds sf ≤ nds.length
  len : stk.length + unsN nds sf ≤ nds.length
theorem Cy.pop {nds : List Nd} {sf : Int → Bool} {c : Nat} {stk : List Se} {e : Se} (h : Cy nds sf c (stk ++ [e])) : Cy nds sf c stk :=
  ⟨fun x hx => h.seen x (List.mem_append_left _ hx), fun x hx => h.mem x (List.mem_append_left _ hx), by
    have := h.inc
    rw [List.map_append, List.pairwise_append] at this
    exact this.1, fun x hx => h.idx x (List.mem_append_left _ hx), h.cnt, by have := h.len; rw [List.length_append] at this; lia⟩
theorem Cy.below {nds : List Nd} {sf : Int → Bool} {c : Nat} {stk : List Se} {e : Se} (h : Cy nds sf c (stk ++ [e])) : ∀ x ∈ stk, x.n.k < e.n.k := fun x hx => by
  have := h.inc
  rw [List.map_append, List.pairwise_append] at this
  exact this.2.2 _ (List.mem_map_of_mem hx) _ (by simp)
theorem Cy.step {nds : List Nd} {sf : Int → Bool} {c : Nat} {stk : List Se} {e : Se} (h : Cy nds sf c (stk ++ [e])) (hi : e.i < e.n.succ.length) : Cy nds sf c (stk ++ [{ e with i := e.i + 1 }]) := by
  refine ⟨fun x hx => ?_, fun x hx => ?_, by simpa using h.inc, fun x hx => ?_, h.cnt, by simpa using h.len⟩
  · rcases List.mem_append.mp hx with hx | hx
    · exact h.seen x (List.mem_append_left _ hx)
    · rw [List.mem_singleton.mp hx]; exact h.seen e (List.mem_append_right _ (.head _))
  · rcases List.mem_append.mp hx with hx | hx
    · exact h.mem x (List.mem_append_left _ hx)
    · rw [List.mem_singleton.mp hx]; exact h.mem e (List.mem_append_right _ (.head _))
  · rcases List.mem_append.mp hx with hx | hx
    · exact h.idx x (List.mem_append_left _ hx)
    · rw [List.mem_singleton.mp hx]; exact hi
theorem Cy.push {nds : List Nd} {sf : Int → Bool} {c : Nat} {stk : List Se} {n : Nd} {kt : Tok} {I W : Addr} (h : Cy nds sf c stk) (hn : n ∈ nds) (hs : sf n.k = false) (hlow : ∀ x ∈ stk, x.n.k < n.k) :
    Cy nds (fun k' => sf k' || decide (k' = n.k)) (c + 1) (stk ++ [⟨n, kt, I, W, 0⟩]) := by
  refine ⟨fun x hx => ?_, fun x hx => ?_, ?_, fun x hx => ?_, ?_, ?_⟩
  · rcases List.mem_append.mp hx with hx | hx
    · simp [h.seen x hx]
    · rw [List.mem_singleton.mp hx]; simp
  · rcases List.mem_append.mp hx with hx | hx
    · exact h.mem x hx
    · rw [List.mem_singleton.mp hx]; exact hn
  · rw [List.map_append, List.pairwise_append]
    refine ⟨h.inc, by simp, fun a ha b hb => ?_⟩
    obtain ⟨x, hx, rfl⟩ := List.mem_map.mp ha
    rw [List.map_singleton, List.mem_singleton] at hb
    rw [hb]; exact hlow x hx
  · rcases List.mem_append.mp hx with hx | hx
    · exact h.idx x hx
    · rw [List.mem_singleton.mp hx]; exact Nat.zero_le _
  · have h1 := wsum_push (fun _ => 1) hs hn
    have h2 := h.cnt
    show c + 1 + unsN nds _ ≤ _
    unfold unsN at h2 ⊢
    lia
  · have h1 := wsum_push (fun _ => 1) hs hn
    have h2 := h.len
    rw [List.length_append]
    show stk.length + 1 + unsN nds _ ≤ _
    unfold unsN at h2 ⊢
    lia
theorem ap6 {p1 p2 p3 p4 p5 p6 : Addr × Obj} {T : List (Addr × Obj)} (A : Ap (p1 :: p2 :: p3 :: p4 :: p5 :: p6 :: T)) :
    (@Ne Nat p1.1 p2.1 ∧ @Ne Nat p1.1 p3.1 ∧ @Ne Nat p1.1 p4.1 ∧ @Ne Nat p1.1 p5.1 ∧ @Ne Nat p1.1 p6.1 ∧ ∀ q ∈ T, q.1 ≠ p1.1) ∧ (@Ne Nat p2.1 p3.1 ∧ @Ne Nat p2.1 p4.1 ∧ @Ne Nat p2.1 p5.1 ∧ @Ne Nat p2.1 p6.1 ∧ ∀ q ∈ T, q.1 ≠ p2.1) ∧
    (@Ne Nat p3.1 p4.1 ∧ @Ne Nat p3.1 p5.1 ∧ @Ne Nat p3.1 p6.1 ∧ ∀ q ∈ T, q.1 ≠ p3.1) ∧ (@Ne Nat p4.1 p5.1 ∧ @Ne Nat p4.1 p6.1 ∧ ∀ q ∈ T, q.1 ≠ p4.1) ∧ (@Ne Nat p5.1 p6.1 ∧ ∀ q ∈ T, q.1 ≠ p5.1) ∧ (∀ q ∈ T, q.1 ≠ p6.1) := by
  have h1 := A.head
  have h2 := A.tail.head
  have h3 := A.tail.tail.head
  have h4 := A.tail.tail.tail.head
  have h5 := A.tail.tail.tail.tail.head
  have h6 := A.tail.tail.tail.tail.tail.head
  simp only [List.mem_cons, forall_eq_or_imp] at h1 h2 h3 h4 h5 h6
  exact ⟨⟨Ne.symm h1.1, Ne.symm h1.2.1, Ne.symm h1.2.2.1, Ne.symm h1.2.2.2.1, Ne.symm h1.2.2.2.2.1, h1.2.2.2.2.2⟩, ⟨Ne.symm h2.1, Ne.symm h2.2.1, Ne.symm h2.2.2.1, Ne.symm h2.2.2.2.1, h2.2.2.2.2⟩, ⟨Ne.symm h3.1, Ne.symm h3.2.1, Ne.symm h3.2.2.1, h3.2.2.2⟩, ⟨Ne.symm h4.1, Ne.symm h4.2.1, h4.2.2⟩, ⟨Ne.symm h5.1, h5.2⟩, h6⟩
theorem ap4 {p3 p4 p5 p6 : Addr × Obj} {T : List (Addr × Obj)} (A : Ap (p3 :: p4 :: p5 :: p6 :: T)) :
    (@Ne Nat p3.1 p4.1 ∧ @Ne Nat p3.1 p5.1 ∧ @Ne Nat p3.1 p6.1 ∧ ∀ q ∈ T, q.1 ≠ p3.1) ∧ (@Ne Nat p4.1 p5.1 ∧ @Ne Nat p4.1 p6.1 ∧ ∀ q ∈ T, q.1 ≠ p4.1) ∧ (@Ne Nat p5.1 p6.1 ∧ ∀ q ∈ T, q.1 ≠ p5.1) ∧ (∀ q ∈ T, q.1 ≠ p6.1) := by
  have h3 := A.head
  have h4 := A.tail.head
  have h5 := A.tail.tail.head
  have h6 := A.tail.tail.tail.head
  simp only [List.mem_cons, forall_eq_or_imp] at h3 h4 h5 h6
  exact ⟨⟨Ne.symm h3.1, Ne.symm h3.2.1, Ne.symm h3.2.2.1, h3.2.2.2⟩, ⟨Ne.symm h4.1, Ne.symm h4.2.1, h4.2.2⟩, ⟨Ne.symm h5.1, h5.2⟩, h6⟩
noncomputable abbrev cyLed (dn ss li ls : Addr) (od so : Obj) (a b : Nat) (stk : List Se) (tail : List (Addr × Obj)) : List (Addr × Obj) :=
  (dn, od) :: (ss, so) :: (li, listOf (stkWs stk).toArray b) :: (ls, listOf (stkVs stk).toArray a) :: (stkLed stk ++ tail)
/-- with the top entry ahead -/
theorem cyLed_top {dn ss li ls : Addr} {od so : Obj} {a b : Nat} {stk : List Se} {e : Se} {tail : List (Addr × Obj)} : (cyLed dn ss li ls od so a b (stk ++ [e]) tail).Perm ((e.I, itObj e.n.sa e.i) :: (e.W, mwObj "list_iterator.__next__" e.I) :: (dn, od) :: (ss, so) :: (li, listOf (stkWs stk ++ [Value.ref e.W]).toArray b) :: (ls, listOf (stkVs stk ++ [Value.int e.n.k e.kt]).toArray a) :: (stkLed stk ++ tail)) := by
  have e1 : stkLed (stk ++ [e]) ++ tail = stkLed stk ++ ((e.I, itObj e.n.sa e.i) :: (e.W, mwObj "list_iterator.__next__" e.I) :: tail) := by simp [stkLed, Se.led]
  unfold cyLed
  rw [e1, show stkWs (stk ++ [e]) = stkWs stk ++ [Value.ref e.W] from by simp, show stkVs (stk ++ [e]) = stkVs stk ++ [Value.int e.n.k e.kt] from by simp]
  have p1 : (stkLed stk ++ ((e.I, itObj e.n.sa e.i) :: (e.W, mwObj "list_iterator.__next__" e.I) :: tail)).Perm ((e.I, itObj e.n.sa e.i) :: (e.W, mwObj "list_iterator.__next__" e.I) :: (stkLed stk ++ tail)) := (List.perm_append_comm_assoc (stkLed stk) [_, _] tail)
  refine List.Perm.trans ((((p1.cons _).cons _).cons _).cons _) ?_
  exact List.perm_append_comm_assoc [(dn, od), (ss, so), (li, _), (ls, _)] [_, _] _
theorem wsum_all (sf : Int → Bool) : ∀ l : List Nd, wsum (fun _ => 1) l sf ≤ l.length
  | [] => Nat.le_refl _
  | n :: l => by
    have := wsum_all sf l
    simp only [wsum, List.length_cons]
    split <;> lia
structure C1s where
  od : Obj
  so : Obj
  sf : Int → Bool
  c : Nat
  a : Nat
  b : Nat
  v : Option Value
structure C2s where
  od : Obj
  so : Obj
  kvs : List (Int × Value)
  sf : Int → Bool
  c : Nat
  a : Nat
  b : Nat
  stk : List Se
  k : Int
  t : Tok
theorem ap5 {p2 p3 p4 p5 p6 : Addr × Obj} {T : List (Addr × Obj)} (A : Ap (p2 :: p3 :: p4 :: p5 :: p6 :: T)) :
    (@Ne Nat p2.1 p3.1 ∧ @Ne Nat p2.1 p4.1 ∧ @Ne Nat p2.1 p5.1 ∧ @Ne Nat p2.1 p6.1 ∧ ∀ q ∈ T, q.1 ≠ p2.1) ∧
    (@Ne Nat p3.1 p4.1 ∧ @Ne Nat p3.1 p5.1 ∧ @Ne Nat p3.1 p6.1 ∧ ∀ q ∈ T, q.1 ≠ p3.1) ∧ (@Ne Nat p4.1 p5.1 ∧ @Ne Nat p4.1 p6.1 ∧ ∀ q ∈ T, q.1 ≠ p4.1) ∧ (@Ne Nat p5.1 p6.1 ∧ ∀ q ∈ T, q.1 ≠ p5.1) ∧ (∀ q ∈ T, q.1 ≠ p6.1) := by
  have h2 := A.head
  simp only [List.mem_cons, forall_eq_or_imp] at h2
  exact ⟨⟨Ne.symm h2.1, Ne.symm h2.2.1, Ne.symm h2.2.2.1, Ne.symm h2.2.2.2.1, h2.2.2.2.2⟩, ap4 A.tail⟩
section
variable {prog : Program} {w : World} {A : Around} {E : Value → Shared → Prop} {s : Shared} {h₀ : Heap} {L sa : Addr} {m : Str → Option Value} {news : List (Addr × Obj)} {so : Obj} {S : Int → Bool} {n : Nat} {k : Int} {t : Tok}
theorem set_in {Q : Value → Shared → Prop} (N : News h₀ L s.heap news) (hp : (sa, so) ∈ news) (hso : so.SetObjOf (PySem.intKind prog w) S n) (hb : n < scanBound) (h : Q (.bool (S k)) { s with toks := s.toks + 1 }) :
    wpAny (model prog w) A (compareOp .In (.int k t) (.ref sa)) Q E s := by
  obtain ⟨pre, post, rfl⟩ := List.append_of_mem hp
  exact in_sl1 N hso hb (intKind_is _ _ _ _) rfl h
theorem set_addM {pl : Sem Bool} {Q : Value × List Value → Shared → Prop} (N : News h₀ L s.heap news) (hp : (sa, so) ∈ news) (hso : so.SetObjOf (PySem.intKind prog w) S n) (hb : n < scanBound) (h : Q (.builtin "set.add", [.ref sa]) s) :
    wpAny (model prog w) A (getMethod (.ref sa) "add" pl) Q E s := by
  obtain ⟨pre, post, rfl⟩ := List.append_of_mem hp
  exact getMethod_add_sl1 N hso hb h
end
theorem Cy.start (nds : List Nd) : Cy nds (fun _ => false) 0 [] := by
  have := wsum_all (fun _ => false) nds
  refine ⟨(fun _ h => nomatch h), (fun _ h => nomatch h), List.Pairwise.nil, (fun _ h => nomatch h), ?_, ?_⟩
  · unfold unsN; lia
  · unfold unsN; simp only [List.length_nil]; lia
section
variable {prog : Program} {w : World} {A : Around} {E : Value → Shared → Prop} {s : Shared} {h₀ : Heap} {L l : Addr} {m : Str → Option Value} {news : List (Addr × Obj)} {vs : List Value} {v : Value} {n : Nat}
theorem truthy_nilK {Q : Bool → Shared → Prop} (N : News h₀ L s.heap news) (hp : (l, listOf #[] n) ∈ news) (h : Q false { s with toks := s.toks + 1 + 1 }) : wpAny (model prog w) A (truthy (.ref l)) Q E s :=
  wpAny_truthy_list ⟨_, (N _ hp).1, rfl, n, rfl⟩ (by show (0 : Int) < 2 ^ 63; decide) h
theorem truthy_snocK {Q : Bool → Shared → Prop} (N : News h₀ L s.heap news) (hp : (l, listOf (vs ++ [v]).toArray n) ∈ news) (hz : (vs ++ [v]).length ≤ sizeLine) (h : Q true { s with toks := s.toks + 1 + 1 }) : wpAny (model prog w) A (truthy (.ref l)) Q E s :=
  wpAny_truthy_list ⟨_, (N _ hp).1, rfl, n, rfl⟩ (by rw [List.size_toArray]; rw [sizeLine_eq] at hz; lia) (by
    have e : (!(vs ++ [v]).toArray.isEmpty) = true := by simp [Array.isEmpty]
    rw [e]; exact h)
theorem item_lastK {value slice : PySem.Expr} {u : Tok} {Q : Value → Shared → Prop} (N : News h₀ L s.heap news) (hm : (l, listOf (vs ++ [v]).toArray n) ∈ news) (hz : (vs ++ [v]).length ≤ sizeLine) (h : Q v s)
    (hs : subscripted slice false (.ref l) (.int (-1) u) = operate [.ref l, .int (-1) u] (getItem (.ref l) (.int (-1) u)) := by with_unfolding_all rfl) (hg : ∀ r, letTemporaryGo value (.ref l) r = pure () := by intro _; with_unfolding_all rfl) :
    wpAny (model prog w) A (subscriptTail value slice (.ref l) (.int (-1) u)) Q E s :=
  kim_back N hm rfl rfl (by decide) (by rw [List.length_append, List.length_singleton]; lia) (by decide) (by
    have e : (-1 + ((vs ++ [v]).length : Int)).toNat = vs.length := by rw [List.length_append, List.length_singleton]; lia
    rw [e]; simp) h hs hg
theorem len_listK {Q : Value → Shared → Prop} (N : News h₀ L s.heap news) (hp : (l, listOf vs.toArray n) ∈ news) (hz : vs.length ≤ sizeLine) (h : Q (.int vs.length (s.toks + 1)) { s with toks := s.toks + 1 + 1 }) :
    wpAny (model prog w) A (call (.builtin "len") [.ref l]) Q E s :=
  call_len_list ⟨_, (N _ hp).1, rfl, n, rfl⟩ (by rw [List.size_toArray]; rw [sizeLine_eq] at hz; lia) (by rw [List.size_toArray]; exact h)
end
theorem set_inB {prog : Program} {w : World} {A : Around} {E : Value → Shared → Prop} {s : Shared} {h₀ : Heap} {L sa : Addr} {news : List (Addr × Obj)} {so : Obj} {S : Int → Bool} {n : Nat} {k : Int} {t : Tok} {b : Bool} {Q : Value → Shared → Prop} (N : News h₀ L s.heap news) (hp : (sa, so) ∈ news) (hso : so.SetObjOf (PySem.intKind prog w) S n) (hz : n < scanBound) (hb : S k = b) (h : Q (.bool b) { s with toks := s.toks + 1 }) :
    wpAny (model prog w) A (compareOp .In (.int k t) (.ref sa)) Q E s := set_in N hp hso hz (by rw [hb]; exact h)
theorem truthy_listB {prog : Program} {w : World} {A : Around} {E : Value → Shared → Prop} {s : Shared} {h₀ : Heap} {L l : Addr} {news : List (Addr × Obj)} {vs : List Value} {n : Nat} {b : Bool} {Q : Bool → Shared → Prop} (N : News h₀ L s.heap news) (hp : (l, listOf vs.toArray n) ∈ news) (hb : (!vs.isEmpty) = b) (hz : vs.length ≤ sizeLine) (h : Q b { s with toks := s.toks + 1 + 1 }) :
    wpAny (model prog w) A (truthy (.ref l)) Q E s :=
  wpAny_truthy_list ⟨_, (N _ hp).1, rfl, n, rfl⟩ (by rw [List.size_toArray]; rw [sizeLine_eq] at hz; lia) (by
    have e : (!vs.toArray.isEmpty) = b := by rw [← hb]; simp
    rw [e]; exact h)
theorem find_key {k : Int} : ∀ {nds : List Nd}, (nds.map (·.k)).Nodup → ∀ {n : Nd}, n ∈ nds → n.k = k → nds.find? (·.k = k) = some n
  | x :: l, hn, n, hm, e => by
    have h' := List.nodup_cons.mp hn
    rw [List.find?_cons]
    rcases List.mem_cons.mp hm with rfl | hm
    · simp [e]
    · have hne : ¬ x.k = k := fun q => h'.1 (List.mem_map.mpr ⟨n, hm, e.trans q.symm⟩)
      simp only [hne, decide_false]
      exact find_key h'.2 hm e
theorem valueAt_mem {nds : List Nd} (hk : (nds.map (·.k)).Nodup) {n : Nd} (hn : n ∈ nds) : valueAt (nds.map Nd.kv) n.k = some (.ref n.ia) := by
  rw [valueAt_nds, find_key hk hn rfl]; rfl
theorem nd_mem {nds : List Nd} {n : Nd} (hn : n ∈ nds) {q : Addr × Obj} (hq : q ∈ n.led) : q ∈ ndsLed nds := List.mem_flatMap.mpr ⟨n, hn, hq⟩
theorem valueAt_no {kvs : List (Int × Value)} {k : Int} (h : k ∉ kvs.map (·.1)) : valueAt kvs k = none := by
  unfold valueAt
  rw [Option.map_eq_none_iff, List.find?_eq_none]
  intro q hq e
  exact h (List.mem_map.mpr ⟨q, hq, of_decide_eq_true e⟩)
theorem valueAt_yes {kvs : List (Int × Value)} {k : Int} (h : k ∈ kvs.map (·.1)) : (valueAt kvs k).isSome = true := by
  obtain ⟨q, hq, e⟩ := List.mem_map.mp h
  unfold valueAt
  rw [Option.isSome_map, List.find?_isSome]
  exact ⟨q, hq, decide_eq_true e⟩
theorem stored_keys {kvs : List (Int × Value)} {k : Int} {v : Value} (h : k ∉ kvs.map (·.1)) : (stored kvs k v).map (·.1) = kvs.map (·.1) ++ [k] := by
  unfold stored
  rw [if_neg, List.map_append]; · rfl
  intro e
  obtain ⟨q, hq, e⟩ := List.any_eq_true.mp e
  exact h (List.mem_map.mpr ⟨q, hq, of_decide_eq_true e⟩)
theorem without_keys {kvs : List (Int × Value)} {k : Int} {ks : List Int} (h : kvs.map (·.1) = ks ++ [k]) (hn : k ∉ ks) : (without kvs k).map (·.1) = ks := by
  have : ∀ (kvs : List (Int × Value)), (without kvs k).map (·.1) = (kvs.map (·.1)).filter (fun x => decide (x ≠ k)) := by
    intro kvs
    induction kvs with
    | nil => rfl
    | cons q l ih =>
      unfold without at ih ⊢
      rw [List.filter_cons, List.map_cons, List.filter_cons]
      split <;> simp_all
  rw [this, h, List.filter_append]
  have e1 : ks.filter (fun x => decide (x ≠ k)) = ks := List.filter_eq_self.mpr fun x hx => decide_eq_true fun q => hn (q ▸ hx)
  rw [e1]; simp
section
variable {dn ss li ls : Addr} {od so od' so' : Obj} {a b : Nat} {stk : List Se} {tail : List (Addr × Obj)} {n : Nd} {kt : Tok} {In W : Addr} {g h : Heap} {L : Addr}
theorem cy_pushed (N : News g L h ((W, mwObj "list_iterator.__next__" In) :: (In, itObj n.sa 0) :: (dn, od) :: (ss, so) :: (li, listOf ((stkWs stk).toArray.push (.ref W)) (b + 1)) :: (ls, listOf ((stkVs stk).toArray.push (.int n.k kt)) (a + 1)) :: (stkLed stk ++ tail))) :
    News g L h (cyLed dn ss li ls od so (a + 1) (b + 1) (stk ++ [⟨n, kt, In, W, 0⟩]) tail) := by
  refine News.perm (News.perm N ?_) cyLed_top.symm
  rw [List.push_toArray, List.push_toArray]
  exact List.Perm.swap _ _ _
theorem ap_pushed (A : Ap (cyLed dn ss li ls od so a b stk tail)) (h1 : AllLt In (cyLed dn ss li ls od so a b stk tail)) (h2 : In < W) (a' b' : Nat) :
    Ap (cyLed dn ss li ls od' so' a' b' (stk ++ [⟨n, kt, In, W, 0⟩]) tail) := by
  refine Ap.perm cyLed_top.symm ?_
  have e : Ap ((dn, od') :: (ss, so') :: (li, listOf (stkWs stk ++ [Value.ref W]).toArray b') :: (ls, listOf (stkVs stk ++ [Value.int n.k kt]).toArray a') :: (stkLed stk ++ tail)) := Ap.same (by simp) A
  have f : ∀ q ∈ ((dn, od') :: (ss, so') :: (li, listOf (stkWs stk ++ [Value.ref W]).toArray b') :: (ls, listOf (stkVs stk ++ [Value.int n.k kt]).toArray a') :: (stkLed stk ++ tail) : List (Addr × Obj)), q.1 < In := by
    intro q hq
    have : q.1 ∈ (cyLed dn ss li ls od so a b stk tail).map (·.1) := by
      have := List.mem_map_of_mem (f := (·.1)) hq
      simpa using this
    obtain ⟨q', hq', e⟩ := List.mem_map.mp this
    rw [← e]; exact allLt_at h1 q' hq'
  refine Ap.cons (fun q hq => ?_) (Ap.cons (fun q hq => Nat.ne_of_lt (Nat.lt_trans (f q hq) h2)) e)
  rcases List.mem_cons.mp hq with rfl | hq
  · exact Nat.ne_of_gt h2
  · exact Nat.ne_of_lt (f q hq)
end
theorem snoc_cases {α : Type} (l : List α) : l = [] ∨ ∃ a e, l = a ++ [e] := by
  rcases List.eq_nil_or_concat l with h | ⟨a, e, h⟩
  · exact .inl h
  · exact .inr ⟨a, e, by rw [h, List.concat_eq_append]⟩
end

section
open PySem PySem.W PyProof.Rows PySem.Calls
theorem freshC1 : True := by
  w_top off
  trivial
local macro_rules | `(tactic| walk_at "compareOp In int ref") => `(tactic| (k_dflt (first | (refine set_inB (by k_asm) (by k_mem) (by assumption) (by assumption) (by assumption) ?_; k_whole) | (refine set_in (by k_asm) (by k_mem) (by assumption) (by assumption) ?_; k_whole) | (refine kda_in (knd := PySem.intKind _ _) (by k_asm) (by k_mem) (by assumption) (by assumption) (intKind_is _ _ _ _) _ (by assumption) ?_; k_whole))))
local macro_rules | `(tactic| walk_at "getMethod ref") => `(tactic| ((with_reducible show wpAny _ _ (getMethod (Value.ref _) (Str.ofString "add") _) _ _ _); k_dflt (refine set_addM (by k_asm) (by k_mem) (by assumption) (by assumption) ?_; k_whole)))
local macro_rules | `(tactic| walk_at "call builtin:set.add") => `(tactic| (k_dflt (refine kse_add (knd := PySem.intKind _ _) (by k_asm) (by k_asm) (by k_updF) (by assumption) (by assumption) (intKind_is _ _ _ _) rfl ?_; k_whole); intro h' o' F' N' hs'; (try dsimp only at N'); (try k_sweep)))
local macro_rules | `(tactic| walk_at "call builtin:list.append") => `(tactic| (k_here; k_dflt (refine append_K (by k_asm) (by k_asm) (by k_upd) ?_ (by assumption); k_whole); intro h' F' N'; (try k_sweep)))
local macro_rules | `(tactic| walk_at "getAttr ref") => `(tactic| ((with_reducible show wpAny _ _ (getAttr (Value.ref _) (PySem.Str.ofString "__next__") _) _ _ _); k_dflt (refine getAttr_nextK (by k_asm) (by k_asm) (by k_mem) ?_; k_whole); intro W' h' F' N' l1; (try k_lt l1); (try k_sweep)))
local macro_rules | `(tactic| walk_at "callWith ref") => `(tactic| (k_here; k_dflt (refine callWith_mw0 (id := "list_iterator.__next__") (mwAt_of (by k_asm) (by k_mem)) ?_)))
local macro_rules | `(tactic| walk_at "call ref") => `(tactic| ((with_reducible show wpAny _ _ (call (Value.ref _) []) _ _ _); refine stop_in ?_))
local macro_rules | `(tactic| walk_at "call builtin:list.pop") => `(tactic| (k_here; k_dflt (refine kl_pop (by k_asm) (by k_asm) (kpa_last _ _) (by k_upd) (by assumption) ?_; k_whole); intro h' F' N'; (try k_sweep)))
local macro_rules | `(tactic| walk_at "delItem ref int") => `(tactic| (k_dflt (refine kob_del (knd := PySem.intKind _ _) (by k_asm) (by k_asm) (by k_updF) (by assumption) (intKind_is _ _ _ _) (by assumption) (by assumption) ?_; k_whole); intro h' o' F' N' hd'; (try dsimp only at N'); (try k_sweep)))
local macro_rules | `(tactic| walk_at "call builtin:len") => `(tactic| (k_dflt (refine len_listK (by k_asm) (by k_mem) (by assumption) ?_; k_whole)))
local macro_rules | `(tactic| walk_at "subscriptTail Name UnaryOp ref int") => `(tactic| (k_dflt (refine item_lastK (by k_asm) (by k_mem) (by assumption) ?_; k_whole)))
local macro_rules | `(tactic| walk_at "subscriptTail Name Name ref int") => `(tactic| (k_dflt (refine kda_item (knd := PySem.intKind _ _) (by k_asm) (by k_mem) (by assumption) (intKind_is _ _ _ _) (by assumption) ?_; k_whole)))
local macro_rules | `(tactic| walk_at "truthy ref") => `(tactic| (k_dflt (refine truthy_listB (by k_asm) (by k_mem) (by assumption) (by assumption) ?_; k_whole)))
local macro_rules | `(tactic| k_mem) => `(tactic| first | (with_reducible exact List.mem_cons_self) | (with_reducible assumption) | ((with_reducible refine List.mem_cons_of_mem _ ?_); k_mem))
section
variable {prog p : Program} {loose : List Str} {w : World} {mg mb : Str → Option Value} {mean : ExcName → Option Value} {dp un : Nat} {gd : Option (List Code)} {env : Env} {outer : List Env} {A₀ : Around} {base h₀ : Heap} {L : Addr} {m : Str → Option Value} {rest : List (Addr × Obj)} {s : Shared} {Q E : Value → Shared → Prop}
theorem cyc_spec {S : So}
    (G : Gd (hd.heap_39 w.params) p loose mean mg mb A₀ base outer L m h₀ s.heap (S.led w ++ rest)) (ok : S.Ok prog w rest) (hlen : S.nds.length ≤ 900)
    (hac : ∀ n ∈ S.nds, ∀ v ∈ n.succ, n.k < v ∧ ∃ n' ∈ S.nds, n'.k = v)
    (hf : env.frame = some L) (hk : env.scope.kind = .function) (hdp : dp + 60 < recursionLimit)
    (hQ : ∀ h₀' h' tk, KtsTurn (frs outer) h₀ h₀' → Gd (hd.heap_39 w.params) p loose mean mg mb A₀ base outer L m h₀' h' (S.led w ++ rest) → Q .none { s with heap := h', toks := tk }) :
    wpAny (model prog w) (arT dp un gd env outer) (call (.ref 180) [.ref S.x]) Q E s := by
  obtain ⟨B, F, X, N, T, XB, TB, D⟩ := G
  have X := X
  obtain ⟨x, dx, d, o, t1, t2, t3, t4, rv, a, ta, b, tb, nds⟩ := S
  dsimp only at hlen hac hQ ⊢
  have N0 := N
  dsimp only [So.led, List.cons_append] at N0
  clear N
  have hmod := ok.mod
  have hkeys := ok.keys
  have hdict := ok.dict
  dsimp only at hmod hdict hkeys
  refine wpAny_call ?_
  walk_at "T enter"
  rename_i gF LF hF _ _ _ _ _ _ _ _ _
  k_steps
  rename Fr _ _ _ _ => F1
  rename News _ _ _ _ => N1
  rename Obj.SetObjOf (PySem.intKind _ _) _ _ _ => hs0
  rename Obj.IsDictOf (PySem.intKind _ _) _ [] => hd0
  rename_i tk1 h8 ls h7 lls h6 tk0 li h5 lli h4 ss h3 led hz lss h2 dn h1 od lo hss fss fii ldn h0
  obtain ⟨so0, hso0⟩ : ∃ so0 : Obj, so0 = { cls := .type "set", dict := none, data := .set #[] 0 (.fresh 0 0 led) } := ⟨_, rfl⟩
  rw [← hso0] at hs0 N1
  have A0 : Ap (cyLed dn ss li ls od so0 0 0 [] (So.led w ⟨x, dx, d, o, t1, t2, t3, t4, rv, a, ta, b, tb, nds⟩ ++ rest)) := Ap.fresh (allLt_at (l := (ss, so0) :: (li, listOf #[] 0) :: (ls, listOf #[] 0) :: (So.led w ⟨x, dx, d, o, t1, t2, t3, t4, rv, a, ta, b, tb, nds⟩ ++ rest)) ldn) (Ap.fresh (allLt_at (l := (li, listOf #[] 0) :: (ls, listOf #[] 0) :: (So.led w ⟨x, dx, d, o, t1, t2, t3, t4, rv, a, ta, b, tb, nds⟩ ++ rest)) lss) (Ap.fresh (allLt_at (l := (ls, listOf #[] 0) :: (So.led w ⟨x, dx, d, o, t1, t2, t3, t4, rv, a, ta, b, tb, nds⟩ ++ rest)) lli) (Ap.fresh (allLt_at (l := (So.led w ⟨x, dx, d, o, t1, t2, t3, t4, rv, a, ta, b, tb, nds⟩ ++ rest)) lls) ok.ap)))
  refine forAt_keyG (σ := C1s) (kvs := nds.map Nd.kv) (o := o) (fun st => [(Str.ofString "node", st.v)]) (fun st => cyLed dn ss li ls st.od st.so st.a st.b [] (So.led w ⟨x, dx, d, o, t1, t2, t3, t4, rv, a, ta, b, tb, nds⟩ ++ rest))
    (fun i st => st.od.IsDictOf (PySem.intKind prog w) [] ∧ st.so.SetObjOf (PySem.intKind prog w) st.sf st.c ∧ Cy nds st.sf st.c [] ∧ Ap (cyLed dn ss li ls st.od st.so st.a st.b [] (So.led w ⟨x, dx, d, o, t1, t2, t3, t4, rv, a, ta, b, tb, nds⟩ ++ rest)))
    ⟨od, so0, fun _ => false, 0, 0, 0, none⟩ rfl ⟨by assumption, F1, by assumption, N1, by assumption, XB, TB, by assumption⟩ (.tail _ (.tail _ (.tail _ (.tail _ (.tail _ (.tail _ (.head _))))))) hmod hdict ?_ ?_ ?_ ?_ ?_ ?_
  · intro q hq
    rw [List.mem_singleton.mp hq]; rfl
  · exact fun q hq => hq
  · exact fun i st _ => .tail _ (.tail _ (.tail _ (.tail _ (.tail _ (.tail _ (.head _))))))
  · exact ⟨hd0, hs0, Cy.start nds, A0⟩
  · rintro I ep i k t ⟨od, so, sf, c, a1, b1, v⟩ oI g1 h1 tk1 hIfresh hi ⟨u, hu⟩ ⟨hd1, hs1, cy1, A1⟩ T1 hI1 hob G1
    clear F1 N1
    obtain ⟨B1, F1, X1, N1, T1', _, _, D1⟩ := G1
    dsimp only at hd1 hs1 cy1 A1 hI1 F1 N1
    have hcb : c + 1 < scanBound := by
      have := cy1.cnt
      unfold scanBound; lia
    have hcb0 : c < scanBound := Nat.lt_of_succ_lt hcb
    have AI := Ap.cons (p := (I, oI)) hI1 A1
    dsimp only [cyLed, So.led, List.cons_append, List.nil_append, List.map_nil, List.flatMap_nil] at N1
    obtain ⟨nk, hnk, hkk⟩ : ∃ n ∈ nds, n.k = k := by
      obtain ⟨n, hn, e⟩ := List.mem_map.mp (List.mem_of_getElem? hu)
      exact ⟨n, hn, congrArg Prod.fst e⟩
    refine wpAny_pure (a := ()) ?_
    refine wpAny_assign_Name ?_
    k_steps
    · rename Fr _ _ _ _ => F2
      rename News _ _ _ _ => N2
      refine ForEndG.intro ⟨od, so, sf, c, a1, b1, some (.int k t)⟩ T1 hob ⟨by assumption, F2, by assumption, N2, by assumption, XB, TB, by assumption⟩ (fun y => ?_) hI1 ⟨hd1, hs1, cy1, A1⟩ _ (.inr rfl)
      dsimp only [ovr]
      repeat' split
      all_goals first | rfl | simp_all
    · unfold Stop
      rename Fr _ _ _ _ => F2
      rename News _ _ _ _ => N2
      rename (sf k = false) => hsk
      refine while_G (σ := C2s) (fun st => [(Str.ofString "node", some (.int st.k st.t))]) (fun st => cyLed dn ss li ls st.od st.so st.a st.b st.stk ((I, oI) :: (So.led w ⟨x, dx, d, o, t1, t2, t3, t4, rv, a, ta, b, tb, nds⟩ ++ rest)))
        (fun n st => n = muA nds st.sf + muB st.stk ∧ st.od.IsDictOf (PySem.intKind prog w) st.kvs ∧ st.kvs.map (·.1) = st.stk.map (fun e => e.n.k) ∧ st.so.SetObjOf (PySem.intKind prog w) st.sf st.c ∧ Cy nds st.sf st.c st.stk ∧ (∀ e ∈ st.stk, e.n.k < st.k) ∧ (∃ n ∈ nds, n.k = st.k) ∧ Ap (cyLed dn ss li ls st.od st.so st.a st.b st.stk ((I, oI) :: (So.led w ⟨x, dx, d, o, t1, t2, t3, t4, rv, a, ta, b, tb, nds⟩ ++ rest))))
        _ ⟨od, so, [], sf, c, a1, b1, [], k, t⟩ ⟨by assumption, F2, by assumption, N2, by assumption, XB, TB, by assumption⟩ ?_ ?_ ⟨rfl, hd1, rfl, hs1, cy1, (fun _ h => nomatch h), ⟨nk, hnk, hkk⟩, Ap.perm (List.perm_middle (l₁ := [(dn, od), (ss, so), (li, _), (ls, _)])).symm AI⟩ ?_
      · intro q hq
        rw [List.mem_singleton.mp hq]; rfl
      · intro q hq
        exact (List.perm_middle (l₁ := [(dn, od), (ss, so), (li, listOf #[] b1), (ls, listOf #[] a1)])).mem_iff.mp hq
      · rintro n ⟨od2, so2, kvs2, sf2, c2, a2, b2, stk, k2, tt2⟩ g2 h2 tk2 ⟨hmu, hd2, hkv, hs2, cy2, hlow, hcur, A2⟩ T2 G2
        clear F2 N2
        obtain ⟨B2, F2, X2, N2, T2', _, _, D2⟩ := G2
        dsimp only at hmu hd2 hkv hs2 cy2 hlow hcur A2 F2 N2
        refine wpAny_mono (Q := fun b5 s5 => b5 = true ∧ s5 = { s with heap := h2, toks := tk2 }) ?_ (fun b5 s5 h5 => ?_) (fun _ _ z => z)
        · k_steps
        obtain ⟨rfl, rfl⟩ := h5
        show wpAny _ _ (execs _ _) _ _ _
        obtain ⟨mm, hmm, F2'⟩ : ∃ mm, Stop (mm = _) ∧ Fr g2 LF h2 mm := ⟨_, stop_in rfl, F2⟩
        refine wpAny_execs_cons ?_
        refine wpAny_mono (Q := fun f5 s5 => Stop (f5 = Flow.next ∧ ∃ (st : C2s) (h5 : Heap) (tk5 : Nat), s5 = { s with heap := h5, toks := tk5 } ∧ Fr g2 LF h5 mm ∧ News g2 LF h5 (cyLed dn ss li ls st.od st.so st.a st.b st.stk ((I, oI) :: (So.led w ⟨x, dx, d, o, t1, t2, t3, t4, rv, a, ta, b, tb, nds⟩ ++ rest))) ∧
          muA nds st.sf + muB st.stk ≤ n ∧ st.od.IsDictOf (PySem.intKind prog w) st.kvs ∧ st.kvs.map (·.1) = st.stk.map (fun e => e.n.k) ∧ st.so.SetObjOf (PySem.intKind prog w) st.sf st.c ∧ Cy nds st.sf st.c st.stk ∧ Ap (cyLed dn ss li ls st.od st.so st.a st.b st.stk ((I, oI) :: (So.led w ⟨x, dx, d, o, t1, t2, t3, t4, rv, a, ta, b, tb, nds⟩ ++ rest))))) ?first (fun f5 s5 h5 => ?second) (fun _ _ z => z)
        case first =>
          clear F2'
          have hcb2 : c2 + 1 < scanBound := by
            have := cy2.cnt
            unfold scanBound; lia
          have hcb20 : c2 < scanBound := Nat.lt_of_succ_lt hcb2
          have hlen2 : stk.length ≤ 900 := by
            have := cy2.len
            lia
          have hno : k2 ∉ kvs2.map (·.1) := by
            rw [hkv]
            intro hm
            obtain ⟨e, he, q⟩ := List.mem_map.mp hm
            exact absurd (hlow e he) (by rw [q]; exact Int.lt_irrefl _)
          have hno2 : (valueAt kvs2 k2).isSome = false := by rw [valueAt_no hno]; rfl
          have hkz : kvs2.length ≤ sizeLine := by
            have := congrArg List.length hkv
            rw [List.length_map, List.length_map] at this
            rw [this, sizeLine_eq]; lia
          have hz1 : (stkWs stk).toArray.size ≤ sizeLine := by
            rw [List.size_toArray, List.length_map, sizeLine_eq]; lia
          have hz2 : (stkVs stk).toArray.size ≤ sizeLine := by
            rw [List.size_toArray, List.length_map, sizeLine_eq]; lia
          have hz3 : (stkVs stk).length ≤ sizeLine := by
            rw [List.length_map, sizeLine_eq]; lia
          have aq1 := ap4 A2
          have e1 := aq1.1
          have e5 := aq1.2.1
          have e8 := aq1.2.2.1
          have e10 := aq1.2.2.2
          clear aq1
          dsimp only [So.led, List.cons_append] at e1 e5 e8 e10
          obtain ⟨n2, hn2, rfl⟩ := hcur
          have hv2 := valueAt_mem hkeys hn2
          have hTL : ∀ q ∈ ndsLed nds, q ∈ stkLed stk ++ (I, oI) :: (x, instObj 190 dx) :: (dx, soDict w t1 t2 t3 t4 d rv a ta b tb) :: (d, o) :: (ndsLed nds ++ rest) := fun q hq =>
            List.mem_append_right _ (.tail _ (.tail _ (.tail _ (.tail _ (List.mem_append_left _ hq)))))
          have hm1 := hTL _ (nd_mem hn2 (.head _))
          have hm2 := hTL _ (nd_mem hn2 (.tail _ (.head _)))
          have hm3 := hTL _ (nd_mem hn2 (.tail _ (.tail _ (.head _))))
          have hm4 : (d, o) ∈ stkLed stk ++ (I, oI) :: (x, instObj 190 dx) :: (dx, soDict w t1 t2 t3 t4 d rv a ta b tb) :: (d, o) :: (ndsLed nds ++ rest) := List.mem_append_right _ (.tail _ (.tail _ (.tail _ (.head _))))
          dsimp only [cyLed, So.led, List.cons_append] at N2
          cases hsk2 : sf2 n2.k with
          | true =>
            k_steps
            rename News _ _ _ _ => N3
            rename Fr _ _ _ _ => F3
            exact stop_in ⟨rfl, ⟨od2, so2, kvs2, sf2, c2, a2, b2, stk, n2.k, tt2⟩, _, _, rfl, by rw [show mm = _ from hmm]; exact F3, N3, Nat.le_of_eq hmu.symm, hd2, hkv, hs2, cy2, A2⟩
          | false =>
            k_steps
            rename News _ _ _ _ => N3
            rename Fr _ _ _ _ => F3
            rename Obj.SetObjOf _ _ _ _ => hs4
            rename Obj.IsDictOf _ _ (stored _ _ _) => hd4
            rename (dn < _ ∧ _ < _ ∧ _ < _ ∧ _ < _ ∧ AllLt _ _) => lI
            rename (_ < _ ∧ dn < _ ∧ _ < _ ∧ _ < _ ∧ _ < _ ∧ AllLt _ _) => lW
            rw [if_neg (by rw [hsk2]; decide)] at hs4
            refine stop_in ⟨rfl, ⟨_, _, stored kvs2 n2.k _, fun k' => sf2 k' || decide (k' = n2.k), c2 + 1, a2 + 1, b2 + 1, stk ++ [⟨n2, tt2, _, _, 0⟩], n2.k, tt2⟩, _, _, rfl, by rw [show mm = _ from hmm]; exact F3, cy_pushed N3, ?_, hd4, ?_, hs4, cy2.push hn2 hsk2 hlow, ap_pushed A2 lI lW.1 _ _⟩
            · have q1 := wsum_push (fun n => n.succ.length + 2) hsk2 hn2
              rw [muB_append, muB_one, hmu]
              unfold muA
              dsimp only
              lia
            · dsimp only
              rw [stored_keys hno, hkv, List.map_append]; rfl
        case second =>
          obtain ⟨rfl, ⟨od3, so3, kvs3, sf3, c3, a3, b3, stk3, k3, tt3⟩, h3, tk3, rfl, F3, N3, hmu3, hd3, hkv3, hs3, cy3, A3⟩ := h5
          rw [show mm = _ from hmm] at F3
          clear F2 F2' N2
          dsimp only at hmu3 hd3 hkv3 hs3 cy3 A3 N3
          clear hmm
          show wpAny _ _ (execs _ _) _ _ _
          refine wpAny_execs_cons ?_
          refine while_G (σ := C2s) (fun _ => []) (fun st => cyLed dn ss li ls st.od so3 st.a st.b st.stk ((I, oI) :: (So.led w ⟨x, dx, d, o, t1, t2, t3, t4, rv, a, ta, b, tb, nds⟩ ++ rest)))
            (fun nn st => nn = st.stk.length ∧ muA nds sf3 + muB st.stk ≤ n ∧ st.od.IsDictOf (PySem.intKind prog w) st.kvs ∧ st.kvs.map (·.1) = st.stk.map (fun e => e.n.k) ∧ Cy nds sf3 c3 st.stk ∧ Ap (cyLed dn ss li ls st.od so3 st.a st.b st.stk ((I, oI) :: (So.led w ⟨x, dx, d, o, t1, t2, t3, t4, rv, a, ta, b, tb, nds⟩ ++ rest))))
            stk3.length ⟨od3, so3, kvs3, sf3, c3, a3, b3, stk3, k3, tt3⟩ ⟨by assumption, F3, by assumption, N3, by assumption, XB, TB, by assumption⟩ (fun _ h => nomatch h) (fun _ h => h) ⟨rfl, hmu3, hd3, hkv3, cy3, A3⟩ ?_
          rintro nn ⟨od4, so4, kvs4, sf4, c4, a4, b4, stk4, k4, tt4⟩ g3 h4 tk4 ⟨rfl, hmu4, hd4, hkv4, cy4, A4⟩ T3 G3
          clear F3 N3
          obtain ⟨B3, F3, X3, N3, T3', _, _, D3⟩ := G3
          dsimp only at hmu4 hd4 hkv4 cy4 A4 N3
          dsimp only [ovr] at F3
          rcases snoc_cases stk4 with rfl | ⟨stk5, e, rfl⟩
          · dsimp only [cyLed, So.led, List.cons_append, List.nil_append, List.map_nil, List.flatMap_nil] at N3
            have hte : (!([] : List Value).isEmpty) = false := rfl
            have htz : ([] : List Value).length ≤ sizeLine := Nat.zero_le _
            k_steps
            show wpAny _ _ (execs [] _) _ _ _
            k_steps
            rename News _ _ _ _ => N5
            rename Fr _ _ _ _ => F5
            have hkn : kvs4 = [] := List.map_eq_nil_iff.mp hkv4
            subst hkn
            have P5 : (cyLed dn ss li ls od4 so3 a4 b4 [] ((I, oI) :: (So.led w ⟨x, dx, d, o, t1, t2, t3, t4, rv, a, ta, b, tb, nds⟩ ++ rest))).Perm ((I, oI) :: cyLed dn ss li ls od4 so3 a4 b4 [] (So.led w ⟨x, dx, d, o, t1, t2, t3, t4, rv, a, ta, b, tb, nds⟩ ++ rest)) := List.perm_middle (l₁ := [(dn, od4), (ss, so3), (li, listOf #[] b4), (ls, listOf #[] a4)]) (a := (I, oI)) (l₂ := So.led w ⟨x, dx, d, o, t1, t2, t3, t4, rv, a, ta, b, tb, nds⟩ ++ rest)
            have N6 : News g3 LF h4 ((I, oI) :: cyLed dn ss li ls od4 so3 a4 b4 [] (So.led w ⟨x, dx, d, o, t1, t2, t3, t4, rv, a, ta, b, tb, nds⟩ ++ rest)) := News.perm N5 P5
            refine ForEndG.intro ⟨od4, so3, sf3, c3, a4, b4, some (.int k2 tt2)⟩ (T1.trans (T2.trans T3)) hob ⟨by assumption, F5, by assumption, N6, by assumption, XB, TB, by assumption⟩ (fun y => ?_) (Ap.perm P5 A4).head ⟨hd4, hs3, cy4, (Ap.perm P5 A4).tail⟩ _ (.inl rfl)
            dsimp only [ovr]
            repeat' split
            all_goals first | rfl | simp_all
          · have hlen5 : stk5.length ≤ 900 := by
              have := cy4.len
              rw [List.length_append] at this
              lia
            have hz1 : (stkWs stk5 ++ [Value.ref e.W]).length ≤ sizeLine := by
              rw [List.length_append, List.length_map, sizeLine_eq, List.length_singleton]; lia
            have hz2 : (stkVs stk5 ++ [Value.int e.n.k e.kt]).length ≤ sizeLine := by
              rw [List.length_append, List.length_map, sizeLine_eq, List.length_singleton]; lia
            have hte : (!(stkVs stk5 ++ [Value.int e.n.k e.kt]).isEmpty) = true := by simp
            have N4 := News.perm N3 cyLed_top
            have A5 := Ap.perm cyLed_top A4
            dsimp only [So.led, List.cons_append] at N4
            clear N3
            have hem := cy4.mem e (List.mem_append_right _ (.head _))
            have hTL : ∀ q ∈ ndsLed nds, q ∈ stkLed stk5 ++ (I, oI) :: (x, instObj 190 dx) :: (dx, soDict w t1 t2 t3 t4 d rv a ta b tb) :: (d, o) :: (ndsLed nds ++ rest) := fun q hq =>
              List.mem_append_right _ (.tail _ (.tail _ (.tail _ (.tail _ (List.mem_append_left _ hq)))))
            have hm3 := hTL _ (nd_mem hem (.tail _ (.tail _ (.head _))))
            clear hTL
            have hits := ok.its e.n hem
            dsimp only [So.led, List.cons_append] at A5
            k_steps
            show wpAny _ _ (call (Value.ref e.W) []) _ _ _
            rename Fr _ _ _ _ => F5
            rename News _ _ _ _ => N5
            cases hv : e.n.succ[e.i]? with
            | some v5 =>
              obtain ⟨t5, ht5⟩ := hits.get e.i v5 hv
              refine mw_itemK F5 N5 A5.head (.head _) (.tail _ (.tail _ (.tail _ (.tail _ (.tail _ hm3))))) (by rw [List.getElem?_toArray]; exact ht5) fun h5 F6 N6 => ?_
              clear F5 N5
              k_steps
              show wpAny _ _ (execs [] _) _ _ _
              k_steps
              rename Fr _ _ _ _ => F7
              rename News _ _ _ _ => N7
              have hlt := (List.getElem?_eq_some_iff.mp hv).1
              obtain ⟨hlow5, n5, hn5, hk5⟩ := hac e.n hem v5 (List.mem_of_getElem? hv)
              have N8 : News g3 LF _ (cyLed dn ss li ls od4 so3 a4 b4 (stk5 ++ [{ e with i := e.i + 1 }]) ((I, oI) :: (So.led w ⟨x, dx, d, o, t1, t2, t3, t4, rv, a, ta, b, tb, nds⟩ ++ rest))) := News.perm N7 (cyLed_top (e := { e with i := e.i + 1 })).symm
              have A8 : Ap (cyLed dn ss li ls od4 so3 a4 b4 (stk5 ++ [{ e with i := e.i + 1 }]) ((I, oI) :: (So.led w ⟨x, dx, d, o, t1, t2, t3, t4, rv, a, ta, b, tb, nds⟩ ++ rest))) := Ap.perm (cyLed_top (e := { e with i := e.i + 1 })).symm (Ap.same rfl A5)
              refine WhEndG.intro (muA nds sf3 + muB (stk5 ++ [{ e with i := e.i + 1 }])) ⟨od4, so3, kvs4, sf3, c3, a4, b4, stk5 ++ [{ e with i := e.i + 1 }], v5, t5⟩ ?_ (T2.trans T3) ⟨by assumption, F7, by assumption, N8, by assumption, XB, TB, by assumption⟩ (fun y => ?_) ⟨rfl, hd4, ?_, hs3, cy4.step hlt, ?_, ⟨n5, hn5, hk5⟩, A8⟩ _ (.inl rfl)
              · rw [muB_append, muB_one] at hmu4 ⊢
                dsimp only
                lia
              · dsimp only [ovr]
                repeat' split
                all_goals first | rfl | simp_all
              · dsimp only
                rw [hkv4, List.map_append, List.map_append]; rfl
              · intro x hx
                rcases List.mem_append.mp hx with hx | hx
                · exact Int.lt_trans (cy4.below x hx) hlow5
                · rw [List.mem_singleton.mp hx]; exact hlow5
            | none =>
              refine mw_stopK rfl F5 N5 A5.head (.head _) (.tail _ (.tail _ (.tail _ (.tail _ (.tail _ hm3))))) (by rw [List.getElem?_toArray, List.getElem?_eq_none_iff, hits.length]; exact List.getElem?_eq_none_iff.mp hv) fun h5 h6 ee F6 N6 hx => ?_
              clear F5 N5
              dsimp only
              refine caught_D (x := Str.ofString "StopIteration") (X := "StopIteration") B3 hx F6 N6 X3 T3' XB TB D3 (fun g4 h7 T4 G4 => ?_) (by k_is)
              clear F6 N6
              obtain ⟨B4, F4, X4, N4, T4', _, _, D4⟩ := G4
              have hks : e.n.k ∉ stk5.map (fun e => e.n.k) := by
                intro hm
                obtain ⟨q, hq, q2⟩ := List.mem_map.mp hm
                exact absurd (cy4.below q hq) (by rw [q2]; exact Int.lt_irrefl _)
              have hkv5 : kvs4.map (·.1) = stk5.map (fun e => e.n.k) ++ [e.n.k] := by rw [hkv4, List.map_append]; rfl
              have hyes : (valueAt kvs4 e.n.k).isSome = true := valueAt_yes (by rw [hkv5]; exact List.mem_append_right _ (.head _))
              have hkz : kvs4.length ≤ sizeLine := by
                have := congrArg List.length hkv5
                rw [List.length_map, List.length_append, List.length_map, List.length_singleton] at this
                rw [this, sizeLine_eq]; lia
              have aq2 := ap6 A5
              have f1 := aq2.1
              have f7 := aq2.2.1
              have f12 := aq2.2.2.1
              have f16 := aq2.2.2.2.1
              have f19 := aq2.2.2.2.2.1
              have f21 := aq2.2.2.2.2.2
              clear aq2
              dsimp only at f1 f7 f12 f16 f19 f21
              k_steps
              rename Fr _ _ _ _ => F7
              rename News _ _ _ _ => N7
              rename Obj.IsDictOf _ _ (without _ _) => hd7
              refine WhEndG.intro stk5.length ⟨_, so3, without kvs4 e.n.k, sf3, c3, a4 + 1, b4 + 1, stk5, k4, tt4⟩ (by rw [List.length_append, List.length_singleton]; lia) (T3.trans T4) ⟨by assumption, F7, by assumption, fun q hq => N7 q (.tail _ (.tail _ hq)), by assumption, XB, TB, by assumption⟩ (fun y => rfl) ⟨rfl, ?_, hd7, without_keys hkv5 hks, cy4.pop, Ap.same rfl A5.tail.tail⟩ _ (.inl rfl)
              rw [muB_append] at hmu4
              dsimp only
              lia
  · rintro ⟨od, so, sf, c, a1, b1, v⟩ g1 h1 tk1 ⟨hd1, hs1, cy1, A1⟩ T1 G1
    clear F1 N1
    obtain ⟨B1, F1, X1, N1, T1', _, _, D1⟩ := G1
    dsimp only at F1 N1
    k_steps
    rename News _ _ _ _ => N2
    rename Fr _ _ _ _ => F2
    show LeaveT _ _ _ _ _ _ _ _ _ _ _ _ _ _ _ _ _
    refine ⟨g1, _, _, _, T1, F2, N2, fun h₀'' a1 a2 a3 a4 a5 a6 a7 => hQ h₀'' _ _ a1 ⟨a4, a2, a5, fun q hq => a3 q (.tail _ (.tail _ (.tail _ (.tail _ hq)))), a6, XB, TB, a7⟩⟩
end
end

local macro_rules | `(tactic| walk_at "call ref") => `(tactic| ((with_reducible show wpAny _ _ (call (Value.ref 180) _) _ _ _); refine stop_in ?_))

section
open PySem PySem.W PyProof.Rows PySem.Calls
theorem freshP1 : True := by
  w_top off
  trivial
theorem ias_sub : ∀ l : List Nd, (l.map (·.ia)).Sublist ((ndsLed l).map (·.1))
  | [] => .slnil
  | n :: l => by
    show List.Sublist (n.ia :: l.map (·.ia)) (n.ia :: n.idx :: n.sa :: (ndsLed l).map (·.1))
    exact ((List.Sublist.cons _ (List.Sublist.cons _ (ias_sub l)))).cons_cons n.ia
theorem So.Ok.ias {prog : Program} {w : World} {S : So} {rest : List (Addr × Obj)} (ok : S.Ok prog w rest) : (S.nds.map (·.ia)).Nodup := by
  have h : Ap (ndsLed S.nds ++ rest) := ok.ap.tail.tail.tail
  unfold Ap at h
  rw [List.map_append] at h
  exact (ias_sub S.nds).nodup (List.nodup_append.mp h).1
theorem So.Ok.data {prog : Program} {w : World} {S : So} {rest : List (Addr × Obj)} (rv : Value) (a b : Int) (ta tb : Tok) (ok : S.Ok prog w rest) : So.Ok prog w { S with rv := rv, a := a, b := b, ta := ta, tb := tb } rest :=
  ⟨ok.mod, ok.dict, ok.its, ok.keys, Ap.same rfl ok.ap⟩
section
variable {prog p : Program} {loose : List Str} {w : World} {mg mb : Str → Option Value} {mean : ExcName → Option Value} {dp un : Nat} {gd : Option (List Code)} {env : Env} {outer : List Env} {A₀ : Around} {base h₀ : Heap} {L : Addr} {m : Str → Option Value} {rest : List (Addr × Obj)} {s : Shared} {Q E : Value → Shared → Prop}
theorem prep_spec {S : So} (hrv : S.rv = .none)
    (G : Gd (hd.heap_39 w.params) p loose mean mg mb A₀ base outer L m h₀ s.heap (S.led w ++ rest)) (ok : S.Ok prog w rest) (hlen : S.nds.length ≤ 900)
    (hac : ∀ n ∈ S.nds, ∀ v ∈ n.succ, n.k < v ∧ ∃ n' ∈ S.nds, n'.k = v)
    (hf : env.frame = some L) (hk : env.scope.kind = .function) (hdp : dp + 80 < recursionLimit)
    (hQ : ∀ D k ys h₀' h' tk, KtsTurn (frs outer) h₀ h₀' → Gd (hd.heap_39 w.params) p loose mean mg mb A₀ base outer L m h₀' h' (So.led w { S with rv := .ref D } ++ (D, listOf ys.toArray k) :: rest) →
      So.Ok prog w { S with rv := .ref D } ((D, listOf ys.toArray k) :: rest) → IntsAre ys ((S.nds.filter fun n => decide (n.np = 0)).map (·.k)) → Q .none { s with heap := h', toks := tk }) :
    wpAny (model prog w) (arT dp un gd env outer) (call (.ref 145) [.ref S.x]) Q E s := by
  obtain ⟨B, F, X, N, T, XB, TB, D⟩ := G
  have X := X
  have hias := ok.ias
  obtain ⟨x, dx, d, o, t1, t2, t3, t4, rv, a, ta, b, tb, nds⟩ := S
  dsimp only at hrv hlen hias hac hQ ⊢
  subst hrv
  have N0 := N
  dsimp only [So.led, List.cons_append] at N0
  clear N
  have hmod := ok.mod
  have hdict := ok.dict
  dsimp only at hmod hdict
  refine wpAny_call ?_
  walk_at "T enter"
  k_steps
  rename Fr _ _ _ _ => F1
  rename News _ _ _ _ => N1
  rename (_ < _ ∧ _ < _ ∧ _ < _ ∧ AllLt _ _) => l3
  rename_i D9 h9
  refine comp_nodes (nds := nds) (o := o) (d := d) rfl F1 N1 (.head _) (.tail _ (.tail _ (.tail _ (.head _)))) hdict hias (by lia) ?_ ?_ ?_
  · intro n C s3 m3 E' hn hC hm F2 N2
    obtain ⟨pre, post, rfl⟩ := List.append_of_mem hn
    have N3 := News.perm N2 ((So.front_perm w ⟨x, dx, d, o, t1, t2, t3, t4, .none, a, ta, b, tb, pre ++ n :: post⟩ rest rfl).cons _)
    dsimp only [So.front] at N3
    clear N2 N1 F1
    k_steps
    exact ⟨_, _, rfl, fun _ _ e => e⟩
  · intro n C s3 m3 E' hn hC hm F2 N2
    obtain ⟨pre, post, rfl⟩ := List.append_of_mem hn
    have N3 := News.perm N2 ((So.front_perm w ⟨x, dx, d, o, t1, t2, t3, t4, .none, a, ta, b, tb, pre ++ n :: post⟩ rest rfl).cons _)
    dsimp only [So.front] at N3
    clear N2 N1 F1
    k_steps
    exact ⟨_, _, rfl, fun _ _ e => e⟩
  · intro D k ys h' tk F2 N2 hD hys
    have A1 : Ap ((D, listOf ys.toArray k) :: (D9, ({ cls := .type "dict_values", data := .fields #[.ref d] } : Obj)) :: (So.led w ⟨x, dx, d, o, t1, t2, t3, t4, .none, a, ta, b, tb, nds⟩ ++ rest)) := Ap.cons hD (Ap.fresh (allLt_at (l := So.led w ⟨x, dx, d, o, t1, t2, t3, t4, .none, a, ta, b, tb, nds⟩ ++ rest) l3) ok.ap)
    have P2 := List.perm_middle (l₁ := [(D, listOf ys.toArray k), (D9, ({ cls := .type "dict_values", data := .fields #[.ref d] } : Obj)), (x, instObj 190 dx)]) (a := (dx, soDict w t1 t2 t3 t4 d .none a ta b tb)) (l₂ := (d, o) :: (ndsLed nds ++ rest))
    have N3 := News.perm N2 P2
    have A3 := (Ap.perm P2 A1).head
    dsimp only [List.cons_append, List.nil_append] at N3 A3
    clear F1 N1 N2
    k_steps
    unfold Stop
    show wpAny (model prog w) (arT (dp + 1) (un + 3) gd _ (env :: outer)) _ _ _ _
    rename Fr _ _ _ _ => F4
    rename News _ _ _ _ => N4
    have P5 : ((dx, soDict w t1 t2 t3 t4 d (.ref D) a ta b tb) :: (D, listOf ys.toArray k) :: (D9, ({ cls := .type "dict_values", data := .fields #[.ref d] } : Obj)) :: (x, instObj 190 dx) :: (d, o) :: (ndsLed nds ++ rest)).Perm (So.led w ⟨x, dx, d, o, t1, t2, t3, t4, .ref D, a, ta, b, tb, nds⟩ ++ (D, listOf ys.toArray k) :: (D9, ({ cls := .type "dict_values", data := .fields #[.ref d] } : Obj)) :: rest) := by
      refine (List.perm_middle (l₁ := [(D, listOf ys.toArray k), (D9, ({ cls := .type "dict_values", data := .fields #[.ref d] } : Obj)), (x, instObj 190 dx)]) (a := (dx, soDict w t1 t2 t3 t4 d (.ref D) a ta b tb)) (l₂ := (d, o) :: (ndsLed nds ++ rest))).symm.trans ?_
      exact List.perm_append_comm_assoc [(D, listOf ys.toArray k), (D9, ({ cls := .type "dict_values", data := .fields #[.ref d] } : Obj))] (So.led w ⟨x, dx, d, o, t1, t2, t3, t4, .ref D, a, ta, b, tb, nds⟩) rest
    have ok5 : So.Ok prog w ⟨x, dx, d, o, t1, t2, t3, t4, .ref D, a, ta, b, tb, nds⟩ ((D, listOf ys.toArray k) :: (D9, ({ cls := .type "dict_values", data := .fields #[.ref d] } : Obj)) :: rest) :=
      ⟨ok.mod, ok.dict, ok.its, ok.keys, Ap.perm P5 (by have A7 := Ap.perm P2 A1; exact Ap.same (l' := (dx, soDict w t1 t2 t3 t4 d (.ref D) a ta b tb) :: (D, listOf ys.toArray k) :: (D9, ({ cls := .type "dict_values", data := .fields #[.ref d] } : Obj)) :: (x, instObj 190 dx) :: (d, o) :: (ndsLed nds ++ rest)) (by rfl) A7)⟩
    have N5 := News.perm N4 P5
    refine cyc_spec (S := ⟨x, dx, d, o, t1, t2, t3, t4, .ref D, a, ta, b, tb, nds⟩) ⟨by assumption, F4, by assumption, N5, by assumption, XB, TB, by assumption⟩ ok5 hlen hac rfl rfl (by lia) ?_
    intro h₀' h5 tk5 T5 G5
    clear F4 N4 N5
    obtain ⟨B5, F5, X5, N5, T5', _, _, D5⟩ := G5
    have N6 := News.perm N5 P5.symm
    clear N5
    k_steps
    rename Fr _ _ _ _ => F6
    rename News _ _ _ _ => N7
    show LeaveT _ _ _ _ _ _ _ _ _ _ _ _ _ _ _ _ _
    refine ⟨h₀', _, _, _, T5, F6, N7, fun h₀'' a1 a2 a3 a4 a5 a6 a7 => hQ D k ys h₀'' _ _ a1 ⟨a4, a2, a5, fun q hq => a3 q (P5.symm.mem_iff.mp ?_), a6, XB, TB, a7⟩ ?_ hys⟩
    · rcases List.mem_append.mp hq with hq | hq
      · exact List.mem_append_left _ hq
      · rcases List.mem_cons.mp hq with rfl | hq
        · exact List.mem_append_right _ (.head _)
        · exact List.mem_append_right _ (.tail _ (.tail _ hq))
    · exact ok5.perm (List.Perm.swap _ _ _) |>.less
end
end

local macro_rules | `(tactic| walk_at "call type:tuple") => `(tactic| (k_dflt (refine tupleK (by k_asm) (by k_asm) (by k_mem) (by assumption) ?_; k_whole); intro T' h' F' N' l1; (try k_lt l1); (try k_sweep)))
local macro_rules | `(tactic| walk_at "call builtin:list.clear") => `(tactic| refine stop_in ?_)
local macro_rules | `(tactic| walk_at "subscriptTail Name Name ref int") => `(tactic| (k_dflt (refine kda_item (knd := PySem.intKind _ _) (by k_asm) (by k_mem) (by assumption) (intKind_is _ _ _ _) (by assumption) ?_; k_whole)))
local macro_rules | `(tactic| walk_at "call builtin:len") => `(tactic| (k_dflt (refine len_tupK (by k_asm) (by k_mem) (by assumption) ?_; k_whole)))

section
open PySem PySem.W PyProof.Rows PySem.Calls
theorem freshR1 : True := by
  w_top off
  trivial
noncomputable def outF (e : Int × List Int) : Int × List Int := (-1, e.2)
noncomputable def outA (l : List (Int × Int × List Int)) (r : List Int) : List (Int × Int × List Int) := r.foldl (fun l v => turnA l v outF) l
theorem So.perm_dx (w : World) (S : So) (R : List (Addr × Obj)) : (S.led w ++ R).Perm ((S.dx, soDict w S.t1 S.t2 S.t3 S.t4 S.d S.rv S.a S.ta S.b S.tb) :: (S.x, instObj 190 S.dx) :: (S.d, S.o) :: (ndsLed S.nds ++ R)) := List.Perm.swap _ _ _
theorem perm_second {α : Type} (A : List α) (p q : α) (R : List α) : (A ++ p :: q :: R).Perm (q :: (A ++ p :: R)) := ((List.Perm.swap q p R).append_left A).trans List.perm_middle
theorem outA_take {l : List (Int × Int × List Int)} {r : List Int} {i : Nat} {v : Int} (h : r[i]? = some v) : outA l (r.take (i + 1)) = turnA (outA l (r.take i)) v outF := by
  unfold outA
  rw [List.take_add_one, h, Option.toList_some, List.foldl_append]; rfl
section
variable {prog p : Program} {loose : List Str} {w : World} {mg mb : Str → Option Value} {mean : ExcName → Option Value} {dp un : Nat} {gd : Option (List Code)} {env : Env} {outer : List Env} {A₀ : Around} {base h₀ : Heap} {L : Addr} {m : Str → Option Value} {rest : List (Addr × Obj)} {s : Shared} {Q E : Value → Shared → Prop}
theorem ready_spec {S : So} {D : Addr} {kD : Nat} {ys : List Value} {r : List Int} (hrv : S.rv = .ref D) (hys : IntsAre ys r) (hr : ∀ v ∈ r, v ∈ S.nds.map (·.k)) (hlr : r.length ≤ 1000)
    (B : Below A₀ base outer h₀) (F : Fr h₀ L s.heap m) (X₀ : (hd.heap_39 w.params).In h₀) (T : Top p loose mean mg mb h₀)
    (N : News h₀ L s.heap (S.led w ++ (D, listOf ys.toArray kD) :: rest)) (ok : S.Ok prog w ((D, listOf ys.toArray kD) :: rest))
    (hf : env.frame = some L) (hk : env.scope.kind = .function) (hdp : dp + 60 < recursionLimit) (hlen : S.nds.length ≤ 900)
    (hQ : ∀ T nds' ta' kD' h' tk, Fr h₀ L h' m → News h₀ L h' (So.led w { S with nds := nds', a := S.a + r.length, ta := ta' } ++ (T, tupOf ys.toArray 0) :: (D, listOf #[] kD') :: rest) →
      So.Ok prog w { S with nds := nds', a := S.a + r.length, ta := ta' } ((T, tupOf ys.toArray 0) :: (D, listOf #[] kD') :: rest) →
      nds'.map Nd.ab = outA S.ab r → Q (.ref T) { s with heap := h', toks := tk }) :
    wpAny (model prog w) (arT dp un gd env outer) (call (.ref 152) [.ref S.x]) Q E s := by
  have X := X₀
  obtain ⟨x, dx, d, o, t1, t2, t3, t4, rv, a, ta, b, tb, nds⟩ := S
  dsimp only at hrv hr hlen hQ ⊢
  subst hrv
  have N0 := N
  dsimp only [So.led, List.cons_append] at N0
  have hm0 : (D, listOf ys.toArray kD) ∈ ndsLed nds ++ (D, listOf ys.toArray kD) :: rest := List.mem_append_right _ (.head _)
  have hz0 : ys.toArray.size ≤ sizeLine := by rw [List.size_toArray, hys.length, sizeLine_eq]; lia
  clear N
  refine wpAny_call ?_
  walk_at "K enter"
  k_steps
  rename Fr _ _ _ _ => F1
  rename News _ _ _ _ => N1
  rename (_ < _ ∧ _ < _ ∧ _ < _ ∧ AllLt _ _) => l3
  rename_i tk1 tk2 T h3 h4 h5
  have ok1 := ok.more (D := T) (o := tupOf ys.toArray 0) l3
  have N2 : News _ _ _ (So.led w ⟨x, dx, d, o, t1, t2, t3, t4, .ref D, a, ta, b, tb, nds⟩ ++ (T, tupOf ys.toArray 0) :: (D, listOf ys.toArray kD) :: rest) := News.perm N1 (So.mid w ⟨x, dx, d, o, t1, t2, t3, t4, .ref D, a, ta, b, tb, nds⟩ _ _)
  clear N1
  refine forAtN_tup (σ := List Nd × Option Value) (vs := ys.toArray) (k := 0) (fun st => [(Str.ofString "node", st.2)]) (fun st => So.led w ⟨x, dx, d, o, t1, t2, t3, t4, .ref D, a, ta, b, tb, st.1⟩ ++ (T, tupOf ys.toArray 0) :: (D, listOf ys.toArray kD) :: rest)
    (fun i st => So.Ok prog w ⟨x, dx, d, o, t1, t2, t3, t4, .ref D, a, ta, b, tb, st.1⟩ ((T, tupOf ys.toArray 0) :: (D, listOf ys.toArray kD) :: rest) ∧ st.1.map Nd.ab = outA (nds.map Nd.ab) (r.take i) ∧ st.1.map (·.k) = nds.map (·.k))
    (nds, none) rfl F1 N2 (List.mem_append_right _ (.head _)) ?_ (fun q hq => hq) (fun i st _ => List.mem_append_right _ (.head _)) ⟨ok1, rfl, rfl⟩ ?_ ?_
  · intro q hq
    rw [List.mem_singleton.mp hq]; rfl
  · rintro I i v ⟨nds2, u1⟩ oI h6 tk6 hi hv ⟨ok3, hab3, hks3⟩ hI hob F5 N6
    clear F1 N2
    dsimp only at ok3 hab3 hks3 hI F5 N6
    have hil : i < r.length := by
      rw [List.size_toArray, hys.length] at hi; exact hi
    obtain ⟨tv, htv⟩ := hys.get i r[i] (by simp [hil])
    rw [List.getElem?_toArray, htv] at hv
    obtain rfl := Option.some.inj hv
    obtain ⟨n, hn, hnk⟩ : ∃ n ∈ nds2, n.k = r[i] := by
      have h8 := hr r[i] (List.getElem_mem hil)
      rw [← hks3] at h8
      obtain ⟨n, hn, e⟩ := List.mem_map.mp h8
      exact ⟨n, hn, e⟩
    have ok4 := ok3.cons (q := (I, oI)) hI
    have hv2 := valueAt_mem ok3.keys hn
    rw [hnk] at hv2
    obtain ⟨pre, post, rfl⟩ := List.append_of_mem hn
    have P6 := (List.perm_middle (l₁ := So.led w ⟨x, dx, d, o, t1, t2, t3, t4, .ref D, a, ta, b, tb, pre ++ n :: post⟩) (a := (I, oI)) (l₂ := (T, tupOf ys.toArray 0) :: (D, listOf ys.toArray kD) :: rest)).symm
    have P7 := So.perm_i w ⟨x, dx, d, o, t1, t2, t3, t4, .ref D, a, ta, b, tb, pre ++ n :: post⟩ (I, oI) ((T, tupOf ys.toArray 0) :: (D, listOf ys.toArray kD) :: rest) (n := n) rfl
    have N7 := News.perm (News.perm N6 P6) P7
    have A7 := (Ap.perm P7 ok4.ap).head
    have hdict := ok3.dict
    dsimp only [So.tl] at N7 A7 hdict
    clear N6
    refine wpAny_pure (a := ()) ?_
    refine wpAny_assign_Name ?_
    k_steps
    rename Fr _ _ _ _ => F7
    rename News _ _ _ _ => N8
    obtain ⟨τ, N9⟩ : ∃ τ, News _ _ _ (So.led w ⟨x, dx, d, o, t1, t2, t3, t4, .ref D, a, ta, b, tb, pre ++ { n with np := -1, nt := τ } :: post⟩ ++ (I, oI) :: (T, tupOf ys.toArray 0) :: (D, listOf ys.toArray kD) :: rest) :=
      ⟨_, News.perm N8 (So.perm_i w ⟨x, dx, d, o, t1, t2, t3, t4, .ref D, a, ta, b, tb, pre ++ { n with np := -1, nt := _ } :: post⟩ (I, oI) ((T, tupOf ys.toArray 0) :: (D, listOf ys.toArray kD) :: rest) rfl).symm⟩
    have ok6 := So.Ok.turn (n' := { n with np := -1, nt := τ }) ok4 rfl rfl rfl rfl rfl (ok3.its n (List.mem_append_right _ (.head _)))
    have hab5 := So.ab_turn { n with np := -1, nt := τ } outF ok3 rfl rfl rfl
    dsimp only at ok6 hab5
    refine ForEndN.intro (pre ++ { n with np := -1, nt := τ } :: post, some (.int r[i] tv)) hob F7 (News.perm N9 List.perm_middle) ?_ (Ap.perm List.perm_middle ok6.ap).head ⟨ok6.less, ?_, ?_⟩ _ (.inl rfl)
    · intro y
      dsimp only [ovr]
      repeat' split
      all_goals first | rfl | simp_all
    · dsimp only
      rw [outA_take (v := r[i]) (by simp [hil]), ← hab3, ← hnk]
      exact hab5
    · dsimp only
      rw [← hks3, List.map_append, List.map_append]; rfl
  · rintro ⟨nds2, u1⟩ h6 tk6 ⟨ok3, hab3, hks3⟩ F5 N6
    clear F1 N2
    dsimp only at ok3 hab3 hks3 F5 N6
    k_steps
    unfold Stop
    have P8 := perm_second (So.led w ⟨x, dx, d, o, t1, t2, t3, t4, .ref D, a, ta, b, tb, nds2⟩) (T, tupOf ys.toArray 0) (D, listOf ys.toArray kD) rest
    rename Fr _ _ _ _ => F6
    rename News _ _ _ _ => N7
    refine clearK F6 (News.perm N7 P8) (Ap.perm P8 ok3.ap).head hz0 fun h7 n7 F7 N8 => ?_
    clear F6 N7
    have P9 := perm_second (So.led w ⟨x, dx, d, o, t1, t2, t3, t4, .ref D, a, ta, b, tb, nds2⟩) (T, tupOf ys.toArray 0) (D, listOf #[] n7) rest
    have ok7 : So.Ok prog w ⟨x, dx, d, o, t1, t2, t3, t4, .ref D, a, ta, b, tb, nds2⟩ ((T, tupOf ys.toArray 0) :: (D, listOf #[] n7) :: rest) := ⟨ok3.mod, ok3.dict, ok3.its, ok3.keys, Ap.same (by simp) ok3.ap⟩
    have P10 := So.perm_dx w ⟨x, dx, d, o, t1, t2, t3, t4, .ref D, a, ta, b, tb, nds2⟩ ((T, tupOf ys.toArray 0) :: (D, listOf #[] n7) :: rest)
    have N9 := News.perm (News.perm N8 P9.symm) P10
    have A9 := (Ap.perm P10 ok7.ap).head
    have hmT : (T, tupOf ys.toArray 0) ∈ ndsLed nds2 ++ (T, tupOf ys.toArray 0) :: (D, listOf #[] n7) :: rest := List.mem_append_right _ (.head _)
    dsimp only at N9 A9
    clear N8
    k_steps
    rename Fr _ _ _ _ => F8
    rename News _ _ _ _ => N10
    rw [List.size_toArray, hys.length] at N10
    refine hQ T nds2 _ n7 _ _ F8 (News.perm N10 (So.perm_dx w ⟨x, dx, d, o, t1, t2, t3, t4, .ref D, a + r.length, _, b, tb, nds2⟩ _).symm) (ok7.data (.ref D) _ _ _ _) ?_
    rw [hab3, List.size_toArray, hys.length, List.take_length]; rfl
end
end

local macro_rules | `(tactic| walk_at "call builtin:list.append") => `(tactic| refine stop_in ?_)

section
open PySem PySem.W PyProof.Rows PySem.Calls
theorem freshD1 : True := by
  w_top off
  trivial
noncomputable def npOf (l : List (Int × Int × List Int)) (v : Int) : Int := ((l.find? (·.1 = v)).map (·.2.1)).getD 0
noncomputable def succOf (l : List (Int × Int × List Int)) (v : Int) : List Int := ((l.find? (·.1 = v)).map (·.2.2)).getD []
noncomputable def doneF (e : Int × List Int) : Int × List Int := (-2, e.2)
noncomputable def decStep (st : List (Int × Int × List Int) × List Int) (v : Int) : List (Int × Int × List Int) × List Int := (turnA st.1 v (incF (-1)), if npOf st.1 v = 1 then st.2 ++ [v] else st.2)
noncomputable def doneA (l : List (Int × Int × List Int)) (r : List Int) (k : Int) : List (Int × Int × List Int) × List Int := (succOf l k).foldl decStep (turnA l k doneF, r)
theorem find_ab {k : Int} : ∀ {nds : List Nd}, (nds.map (·.k)).Nodup → ∀ {n : Nd}, n ∈ nds → n.k = k → (nds.map Nd.ab).find? (·.1 = k) = some n.ab := by
  intro nds hk n hn e
  rw [List.find?_map]
  have := find_key hk hn e
  rw [show ((fun x : Int × Int × List Int => decide (x.1 = k)) ∘ Nd.ab) = (fun n : Nd => decide (n.k = k)) from rfl, this]; rfl
theorem npOf_mem {nds : List Nd} (hk : (nds.map (·.k)).Nodup) {n : Nd} (hn : n ∈ nds) : npOf (nds.map Nd.ab) n.k = n.np := by
  unfold npOf; rw [find_ab hk hn rfl]; rfl
theorem succOf_mem {nds : List Nd} (hk : (nds.map (·.k)).Nodup) {n : Nd} (hn : n ∈ nds) : succOf (nds.map Nd.ab) n.k = n.succ := by
  unfold succOf; rw [find_ab hk hn rfl]; rfl
theorem dec_take {st : List (Int × Int × List Int) × List Int} {r : List Int} {i : Nat} {v : Int} (h : r[i]? = some v) : (r.take (i + 1)).foldl decStep st = decStep ((r.take i).foldl decStep st) v := by
  rw [List.take_add_one, h, Option.toList_some, List.foldl_append]; rfl
theorem dec_len (r : List Int) : ∀ st : List (Int × Int × List Int) × List Int, (r.foldl decStep st).2.length ≤ st.2.length + r.length := by
  induction r with
  | nil => intro st; exact Nat.le_refl _
  | cons v r ih =>
    intro st
    have h := ih (decStep st v)
    have h2 : (decStep st v).2.length ≤ st.2.length + 1 := by
      unfold decStep
      dsimp only
      split
      · rw [List.length_append, List.length_singleton]; exact Nat.le_refl _
      · lia
    rw [List.foldl_cons, List.length_cons]
    lia
theorem perm_fourth {α : Type} (A : List α) (p q r s : α) (R : List α) : (A ++ p :: q :: r :: s :: R).Perm (s :: (A ++ p :: q :: r :: R)) := by
  have h := List.perm_middle (l₁ := A ++ [p, q, r]) (a := s) (l₂ := R)
  simpa using h
/-- all of a node but its count -/
noncomputable def Nd.fix (n : Nd) : Int × Addr × Addr × Addr × List Value × Nat × List Int := (n.k, n.ia, n.idx, n.sa, n.svs, n.sn, n.succ)
structure D1s where
  nds : List Nd
  kD : Nat
  ys : List Value
  b : Int
  tb : Tok
  u1 : Option Value
  u2 : Option Value
  u3 : Option Value
  u4 : Option Value
  u5 : Option Value
structure D2s where
  nds : List Nd
  kD : Nat
  ys : List Value
  u1 : Option Value
  u2 : Option Value
theorem fix_mem {nds nds1 : List Nd} {n : Nd} (h : nds.map Nd.fix = nds1.map Nd.fix) (hn : n ∈ nds1) : ∃ n' ∈ nds, n'.k = n.k ∧ n'.ia = n.ia ∧ n'.idx = n.idx ∧ n'.sa = n.sa ∧ n'.svs = n.svs ∧ n'.sn = n.sn ∧ n'.succ = n.succ := by
  have : n.fix ∈ nds.map Nd.fix := by rw [h]; exact List.mem_map_of_mem hn
  obtain ⟨n', hn', e⟩ := List.mem_map.mp this
  unfold Nd.fix at e
  simp only [Prod.mk.injEq] at e
  exact ⟨n', hn', e⟩
theorem fix_keys {nds nds1 : List Nd} (h : nds.map Nd.fix = nds1.map Nd.fix) : nds.map (·.k) = nds1.map (·.k) := by
  have := congrArg (List.map (·.1)) h
  simpa [Nd.fix, Function.comp_def] using this
theorem decStep2 (st : List (Int × Int × List Int) × List Int) (v : Int) : (decStep st v).2 = if npOf st.1 v = 1 then st.2 ++ [v] else st.2 := rfl
section
variable {prog p : Program} {loose : List Str} {w : World} {mg mb : Str → Option Value} {mean : ExcName → Option Value} {dp un : Nat} {gd : Option (List Code)} {env : Env} {outer : List Env} {A₀ : Around} {base h₀ : Heap} {L : Addr} {m : Str → Option Value} {rest : List (Addr × Obj)} {s : Shared} {Q E : Value → Shared → Prop}
theorem done_spec {S : So} {D : Addr} {kD : Nat} {ys : List Value} {r : List Int} {n : Nd} {t : Tok} (hrv : S.rv = .ref D) (hys : IntsAre ys r) (hn : n ∈ S.nds) (hnp : n.np = -1) (hsc : ∀ v ∈ n.succ, v ∈ S.nds.map (·.k)) (hlr : r.length ≤ 1000) (hls : n.succ.length ≤ 1000)
    (B : Below A₀ base outer h₀) (F : Fr h₀ L s.heap m) (X₀ : (hd.heap_39 w.params).In h₀) (T : Top p loose mean mg mb h₀)
    (N : News h₀ L s.heap (S.led w ++ (D, listOf ys.toArray kD) :: rest)) (ok : S.Ok prog w ((D, listOf ys.toArray kD) :: rest))
    (hf : env.frame = some L) (hk : env.scope.kind = .function) (hdp : dp + 60 < recursionLimit)
    (hQ : ∀ nds' tb' kD' ys' h' tk, Fr h₀ L h' m → News h₀ L h' (So.led w { S with nds := nds', b := S.b + 1, tb := tb' } ++ (D, listOf ys'.toArray kD') :: rest) →
      So.Ok prog w { S with nds := nds', b := S.b + 1, tb := tb' } ((D, listOf ys'.toArray kD') :: rest) →
      nds'.map Nd.ab = (doneA S.ab r n.k).1 → IntsAre ys' (doneA S.ab r n.k).2 → Q .none { s with heap := h', toks := tk }) :
    wpAny (model prog w) (arT dp un gd env outer) (call (.ref 173) [.ref S.x, .int n.k t]) Q E s := by
  have X := X₀
  obtain ⟨x, dx, d, o, t1, t2, t3, t4, rv, a, ta, b, tb, nds⟩ := S
  obtain ⟨k, ia, idx, sa, np, kt, nt, svs, sn, succ⟩ := n
  dsimp only at hrv hn hnp hsc hls hQ ⊢
  subst hrv
  subst hnp
  have N0 := N
  dsimp only [So.led, List.cons_append] at N0
  clear N
  refine wpAny_call ?_
  walk_at "K star"
  rename_i Dt _ _ _ _ _ _ _ _ _ _
  k_steps
  rename Fr _ _ _ _ => F1
  rename News _ _ _ _ => N1
  rename (_ < _ ∧ _ < _ ∧ _ < _ ∧ AllLt _ _) => l3
  have ok1 := ok.more (D := Dt) (o := tupOf #[.int k t] 0) l3
  have N2 : News _ _ _ (So.led w ⟨x, dx, d, o, t1, t2, t3, t4, .ref D, a, ta, b, tb, nds⟩ ++ (Dt, tupOf #[.int k t] 0) :: (D, listOf ys.toArray kD) :: rest) := News.perm N1 (So.mid w ⟨x, dx, d, o, t1, t2, t3, t4, .ref D, a, ta, b, tb, nds⟩ _ _)
  clear N1
  refine forAtN_tup (σ := D1s) (vs := #[.int k t]) (k := 0) (fun st => [(Str.ofString "successor_info", st.u1), (Str.ofString "successor", st.u2), (Str.ofString "stat", st.u3), (Str.ofString "nodeinfo", st.u4), (Str.ofString "node", st.u5)]) (fun st => So.led w ⟨x, dx, d, o, t1, t2, t3, t4, .ref D, a, ta, st.b, st.tb, st.nds⟩ ++ (Dt, tupOf #[.int k t] 0) :: (D, listOf st.ys.toArray st.kD) :: rest)
    (fun i st => (i = 0 → st.nds = nds ∧ st.kD = kD ∧ st.ys = ys ∧ st.b = b ∧ st.tb = tb) ∧ (i = 1 → So.Ok prog w ⟨x, dx, d, o, t1, t2, t3, t4, .ref D, a, ta, st.b, st.tb, st.nds⟩ ((Dt, tupOf #[.int k t] 0) :: (D, listOf st.ys.toArray st.kD) :: rest) ∧ st.b = b + 1 ∧ st.nds.map Nd.ab = (doneA (nds.map Nd.ab) r k).1 ∧ IntsAre st.ys (doneA (nds.map Nd.ab) r k).2))
    ⟨nds, kD, ys, b, tb, none, none, none, none, none⟩ rfl F1 N2 (List.mem_append_right _ (.head _)) ?_ (fun q hq => hq) (fun i st _ => List.mem_append_right _ (.head _)) ⟨fun _ => ⟨rfl, rfl, rfl, rfl, rfl⟩, fun h => nomatch h⟩ ?_ ?_
  · intro q hq
    simp only [List.mem_cons, List.not_mem_nil, or_false] at hq
    rcases hq with rfl | rfl | rfl | rfl | rfl <;> rfl
  · rintro I i v ⟨nds', kD', ys', b', tb', u1, u2, u3, u4, u5⟩ oI h6 tk6 hi hv ⟨hst, _⟩ hI hob F5 N6
    clear F1 N2
    obtain rfl : i = 0 := by simpa using hi
    obtain rfl : Value.int k t = v := by simpa using hv
    obtain ⟨e1, e2, e3, e4, e5⟩ := hst rfl
    dsimp only at e1 e2 e3 e4 e5
    subst e1 e2 e3 e4 e5
    dsimp only at hI F5 N6
    have ok4 := ok1.cons (q := (I, oI)) hI
    have hv2 := valueAt_mem ok1.keys hn
    have hnpo := npOf_mem ok1.keys hn
    have hsuo := succOf_mem ok1.keys hn
    dsimp only at hv2 hnpo hsuo
    obtain ⟨pre, post, hsp⟩ := List.append_of_mem hn
    have P6 := (List.perm_middle (l₁ := So.led w ⟨x, dx, d, o, t1, t2, t3, t4, .ref D, a, ta, b', tb', nds'⟩) (a := (I, oI)) (l₂ := (Dt, tupOf #[.int k t] 0) :: (D, listOf ys'.toArray kD') :: rest)).symm
    have P7 := So.perm_i w ⟨x, dx, d, o, t1, t2, t3, t4, .ref D, a, ta, b', tb', nds'⟩ (I, oI) ((Dt, tupOf #[.int k t] 0) :: (D, listOf ys'.toArray kD') :: rest) (n := ⟨k, ia, idx, sa, -1, kt, nt, svs, sn, succ⟩) hsp
    have N7 := News.perm (News.perm N6 P6) P7
    have A7 := (Ap.perm P7 ok4.ap).head
    have hdict := ok1.dict
    have hmod := ok1.mod
    dsimp only [So.tl] at N7 A7 hdict hmod
    clear N6
    refine wpAny_pure (a := ()) ?_
    refine wpAny_assign_Name ?_
    k_steps
    rename Fr _ _ _ _ => F7
    rename News _ _ _ _ => N8
    obtain ⟨τ, N9⟩ : ∃ τ, News _ _ _ (So.led w ⟨x, dx, d, o, t1, t2, t3, t4, .ref D, a, ta, b', tb', pre ++ ⟨k, ia, idx, sa, -2, kt, τ, svs, sn, succ⟩ :: post⟩ ++ (I, oI) :: (Dt, tupOf #[.int k t] 0) :: (D, listOf ys'.toArray kD') :: rest) :=
      ⟨_, News.perm N8 (So.perm_i w ⟨x, dx, d, o, t1, t2, t3, t4, .ref D, a, ta, b', tb', pre ++ ⟨k, ia, idx, sa, -2, kt, _, svs, sn, succ⟩ :: post⟩ (I, oI) ((Dt, tupOf #[.int k t] 0) :: (D, listOf ys'.toArray kD') :: rest) rfl).symm⟩
    have hits := ok1.its _ hn
    have ok6 := So.Ok.turn (n' := ⟨k, ia, idx, sa, -2, kt, τ, svs, sn, succ⟩) ok4 hsp rfl rfl rfl rfl hits
    have hab6 := So.ab_turn (⟨k, ia, idx, sa, -2, kt, τ, svs, sn, succ⟩ : Nd) doneF ok4 hsp rfl rfl
    have hks6 : (pre ++ (⟨k, ia, idx, sa, -2, kt, τ, svs, sn, succ⟩ : Nd) :: post).map (·.k) = nds'.map (·.k) := by rw [hsp, List.map_append, List.map_append]; rfl
    have hn6 : (⟨k, ia, idx, sa, -2, kt, τ, svs, sn, succ⟩ : Nd) ∈ pre ++ (⟨k, ia, idx, sa, -2, kt, τ, svs, sn, succ⟩ : Nd) :: post := List.mem_append_right _ (.head _)
    dsimp only at ok6 hab6 hits
    generalize (pre ++ (⟨k, ia, idx, sa, -2, kt, τ, svs, sn, succ⟩ : Nd) :: post) = nds1 at N9 ok6 hab6 hks6 hn6
    clear N8 A7 P7 P6 hsp hdict
    refine forAtN_list (σ := D2s) (vs := svs.toArray) (k := sn) (fun st => [(Str.ofString "successor_info", st.u1), (Str.ofString "successor", st.u2)]) (fun st => So.led w ⟨x, dx, d, o, t1, t2, t3, t4, .ref D, a, ta, b', tb', st.nds⟩ ++ (I, oI) :: (Dt, tupOf #[.int k t] 0) :: (D, listOf st.ys.toArray st.kD) :: rest)
      (fun i st => So.Ok prog w ⟨x, dx, d, o, t1, t2, t3, t4, .ref D, a, ta, b', tb', st.nds⟩ ((I, oI) :: (Dt, tupOf #[.int k t] 0) :: (D, listOf st.ys.toArray st.kD) :: rest) ∧ st.nds.map Nd.ab = ((succ.take i).foldl decStep (nds1.map Nd.ab, r)).1 ∧ IntsAre st.ys ((succ.take i).foldl decStep (nds1.map Nd.ab, r)).2 ∧ st.nds.map Nd.fix = nds1.map Nd.fix)
      ⟨nds1, kD', ys', u1, u2⟩ rfl F7 N9 (List.mem_append_left _ (.tail _ (.tail _ (.tail _ (nd_mem hn6 (.tail _ (.tail _ (.head _)))))))) ?_ (fun q hq => hq) ?_ ⟨ok6, rfl, hys, rfl⟩ ?_ ?_
    · intro q hq
      simp only [List.mem_cons, List.not_mem_nil, or_false] at hq
      rcases hq with rfl | rfl <;> rfl
    · rintro i st ⟨_, _, _, hfx⟩
      obtain ⟨n', hn', q1, q2, q3, q4, q5, q6, q7⟩ := fix_mem hfx hn6
      refine List.mem_append_left _ (.tail _ (.tail _ (.tail _ (nd_mem hn' (.tail _ (.tail _ ?_))))))
      dsimp only at q4 q5 q6
      rw [q4, q5, q6]; exact .head _
    · rintro J j v ⟨nds3, kD3, ys3, u6, u7⟩ oJ h8 tk8 hj hv ⟨ok7, hab7, hys7, hfx⟩ hJ hobJ F8 N10
      clear F7 N9
      dsimp only at ok7 hab7 hys7 hfx hJ F8 N10
      have hjl : j < succ.length := by
        rw [List.size_toArray, hits.length] at hj; exact hj
      obtain ⟨tv, htv⟩ := hits.get j succ[j] (by simp [hjl])
      rw [List.getElem?_toArray, htv] at hv
      obtain rfl := Option.some.inj hv
      have hks7 := fix_keys hfx
      obtain ⟨n, hn7, hnk⟩ : ∃ n ∈ nds3, n.k = succ[j] := by
        have h9 := hsc succ[j] (List.getElem_mem hjl)
        rw [← hks6, ← hks7] at h9
        obtain ⟨n, hn, e⟩ := List.mem_map.mp h9
        exact ⟨n, hn, e⟩
      have ok8 := ok7.cons (q := (J, oJ)) hJ
      have hv7 := valueAt_mem ok7.keys hn7
      have hnp7 := npOf_mem ok7.keys hn7
      dsimp only at hv7 hnp7
      rw [hnk] at hv7 hnp7
      obtain ⟨pre, post, rfl⟩ := List.append_of_mem hn7
      have P8 := (List.perm_middle (l₁ := So.led w ⟨x, dx, d, o, t1, t2, t3, t4, .ref D, a, ta, b', tb', pre ++ n :: post⟩) (a := (J, oJ)) (l₂ := (I, oI) :: (Dt, tupOf #[.int k t] 0) :: (D, listOf ys3.toArray kD3) :: rest)).symm
      have P9 := So.perm_i w ⟨x, dx, d, o, t1, t2, t3, t4, .ref D, a, ta, b', tb', pre ++ n :: post⟩ (J, oJ) ((I, oI) :: (Dt, tupOf #[.int k t] 0) :: (D, listOf ys3.toArray kD3) :: rest) (n := n) rfl
      have N11 := News.perm (News.perm N10 P8) P9
      have A11 := (Ap.perm P9 ok8.ap).head
      have hdict := ok7.dict
      dsimp only [So.tl] at N11 A11 hdict
      clear N10 P8
      have hmD : (D, listOf ys3.toArray kD3) ∈ ndsLed pre ++ ndsLed post ++ ((I, oI) :: (Dt, tupOf #[.int k t] 0) :: (D, listOf ys3.toArray kD3) :: rest) := List.mem_append_right _ (.tail _ (.tail _ (.head _)))
      have back : ∀ g9 L9 h9 τ', News g9 L9 h9 ((n.ia, infoObj n.k n.kt (n.np - 1) τ' n.sa n.idx) :: (J, oJ) :: (n.idx, dictOf [] 0) :: (n.sa, listOf n.svs.toArray n.sn) :: So.tl w ⟨x, dx, d, o, t1, t2, t3, t4, .ref D, a, ta, b', tb', pre ++ n :: post⟩ pre post ((I, oI) :: (Dt, tupOf #[.int k t] 0) :: (D, listOf ys3.toArray kD3) :: rest)) → News g9 L9 h9 (So.led w ⟨x, dx, d, o, t1, t2, t3, t4, .ref D, a, ta, b', tb', pre ++ { n with np := n.np - 1, nt := τ' } :: post⟩ ++ (J, oJ) :: (I, oI) :: (Dt, tupOf #[.int k t] 0) :: (D, listOf ys3.toArray kD3) :: rest) := fun g9 L9 h9 τ' N => News.perm N (So.perm_i w ⟨x, dx, d, o, t1, t2, t3, t4, .ref D, a, ta, b', tb', pre ++ { n with np := n.np - 1, nt := τ' } :: post⟩ (J, oJ) ((I, oI) :: (Dt, tupOf #[.int k t] 0) :: (D, listOf ys3.toArray kD3) :: rest) rfl).symm
      have okb : ∀ τ', So.Ok prog w ⟨x, dx, d, o, t1, t2, t3, t4, .ref D, a, ta, b', tb', pre ++ { n with np := n.np - 1, nt := τ' } :: post⟩ ((J, oJ) :: (I, oI) :: (Dt, tupOf #[.int k t] 0) :: (D, listOf ys3.toArray kD3) :: rest) := fun τ' => So.Ok.turn (n' := { n with np := n.np - 1, nt := τ' }) ok8 rfl rfl rfl rfl rfl (ok7.its n (List.mem_append_right _ (.head _)))
      have habb : ∀ τ', (pre ++ { n with np := n.np - 1, nt := τ' } :: post).map Nd.ab = turnA ((pre ++ n :: post).map Nd.ab) succ[j] (incF (-1)) := fun τ' => by
        have := So.ab_turn { n with np := n.np - 1, nt := τ' } (incF (-1)) ok8 rfl rfl (by show (n.np - 1, n.succ) = (n.np + -1, n.succ); rw [Int.sub_eq_add_neg])
        rw [← hnk]
        exact this
      have hfxb : ∀ τ', (pre ++ { n with np := n.np - 1, nt := τ' } :: post).map Nd.fix = nds1.map Nd.fix := fun τ' => by
        rw [← hfx, List.map_append, List.map_append]; rfl
      have hdt := dec_take (st := (nds1.map Nd.ab, r)) (r := succ) (i := j) (v := succ[j]) (by simp [hjl])
      have hzD : ys3.toArray.size ≤ sizeLine := by
        rw [List.size_toArray, hys7.length, sizeLine_eq]
        have h10 := dec_len (succ.take j) (nds1.map Nd.ab, r)
        rw [List.length_take] at h10
        dsimp only at h10
        lia
      clear P9 ok4
      refine wpAny_pure (a := ()) ?_
      refine wpAny_assign_Name ?_
      k_steps
      · unfold Stop
        rename Fr _ _ _ _ => F12
        rename News _ _ _ _ => N12
        rename (n.np - 1 = 0) => hz0
        obtain ⟨τ', N13⟩ : ∃ τ', News _ _ _ (So.led w ⟨x, dx, d, o, t1, t2, t3, t4, .ref D, a, ta, b', tb', pre ++ { n with np := n.np - 1, nt := τ' } :: post⟩ ++ (J, oJ) :: (I, oI) :: (Dt, tupOf #[.int k t] 0) :: (D, listOf ys3.toArray kD3) :: rest) := ⟨_, back _ _ _ _ N12⟩
        have P13 := perm_fourth (So.led w ⟨x, dx, d, o, t1, t2, t3, t4, .ref D, a, ta, b', tb', pre ++ { n with np := n.np - 1, nt := τ' } :: post⟩) (J, oJ) (I, oI) (Dt, tupOf #[.int k t] 0) (D, listOf ys3.toArray kD3) rest
        refine append_K F12 (News.perm N13 P13) (.head (Ap.perm P13 (okb τ').ap).head) (fun h14 F14 N14 => ?_) hzD
        clear F12 N12 N13
        have P14 := perm_fourth (So.led w ⟨x, dx, d, o, t1, t2, t3, t4, .ref D, a, ta, b', tb', pre ++ { n with np := n.np - 1, nt := τ' } :: post⟩) (J, oJ) (I, oI) (Dt, tupOf #[.int k t] 0) (D, listOf (ys3 ++ [Value.int succ[j] tv]).toArray (kD3 + 1)) rest
        rw [show ys3.toArray.push (Value.int succ[j] tv) = (ys3 ++ [Value.int succ[j] tv]).toArray from by simp] at N14
        have N15 := News.perm N14 P14.symm
        have ok15 : So.Ok prog w ⟨x, dx, d, o, t1, t2, t3, t4, .ref D, a, ta, b', tb', pre ++ { n with np := n.np - 1, nt := τ' } :: post⟩ ((J, oJ) :: (I, oI) :: (Dt, tupOf #[.int k t] 0) :: (D, listOf (ys3 ++ [Value.int succ[j] tv]).toArray (kD3 + 1)) :: rest) := ⟨(okb τ').mod, (okb τ').dict, (okb τ').its, (okb τ').keys, Ap.same (by simp) (okb τ').ap⟩
        clear N14
        k_steps
        rename Fr _ _ _ _ => F16
        rename News _ _ _ _ => N16
        refine ForEndN.intro ⟨pre ++ { n with np := n.np - 1, nt := τ' } :: post, kD3 + 1, ys3 ++ [Value.int succ[j] tv], some (.ref n.ia), some (.int succ[j] tv)⟩ hobJ F16 (News.perm N16 List.perm_middle) ?_ (Ap.perm List.perm_middle ok15.ap).head ⟨ok15.less, ?_, ?_, hfxb τ'⟩ _ (.inl rfl)
        · intro y
          dsimp only [ovr]
          repeat' split
          all_goals first | rfl | simp_all
        · dsimp only
          rw [hdt, habb, hab7]; rfl
        · dsimp only
          rw [hdt, decStep2, ← hab7, hnp7, if_pos (by lia)]
          exact ints_snoc hys7
      · rename Fr _ _ _ _ => F12
        rename News _ _ _ _ => N12
        rename (n.np - 1 ≠ 0) => hz0
        obtain ⟨τ', N13⟩ : ∃ τ', News _ _ _ (So.led w ⟨x, dx, d, o, t1, t2, t3, t4, .ref D, a, ta, b', tb', pre ++ { n with np := n.np - 1, nt := τ' } :: post⟩ ++ (J, oJ) :: (I, oI) :: (Dt, tupOf #[.int k t] 0) :: (D, listOf ys3.toArray kD3) :: rest) := ⟨_, back _ _ _ _ N12⟩
        refine ForEndN.intro ⟨pre ++ { n with np := n.np - 1, nt := τ' } :: post, kD3, ys3, some (.ref n.ia), some (.int succ[j] tv)⟩ hobJ F12 (News.perm N13 List.perm_middle) ?_ (Ap.perm List.perm_middle (okb τ').ap).head ⟨(okb τ').less, ?_, ?_, hfxb τ'⟩ _ (.inl rfl)
        · intro y
          dsimp only [ovr]
          repeat' split
          all_goals first | rfl | simp_all
        · dsimp only
          rw [hdt, habb, hab7]; rfl
        · dsimp only
          rw [hdt, decStep2, ← hab7, hnp7, if_neg (by lia)]
          exact hys7
    · rintro ⟨nds3, kD3, ys3, u6, u7⟩ h8 tk8 ⟨ok7, hab7, hys7, hfx⟩ F8 N10
      clear F7 N9
      dsimp only at ok7 hab7 hys7 hfx F8 N10
      have P10 := So.perm_dx w ⟨x, dx, d, o, t1, t2, t3, t4, .ref D, a, ta, b', tb', nds3⟩ ((I, oI) :: (Dt, tupOf #[.int k t] 0) :: (D, listOf ys3.toArray kD3) :: rest)
      have N11 := News.perm N10 P10
      have A11 := (Ap.perm P10 ok7.ap).head
      dsimp only at N11 A11
      clear N10
      k_steps
      rename Fr _ _ _ _ => F12
      rename News _ _ _ _ => N12
      obtain ⟨τ', N13⟩ : ∃ τ', News _ _ _ (So.led w ⟨x, dx, d, o, t1, t2, t3, t4, .ref D, a, ta, b' + 1, τ', nds3⟩ ++ (I, oI) :: (Dt, tupOf #[.int k t] 0) :: (D, listOf ys3.toArray kD3) :: rest) := ⟨_, News.perm N12 (So.perm_dx w ⟨x, dx, d, o, t1, t2, t3, t4, .ref D, a, ta, b' + 1, _, nds3⟩ ((I, oI) :: (Dt, tupOf #[.int k t] 0) :: (D, listOf ys3.toArray kD3) :: rest)).symm⟩
      have ok13 := ok7.data (.ref D) a (b' + 1) ta τ'
      rw [List.size_toArray, hits.length, List.take_length] at hab7 hys7
      refine ForEndN.intro ⟨nds3, kD3, ys3, b' + 1, τ', u6, u7, some (.int (-1) nt), some (.ref ia), some (.int k t)⟩ hob F12 (News.perm N13 List.perm_middle) ?_ (Ap.perm List.perm_middle ok13.ap).head ⟨(fun h => nomatch h), fun _ => ⟨ok13.less, rfl, ?_, ?_⟩⟩ _ (.inl rfl)
      · intro y
        dsimp only [ovr]
        repeat' split
        all_goals first | rfl | simp_all
      · dsimp only
        rw [hab7]
        unfold doneA
        rw [hsuo, show nds1.map Nd.ab = turnA (nds'.map Nd.ab) k doneF from hab6]
      · dsimp only
        unfold doneA
        rw [hsuo, ← show nds1.map Nd.ab = turnA (nds'.map Nd.ab) k doneF from hab6]
        exact hys7
  · rintro ⟨nds', kD', ys', b', tb', u1, u2, u3, u4, u5⟩ h6 tk6 ⟨_, hst⟩ F5 N6
    clear F1 N2
    obtain ⟨ok3, hb3, hab3, hys3⟩ := hst rfl
    dsimp only at ok3 hb3 hab3 hys3 F5 N6
    subst hb3
    k_steps
    rename Fr _ _ _ _ => F6
    rename News _ _ _ _ => N7
    exact hQ nds' tb' kD' ys' _ _ F6 (fun q hq => News.perm N7 List.perm_middle q (.tail _ hq)) ok3.less hab3 hys3
end
end

section
open PySem PySem.W PyProof.Rows PySem.Calls
theorem freshA2 : True := by
  w_top off
  trivial
theorem meets_bool_list (l : Addr) : Meets (Builtin.«bool.__new__» ⟨[.type "bool", .ref l], []⟩) (fun _ R s => s.heap.IsList l #[] ∧ R (.ok (.ret (.bool false))) { s with toks := s.toks + 1 + 1 }) :=
  Meets.of_wp fun prog w A R s hs => by
    obtain ⟨hp, g, d, tk, os⟩ := s
    obtain ⟨hl, hs⟩ := hs
    have f1 := F.conv_sub_bool
    repeat (any_goals (first | assumption | (with_reducible refine wpAny_truthy_list hl (by decide) ?_) | wp_step))
    all_goals first | exact ⟨_, rfl, hs⟩ | exact hs | skip
theorem bool_nilK {prog : Program} {w : World} {A : Around} {E : Value → Shared → Prop} {s : Shared} {h₀ : Heap} {L l : Addr} {news : List (Addr × Obj)} {n : Nat} {Q : Value → Shared → Prop} (N : News h₀ L s.heap news) (hp : (l, listOf #[] n) ∈ news) (h : Q (.bool false) { s with toks := s.toks + 1 + 1 }) :
    wpAny (model prog w) A (call (.type "bool") [.ref l]) Q E s :=
  call_bool_1 (meets_bool_list l) (show _ ∧ wants (fun obj s₁ => s₁.TypeIs obj "bool" ∧ Q obj s₁) E _ _ from ⟨⟨_, (N _ hp).1, rfl, n, rfl⟩, rfl, h⟩)
local macro_rules | `(tactic| walk_at "call type:bool") => `(tactic| ((with_reducible show wpAny _ _ (call (Value.type _) [Value.ref _]) _ _ _); k_dflt (refine' bool_nilK ?N ?hp ?_; (case N => k_asm); (case hp => k_mem); k_whole)))
section
variable {prog p : Program} {loose : List Str} {w : World} {mg mb : Str → Option Value} {mean : ExcName → Option Value} {dp un : Nat} {gd : Option (List Code)} {env : Env} {outer : List Env} {A₀ : Around} {base h₀ : Heap} {L : Addr} {m : Str → Option Value} {rest : List (Addr × Obj)} {s : Shared} {Q E : Value → Shared → Prop}
theorem active_spec {S : So} {D : Addr} {kD : Nat} (hrv : S.rv = .ref D) (hab : S.b = S.a)
    (B : Below A₀ base outer h₀) (F : Fr h₀ L s.heap m) (X₀ : (hd.heap_39 w.params).In h₀) (T : Top p loose mean mg mb h₀)
    (N : News h₀ L s.heap (S.led w ++ (D, listOf #[] kD) :: rest))
    (hf : env.frame = some L) (hk : env.scope.kind = .function) (hdp : dp + 60 < recursionLimit)
    (hQ : ∀ h' tk, Fr h₀ L h' m → News h₀ L h' (S.led w ++ (D, listOf #[] kD) :: rest) → Q (.bool false) { s with heap := h', toks := tk }) :
    wpAny (model prog w) (arT dp un gd env outer) (call (.ref 159) [.ref S.x]) Q E s := by
  have X := X₀
  obtain ⟨x, dx, d, o, t1, t2, t3, t4, rv, a, ta, b, tb, nds⟩ := S
  dsimp only at hrv hab hQ ⊢
  subst hrv hab
  have N0 := N
  dsimp only [So.led, List.cons_append] at N0
  have hm0 : (D, listOf #[] kD) ∈ ndsLed nds ++ (D, listOf #[] kD) :: rest := List.mem_append_right _ (.head _)
  clear N
  refine wpAny_call ?_
  walk_at "K enter"
  k_steps
  · exact absurd (by assumption : b < b) (Int.lt_irrefl _)
  · rename Fr _ _ _ _ => F1
    rename News _ _ _ _ => N1
    exact hQ _ _ F1 N1
end
end

end Mine
end

section
open PySem PySem.W PyProof.Rows PySem.Calls
theorem Mine.freshLL0 : True := by
  w_top off
  trivial
namespace Mine
structure Lw1 where
  vs : List Value
  n : Nat
  c1 : Obj
  c2 : Obj
  tl : List (Addr × Obj)
  prs : List (Int × Int)
  v : Option Value
noncomputable def StepOk (q : Int × Int) : Prop := 0 ≤ q.1 ∧ q.1 < q.2 ∧ q.2 ≤ 5
theorem stepOk_of (num : Int) (h : num.fmod 6 ≠ (num.fdiv 6).fmod 6) : StepOk (if (num.fdiv 6).fmod 6 < num.fmod 6 then (num.fdiv 6).fmod 6 else num.fmod 6, if (num.fdiv 6).fmod 6 > num.fmod 6 then (num.fdiv 6).fmod 6 else num.fmod 6) := by
  have a1 := Int.fmod_nonneg_of_pos num (by decide : (0 : Int) < 6)
  have a2 := Int.fmod_lt_of_pos num (by decide : (0 : Int) < 6)
  have b1 := Int.fmod_nonneg_of_pos (num.fdiv 6) (by decide : (0 : Int) < 6)
  have b2 := Int.fmod_lt_of_pos (num.fdiv 6) (by decide : (0 : Int) < 6)
  unfold StepOk
  dsimp only
  by_cases h1 : (num.fdiv 6).fmod 6 < num.fmod 6
  · rw [if_pos h1, if_neg (by lia)]; lia
  · rw [if_neg h1, if_pos (by lia)]; lia
theorem Ap.re4 {a1 a2 a3 a4 : Addr} {o1 o2 o3 o4 p1 p2 p3 p4 : Obj} {T : List (Addr × Obj)} (h : Ap ((a1, o1) :: (a2, o2) :: (a3, o3) :: (a4, o4) :: T)) : Ap ((a1, p1) :: (a2, p2) :: (a3, p3) :: (a4, p4) :: T) := Ap.same rfl h
theorem Ap.hd {a : Addr} {o : Obj} {T : List (Addr × Obj)} (h : Ap ((a, o) :: T)) : ∀ q ∈ T, q.1 ≠ a := h.head
theorem Ap.below {a : Addr} {o : Obj} {T : List (Addr × Obj)} (h : AllLt a T) (A : Ap T) : Ap ((a, o) :: T) := .fresh (allLt_at h) A
theorem Ap.cons2 {a : Addr} {o : Obj} {T : List (Addr × Obj)} (h : ∀ q ∈ T, q.1 ≠ a) (A : Ap T) : Ap ((a, o) :: T) := .cons h A
/-- the law's ledger in loop 1 -/
noncomputable abbrev led1 (ls L D0 : Addr) (ws0 : List Value) (vs : List Value) (n : Nat) (c1 c2 : Obj) (tl : List (Addr × Obj)) : List (Addr × Obj) := (ls, listOf vs.toArray n) :: (L + 1, c1) :: (L + 1 + 1, c2) :: (D0, listOf ws0.toArray 0) :: tl
theorem led1_re {ls L D0 : Addr} {ws0 vs vs' : List Value} {n n' : Nat} {c1 c2 d1 d2 : Obj} {tl : List (Addr × Obj)} (A : Ap (led1 ls L D0 ws0 vs n c1 c2 tl)) : Ap (led1 ls L D0 ws0 vs' n' d1 d2 tl) := Ap.re4 A
theorem led1_apart {ls L D0 I : Addr} {ws0 vs vs' : List Value} {n n' : Nat} {c1 c2 d1 d2 : Obj} {tl : List (Addr × Obj)} (A : ∀ q ∈ led1 ls L D0 ws0 vs n c1 c2 tl, q.1 ≠ I) : ∀ q ∈ led1 ls L D0 ws0 vs' n' d1 d2 tl, q.1 ≠ I := by
  simp only [List.mem_cons, forall_eq_or_imp] at A ⊢
  exact A
theorem led1_tup {ls L D0 I D : Addr} {ws0 vs : List Value} {n : Nat} {c1 c2 oI o : Obj} {tl : List (Addr × Obj)} {g h : Heap} {L' : Addr} (N : News g L' h ((D, o) :: (I, oI) :: led1 ls L D0 ws0 vs n c1 c2 tl)) : News g L' h ((I, oI) :: led1 ls L D0 ws0 vs n c1 c2 ((D, o) :: tl)) :=
  News.perm N (List.perm_middle (l₁ := [(I, oI), (ls, listOf vs.toArray n), (L + 1, c1), (L + 1 + 1, c2), (D0, listOf ws0.toArray 0)]) (a := (D, o)) (l₂ := tl)).symm
theorem led1_ap {ls L D0 I D : Addr} {ws0 vs vs' : List Value} {n n' : Nat} {c1 c2 d1 d2 o : Obj} {tl : List (Addr × Obj)} (lp : I < D ∧ ls < D ∧ L + 1 < D ∧ L + 1 + 1 < D ∧ D0 < D ∧ AllLt D tl) (hI : ∀ q ∈ led1 ls L D0 ws0 vs n c1 c2 tl, q.1 ≠ I) (A : Ap (led1 ls L D0 ws0 vs n c1 c2 tl)) :
    Ap (led1 ls L D0 ws0 vs' n' d1 d2 ((D, o) :: tl)) ∧ ∀ q ∈ led1 ls L D0 ws0 vs' n' d1 d2 ((D, o) :: tl), q.1 ≠ I := by
  have A1 : Ap ((D, o) :: led1 ls L D0 ws0 vs' n' d1 d2 tl) := Ap.below (T := led1 ls L D0 ws0 vs' n' d1 d2 tl) ⟨lp.2.1, lp.2.2.1, lp.2.2.2.1, lp.2.2.2.2.1, lp.2.2.2.2.2⟩ (led1_re A)
  refine ⟨Ap.perm (List.perm_middle (l₁ := [(ls, listOf vs'.toArray n'), (L + 1, d1), (L + 1 + 1, d2), (D0, listOf ws0.toArray 0)]) (a := (D, o)) (l₂ := tl)).symm A1, ?_⟩
  have h := led1_apart (vs' := vs') (n' := n') (d1 := d1) (d2 := d2) hI
  have hD : D ≠ I := Nat.ne_of_gt lp.1
  simp only [List.mem_cons, forall_eq_or_imp] at h ⊢
  exact ⟨h.1, h.2.1, h.2.2.1, h.2.2.2.1, hD, h.2.2.2.2⟩
section
variable {prog : Program} {w : World} {A : Around} {E : Value → Shared → Prop} {s : Shared} {h₀ : Heap} {L T : Addr} {m : Str → Option Value} {led : List (Addr × Obj)}
theorem assign_pairK {env : Env} {a b : Str} {pa pb tp : Pos} {kk k : Nat} {x y : Value} {Q : Unit → Shared → Prop} (hh : A.handled = none) (hL : env.locals = L) (F : Fr h₀ L s.heap m) (N : News h₀ L s.heap led) (ht : (T, tupOf #[x, y] k) ∈ led)
    (ha : env.kindOf a = some .local) (hb : env.kindOf b = some .local) (hp : (env.scope.kind == .class || (env.scope.kind == .module && env.locals != env.globals)) = false)
    (h : ∀ h' tk, Fr h₀ L h' (fun z => if z = b then some y else if z = a then some x else m z) → News h₀ L h' led → Q () { s with heap := h', toks := tk }) :
    wpAny (model prog w) A (assign (.Tuple [.Name a pa, .Name b pb] kk tp) env (.ref T)) Q E s := by
  subst hL
  refine kcp_assign hh ⟨_, (N _ ht).1, rfl, _, rfl⟩ ha hb hp F.ns fun h' tk hn hk => ?_
  have hL0 : h₀.get? env.locals = none := Heap.get?_none_of_le F.above
  exact h h' tk ⟨hn, fun c o e => hk c o (fun q => by rw [q, hL0] at e; cases e) (F.keep c o e), F.above⟩ fun q hq => ⟨hk _ _ (N q hq).2.1 (N q hq).1, (N q hq).2⟩
end
end Mine
end

section
open PySem PySem.W PyProof.Rows PySem.Calls
theorem Mine.freshLL1 : True := by
  w_top off
  trivial
namespace Mine
theorem So.start {prog : Program} {w : World} {g h : Heap} {L x dx d : Addr} {o : Obj} {t1 t2 t3 t4 ta tb : Tok} {R : List (Addr × Obj)} (N : News g L h ((d, o) :: (x, instObj 190 dx) :: (dx, soDict w t1 t2 t3 t4 d .none 0 ta 0 tb) :: R))
    (hm : (d == sysModules) = false) (hd : o.IsDictOf (PySem.intKind prog w) []) (hx : x < d ∧ dx < d ∧ AllLt d R) (hdx : dx < x) (hR : AllLt dx R) (A : Ap R) :
    ∃ S : So, S.rv = .none ∧ S.nds = [] ∧ S.a = 0 ∧ S.b = 0 ∧ S.x = x ∧ News g L h (S.led w ++ R) ∧ So.Ok prog w S R := by
  refine ⟨⟨x, dx, d, o, t1, t2, t3, t4, .none, 0, ta, 0, tb, []⟩, rfl, rfl, rfl, rfl, rfl, ?_, hm, hd, (fun _ h => nomatch h), .nil, ?_⟩
  · refine News.perm N ?_
    show List.Perm _ ((x, _) :: (dx, _) :: (d, o) :: R)
    exact List.Perm.trans (List.Perm.swap _ _ _) ((List.Perm.swap _ _ _).cons _)
  · show Ap ((x, _) :: (dx, _) :: (d, o) :: R)
    have a1 : Ap ((dx, soDict w t1 t2 t3 t4 d .none 0 ta 0 tb) :: R) := Ap.below hR A
    have a2 : Ap ((x, instObj 190 dx) :: (dx, soDict w t1 t2 t3 t4 d .none 0 ta 0 tb) :: R) := Ap.fresh (fun q hq => by
      rcases List.mem_cons.mp hq with rfl | hq
      · exact hdx
      · exact Nat.lt_trans (allLt_at hR q hq) hdx) a1
    have a3 : Ap ((d, o) :: (x, instObj 190 dx) :: (dx, soDict w t1 t2 t3 t4 d .none 0 ta 0 tb) :: R) := Ap.fresh (fun q hq => by
      rcases List.mem_cons.mp hq with rfl | hq
      · exact hx.1
      · rcases List.mem_cons.mp hq with rfl | hq
        · exact hx.2.1
        · exact allLt_at hx.2.2 q hq) a2
    exact Ap.perm (List.Perm.trans (List.Perm.swap _ _ _) ((List.Perm.swap _ _ _).cons _)) a3
/-- the adds of a list of steps -/
noncomputable def addsOf (l : List (Int × Int × List Int)) (ps : List (Int × Int)) : List (Int × Int × List Int) := ps.foldl (fun l q => addA l q.2 [q.1]) l
theorem addsOf_take {l : List (Int × Int × List Int)} {ps : List (Int × Int)} {i : Nat} {q : Int × Int} (h : ps[i]? = some q) : addsOf l (ps.take (i + 1)) = addA (addsOf l (ps.take i)) q.2 [q.1] := by
  unfold addsOf
  rw [List.take_add_one, h, Option.toList_some, List.foldl_append]
  rfl
/-- bounds of a graph -/
noncomputable def Bd (i : Nat) (l : List (Int × Int × List Int)) : Prop := l.length ≤ 2 * i ∧ ∀ e ∈ l, e.2.2.length ≤ i
theorem touchA_mem {l : List (Int × Int × List Int)} {k : Int} {e : Int × Int × List Int} (h : e ∈ touchA l k) : e ∈ l ∨ e = (k, 0, []) := by
  unfold touchA at h
  split at h
  · exact .inl h
  · rcases List.mem_append.mp h with h | h
    · exact .inl h
    · exact .inr (List.mem_singleton.mp h)
theorem turnA_mem {l : List (Int × Int × List Int)} {k : Int} {f : Int × List Int → Int × List Int} {e : Int × Int × List Int} (h : e ∈ turnA l k f) : ∃ e' ∈ l, e = if e'.1 = k then (k, f e'.2) else e' := by
  obtain ⟨e', h1, h2⟩ := List.mem_map.mp h
  exact ⟨e', h1, h2.symm⟩
theorem Bd.add {i : Nat} {l : List (Int × Int × List Int)} {x y : Int} (h : Bd i l) : Bd (i + 1) (addA l y [x]) := by
  have t1 : ∀ {l : List (Int × Int × List Int)} {k : Int} {c : Int} {n : Nat}, (∀ e ∈ l, e.2.2.length ≤ n) → ∀ e ∈ turnA (touchA l k) k (incF c), e.2.2.length ≤ n := by
    intro l k c n hl e he
    obtain ⟨e', h1, rfl⟩ := turnA_mem he
    have h2 : e'.2.2.length ≤ n := by
      rcases touchA_mem h1 with h1 | rfl
      · exact hl _ h1
      · exact Nat.zero_le _
    split
    · exact h2
    · exact h2
  have t2 : ∀ {l : List (Int × Int × List Int)} {k : Int} {c : Int} {n : Nat}, (∀ e ∈ l, e.2.2.length ≤ n) → ∀ e ∈ turnA (touchA l k) k (pushF c), e.2.2.length ≤ n + 1 := by
    intro l k c n hl e he
    obtain ⟨e', h1, rfl⟩ := turnA_mem he
    have h2 : e'.2.2.length ≤ n := by
      rcases touchA_mem h1 with h1 | rfl
      · exact hl _ h1
      · exact Nat.zero_le _
    split
    · simp only [pushF, List.length_append, List.length_singleton]; lia
    · lia
  refine ⟨?_, t2 (t1 h.2)⟩
  show (turnA (touchA (turnA (touchA l y) y (incF _)) x) x (pushF y)).length ≤ _
  rw [turnA_length]
  refine Nat.le_trans (touchA_length _ _) ?_
  rw [turnA_length]
  have := touchA_length l y
  have := h.1
  lia
theorem Bd.add1 {i : Nat} {l : List (Int × Int × List Int)} {y : Int} (h : Bd i l) : Bd (i + 1) (addA l y []) := by
  refine ⟨?_, fun e he => ?_⟩
  · show (turnA (touchA l y) y (incF _)).length ≤ _
    rw [turnA_length]
    have := touchA_length l y
    have := h.1
    lia
  · obtain ⟨e', h1, rfl⟩ := turnA_mem (l := touchA l y) he
    have h2 : e'.2.2.length ≤ i := by
      rcases touchA_mem h1 with h1 | rfl
      · exact h.2 _ h1
      · exact Nat.zero_le _
    split
    · exact Nat.le_succ_of_le h2
    · exact Nat.le_succ_of_le h2
structure Lw2 where
  o : Obj
  nds : List Nd
  lo : Option Value
  hi : Option Value
theorem ovr_pair {a b : Str} (hab : a ≠ b) {lo hi : Option Value} {v u : Value} (m : Str → Option Value) (y : Str) : (if y = b then some u else if y = a then some v else ovr [(a, lo), (b, hi)] m y) = ovr [(a, some v), (b, some u)] m y := by
  dsimp only [ovr]
  by_cases h1 : y = b
  · subst h1
    rw [if_pos rfl, if_neg (Ne.symm hab), if_pos rfl]
  · rw [if_neg h1]
    by_cases h2 : y = a
    · rw [if_pos h2, if_pos h2]
    · rw [if_neg h2, if_neg h2, if_neg h2, if_neg h1, if_neg h1]
theorem ovr_one {a : Str} {lo : Option Value} {v : Value} (m : Str → Option Value) (y : Str) : (if y = a then some v else ovr [(a, lo)] m y) = ovr [(a, some v)] m y := by
  dsimp only [ovr]
  by_cases h2 : y = a
  · rw [if_pos h2, if_pos h2]
  · rw [if_neg h2, if_neg h2, if_neg h2]
end Mine
end

section
open PySem PySem.W PyProof.Rows PySem.Calls
theorem Mine.freshLL2 : True := by
  w_top off
  trivial
namespace Mine
theorem it2_range {prog : Program} {w : World} (a : Int) (n : Nat) : It2 prog w n (fun i o => o = rgObj a n i) (fun _ => True) (fun i v => ∃ t, v = .int (a + i) t) where
  item := fun A E Q s I i hi hI _ h => by
    obtain ⟨o, ho, rfl⟩ := hI
    exact (it_range a n).item A E Q s I i hi ho (fun q hq => nomatch hq) fun v h' tk hv hx hs => h v h' tk hv ⟨_, hx, rfl⟩ hs
  done := fun A E Q s I hh hI _ h => by
    obtain ⟨o, ho, rfl⟩ := hI
    exact (it_range a n).done A E Q s I hh ho (fun q hq => nomatch hq) h
section
variable {σ : Type} {prog : Program} {w : World} {A : Around} {E : Value → Shared → Prop} {s : Shared} {env : Env} {g : Heap} {L : Addr} {m : Str → Option Value} {led₀ : List (Addr × Obj)} {target : PySem.Expr} {body : List Stmt} {Q : Flow → Shared → Prop}
theorem forAtN_range {r : Addr} {a b : Int} {t u v : Tok} {n : Nat} (vals : σ → List (Str × Option Value)) (led : σ → List (Addr × Obj)) (P : Nat → σ → Prop) (st₀ : σ)
    (hh : A.handled = none) (F : Fr g L s.heap m) (N : News g L s.heap led₀) (hr : IsRange s.heap r a b 1 t u v) (hsmall : Builtin.Range.small a b 1 = true) (hsz : Builtin.Range.rangeSize a b 1 = (n : Int)) (hs : ∀ p ∈ vals st₀, p.2 = m p.1) (hl : ∀ q ∈ led st₀, q ∈ led₀) (hp : P 0 st₀)
    (turn : ∀ I i t st o h tk, i < n → P i st → (∀ q ∈ led st, q.1 ≠ I) → o = rgObj a n (i + 1) → Fr g L h (ovr (vals st) m) → News g L h ((I, o) :: led st) →
      wpAny (model prog w) A (letOwnedTupleGo target (.ref I) (.int (a + i) t)) (fun _ s₁ => wpAny (model prog w) A (assign target env (.int (a + i) t)) (fun _ s₂ => wpAny (model prog w) A (execs body env) (ForEndN L m g vals led P I (fun i o => o = rgObj a n i) s i Q) E s₂) E s₁) E { s with heap := h, toks := tk })
    (done : ∀ st h tk, P n st → Fr g L h (ovr (vals st) m) → News g L h (led st) → Q .next { s with heap := h, toks := tk })
    (hE : PassesOwn (model prog w) A env E := by passes_own) : ForAt prog w A target body env Q E (.ref r) s := by
  unfold ForAt
  refine wpAny_pyIter_range hr hsmall ?_
  have e0 : ({ cls := .type "range_iterator", data := .fields #[rawInt a, rawInt (Builtin.Range.rangeSize a b 1), rawInt 1] } : Obj) = rgObj a n 0 := by
    rw [hsz]; unfold rgObj; simp
  rw [e0]
  have F1 := F.push (rgObj a n 0)
  have N1 := News.push F N (rgObj a n 0)
  refine loop_N (s := ⟨_, s.gens, s.drawn, s.toks, s.os⟩) (it2_range a n) vals led P 0 st₀ hh F1 (o₀ := rgObj a n 0) rfl (fun q hq => by
    rcases List.mem_cons.mp hq with rfl | hq
    · exact N1 _ (.head _)
    · exact N1 _ (.tail _ (hl q hq))) hs (fun q hq => Nat.ne_of_lt (Heap.lt_size (N q (hl q hq)).1)) (fun i st h hp N => trivial) hp (Nat.zero_le _) ?_ done hE
  rintro i v st o h tk hi ⟨t, rfl⟩ hp' hI ho F' N'
  exact turn _ i t st o h tk hi hp' hI ho F' N'
end
theorem perm_re {α : Type} (p a b d : α) (ts cs : List α) : (p :: a :: b :: d :: (ts ++ cs)).Perm (p :: d :: a :: b :: (cs ++ ts)) := by
  refine List.Perm.cons _ (List.Perm.trans (l₂ := d :: a :: b :: (ts ++ cs)) ?_ ?_)
  · exact (List.perm_middle (l₁ := [a, b]) (a := d))
  · exact ((List.perm_append_comm.cons _).cons _).cons _
/-- the law's own things: the steps, the cells list, the six cells, the tuples -/
noncomputable abbrev ledB (ls D0 L : Addr) (vs ws0 : List Value) (nv : Nat) (c1 c2 c3 c4 c5 c6 : Obj) (ts : List (Addr × Obj)) : List (Addr × Obj) :=
  (ls, listOf vs.toArray nv) :: (D0, listOf ws0.toArray 0) :: (L + 1, c1) :: (L + 1 + 1, c2) :: (L + 1 + 1 + 1, c3) :: (L + 1 + 1 + 1 + 1, c4) :: (L + 1 + 1 + 1 + 1 + 1, c5) :: (L + 1 + 1 + 1 + 1 + 1 + 1, c6) :: ts
end Mine
end

section
open PySem PySem.W PyProof.Rows PySem.Calls
theorem Mine.freshLM1 : True := by
  w_top off
  trivial
namespace Mine
structure Lw3 where
  o : Obj
  nds : List Nd
  c : Obj
/-- node n is told, for every n of a list -/
noncomputable def nodesOf (l : List (Int × Int × List Int)) (ns : List Int) : List (Int × Int × List Int) := ns.foldl (fun l n => addA l n []) l
theorem nodesOf_snoc (l : List (Int × Int × List Int)) (ns : List Int) (n : Int) : nodesOf l (ns ++ [n]) = addA (nodesOf l ns) n [] := by
  unfold nodesOf
  rw [List.foldl_append]; rfl
noncomputable def intsTo (n : Nat) : List Int := (List.range n).map fun (i : Nat) => (i : Int)
theorem intsTo_succ (n : Nat) : intsTo (n + 1) = intsTo n ++ [(n : Int)] := by
  unfold intsTo
  rw [List.range_succ, List.map_append]; rfl
theorem intsTo_length (n : Nat) : (intsTo n).length = n := by simp [intsTo]
section
variable {A₀ : Around} {base g : Heap}
theorem kts_nil {L : Addr} {h g' : Heap} {m : Str → Option Value} (T : KtsTurn (frs []) g g') (F : Fr g' L h m) : Fr g L h m :=
  ⟨F.ns, fun b o e => F.keep b o (T.other b o e (fun hm => nomatch hm)), by rw [← T.size]; exact F.above⟩
theorem kts_nilN {L : Addr} {h g' : Heap} {news : List (Addr × Obj)} (T : KtsTurn (frs []) g g') (N : News g' L h news) : News g L h news := fun q hq => ⟨(N q hq).1, (N q hq).2.1, by
  cases e : g.get? q.1 with
  | none => rfl
  | some o =>
    have := T.other _ _ e (fun hm => nomatch hm)
    rw [(N q hq).2.2] at this; cases this⟩
theorem dicts_nil {h : Heap} : KtsDicts (frs []) h := fun b hb => nomatch hb
end
section
variable {prog p : Program} {loose : List Str} {w : World} {mg mb : Str → Option Value} {mean : ExcName → Option Value} {dp un : Nat} {gd : Option (List Code)} {env : Env} {A₀ : Around} {g : Heap} {L : Addr} {m : Str → Option Value} {rest : List (Addr × Obj)} {s : Shared} {Q E : Value → Shared → Prop}
theorem gd_L (B : Below A₀ g [] g) (X : (hd.heap_39 w.params).In g) (T : Top p loose mean mg mb g) (F : Fr g L s.heap m) (N : News g L s.heap rest) : Gd (hd.heap_39 w.params) p loose mean mg mb A₀ g [] L m g s.heap rest := ⟨B, F, X, N, T, X, T, dicts_nil⟩
theorem filter_L {la lb : Addr} {va vb : List Value} {na nb : Nat} {xs ys : List Int}
    (B : Below A₀ g [] g) (F : Fr g L s.heap m) (X : (hd.heap_39 w.params).In g) (T : Top p loose mean mg mb g) (N : News g L s.heap rest)
    (hf : env.frame = some L) (hk : env.scope.kind = .function) (hdp : dp + 20 < recursionLimit)
    (ha : (la, listOf va.toArray na) ∈ rest) (hb : (lb, listOf vb.toArray nb) ∈ rest) (hxs : IntsAre va xs) (hys : IntsAre vb ys) (hsz : xs.length ≤ 1000000)
    (hQ : ∀ S h' tk ws n', (∀ q ∈ rest, q.1 < S) → Fr g L h' m → News g L h' ((S, listOf ws.toArray n') :: rest) → IntsAre ws (xs.filter fun k => !ys.contains k) → Q (.ref S) { s with heap := h', toks := tk }) :
    wpAny (model prog w) (arT dp un gd env []) (call (.ref 65) [.ref la, .ref lb]) Q E s :=
  filter_spec (gd_L B X T F N) hf hk hdp ha hb hxs hys hsz fun S _ h' tk ws n' hS TT G hw => hQ S h' tk ws n' (fun q hq => Nat.lt_of_lt_of_le (Heap.lt_size (N q hq).1) hS) (kts_nil TT G.F) (kts_nilN TT G.N) hw
theorem join_L {la lb : Addr} {va vb : List Value} {na nb : Nat} {xs ys : List Int}
    (B : Below A₀ g [] g) (F : Fr g L s.heap m) (X : (hd.heap_39 w.params).In g) (T : Top p loose mean mg mb g) (N : News g L s.heap rest)
    (hf : env.frame = some L) (hk : env.scope.kind = .function) (hdp : dp + 30 < recursionLimit)
    (ha : (la, listOf va.toArray na) ∈ rest) (hb : (lb, listOf vb.toArray nb) ∈ rest) (hxs : IntsAre va xs) (hys : IntsAre vb ys) (hsx : xs.length ≤ 1000000) (hsy : ys.length ≤ 1000000)
    (hQ : ∀ S h' tk ws n', (∀ q ∈ rest, q.1 < S) → Fr g L h' m → News g L h' ((S, listOf ws.toArray n') :: rest) → IntsAre ws (joinF xs ys) → Q (.ref S) { s with heap := h', toks := tk }) :
    wpAny (model prog w) (arT dp un gd env []) (call (.ref 201) [.ref la, .ref lb]) Q E s :=
  join_spec (gd_L B X T F N) hf hk hdp ha hb hxs hys hsx hsy fun S _ h' tk ws n' hS TT G hw => hQ S h' tk ws n' (fun q hq => Nat.lt_of_lt_of_le (Heap.lt_size (N q hq).1) hS) (kts_nil TT G.F) (kts_nilN TT G.N) hw
theorem reduce_L {ls l0 : Addr} {vs v0 : List Value} {ns n0 : Nat} {xss : List (List Int)} {x0 : List Int}
    (B : Below A₀ g [] g) (F : Fr g L s.heap m) (X : (hd.heap_39 w.params).In g) (T : Top p loose mean mg mb g) (N : News g L s.heap rest)
    (hf : env.frame = some L) (hk : env.scope.kind = .function) (hdp : dp + 50 < recursionLimit)
    (hs : (ls, listOf vs.toArray ns) ∈ rest) (h0 : (l0, listOf v0.toArray n0) ∈ rest) (hxs : ListsAre rest vs xss) (hx0 : IntsAre v0 x0) (hb : ∀ i, ((xss.take i).foldl joinF x0).length ≤ 1000000) (hb2 : ∀ xs ∈ xss, xs.length ≤ 1000000)
    (hQ : ∀ S h' tk ws n', (∀ q ∈ rest, q.1 ≠ l0 → q.1 ≠ S) → Fr g L h' m → News g L h' ((S, listOf ws.toArray n') :: rest) → IntsAre ws (xss.foldl joinF x0) → Q (.ref S) { s with heap := h', toks := tk }) :
    wpAny (model prog w) (arT dp un gd env []) (call (.ref 74) [.ref 201, .ref ls, .ref l0]) Q E s :=
  reduce_spec2 (gd_L B X T F N) hf hk hdp hs h0 hxs hx0 hb hb2 fun S _ h' tk ws n' TT G hw hq => hQ S h' tk ws n' hq (kts_nil TT G.F) (kts_nilN TT G.N) hw
theorem prep_L {S : So} (hrv : S.rv = .none)
    (B : Below A₀ g [] g) (F : Fr g L s.heap m) (X : (hd.heap_39 w.params).In g) (T : Top p loose mean mg mb g) (N : News g L s.heap (S.led w ++ rest)) (ok : S.Ok prog w rest) (hlen : S.nds.length ≤ 900)
    (hac : ∀ n ∈ S.nds, ∀ v ∈ n.succ, n.k < v ∧ ∃ n' ∈ S.nds, n'.k = v)
    (hf : env.frame = some L) (hk : env.scope.kind = .function) (hdp : dp + 80 < recursionLimit)
    (hQ : ∀ D k ys h' tk, Fr g L h' m → News g L h' (So.led w { S with rv := .ref D } ++ (D, listOf ys.toArray k) :: rest) →
      So.Ok prog w { S with rv := .ref D } ((D, listOf ys.toArray k) :: rest) → IntsAre ys ((S.nds.filter fun n => decide (n.np = 0)).map (·.k)) → Q .none { s with heap := h', toks := tk }) :
    wpAny (model prog w) (arT dp un gd env []) (call (.ref 145) [.ref S.x]) Q E s :=
  prep_spec hrv (gd_L B X T F N) ok hlen hac hf hk hdp fun D k ys _ h' tk TT G ok' hys => hQ D k ys h' tk (kts_nil TT G.F) (kts_nilN TT G.N) ok' hys
end
theorem perm_third {α : Type} (A : List α) (p q r : α) (R : List α) : (A ++ p :: q :: r :: R).Perm (r :: (A ++ p :: q :: R)) :=
  ((List.perm_middle (l₁ := [p, q]) (a := r) (l₂ := R)).append_left A).trans List.perm_middle
end Mine
end

section
open PySem PySem.W PyProof.Rows PySem.Calls
theorem Mine.freshPL1 : True := by
  w_top off
  trivial
namespace Mine
/-- the sorter's data by its keys and a function -/
noncomputable def Vw (l : List (Int × Int × List Int)) (ks : List Int) (F : Int → Int × List Int) : Prop := l = ks.map fun k => (k, F k)
theorem Vw.keys {l : List (Int × Int × List Int)} {ks : List Int} {F : Int → Int × List Int} (h : Vw l ks F) : l.map (·.1) = ks := by
  unfold Vw at h
  rw [h, List.map_map]
  exact (List.map_congr_left fun _ _ => rfl).trans (List.map_id ks)
theorem Vw.mem {l : List (Int × Int × List Int)} {ks : List Int} {F : Int → Int × List Int} (h : Vw l ks F) {e : Int × Int × List Int} (he : e ∈ l) : e.1 ∈ ks ∧ e.2 = F e.1 := by
  unfold Vw at h
  subst h
  obtain ⟨k, hk, rfl⟩ := List.mem_map.mp he
  exact ⟨hk, rfl⟩
theorem Vw.congr {l : List (Int × Int × List Int)} {ks : List Int} {F G : Int → Int × List Int} (h : Vw l ks F) (e : ∀ k ∈ ks, F k = G k) : Vw l ks G := by
  unfold Vw at h ⊢
  rw [h]
  exact List.map_congr_left fun k hk => by rw [e k hk]
theorem Vw.turn {l : List (Int × Int × List Int)} {ks : List Int} {F : Int → Int × List Int} (h : Vw l ks F) (v : Int) (f : Int × List Int → Int × List Int) : Vw (turnA l v f) ks (fun k => if k = v then f (F k) else F k) := by
  unfold Vw at h ⊢
  unfold turnA
  rw [h, List.map_map]
  refine List.map_congr_left fun k hk => ?_
  dsimp only [Function.comp]
  by_cases e : k = v
  · rw [if_pos e, if_pos e, e]
  · rw [if_neg e, if_neg e]
theorem Vw.touch {l : List (Int × Int × List Int)} {ks : List Int} {F : Int → Int × List Int} (h : Vw l ks F) (v : Int) (hn : v ∉ ks → F v = (0, [])) : ∃ ks', Vw (touchA l v) ks' F ∧ v ∈ ks' ∧ (∀ k ∈ ks, k ∈ ks') ∧ (∀ k ∈ ks', k ∈ ks ∨ k = v) := by
  have e : (l.any (·.1 = v)) = decide (v ∈ ks) := by
    rw [Bool.eq_iff_iff, List.any_eq_true, decide_eq_true_eq, ← h.keys, List.mem_map]
    constructor
    · rintro ⟨x, hx, q⟩; exact ⟨x, hx, of_decide_eq_true q⟩
    · rintro ⟨x, hx, q⟩; exact ⟨x, hx, decide_eq_true q⟩
  unfold touchA
  rw [e]
  by_cases hv : v ∈ ks
  · rw [if_pos (decide_eq_true hv)]
    exact ⟨ks, h, hv, fun _ hk => hk, fun _ hk => .inl hk⟩
  · rw [if_neg (by simpa using hv)]
    refine ⟨ks ++ [v], ?_, List.mem_append_right _ (.head _), fun _ hk => List.mem_append_left _ hk, fun k hk => ?_⟩
    · unfold Vw at h ⊢
      rw [h, List.map_append, List.map_singleton, hn hv]
    · rcases List.mem_append.mp hk with hk | hk
      · exact .inl hk
      · exact .inr (List.mem_singleton.mp hk)
/-- what leads to k by one step, of them that are not in O -/
noncomputable def cntO (ps : List (Int × Int)) (O : List Int) (k : Int) : Nat := ps.countP fun q => decide (q.2 = k) && !O.contains q.1
noncomputable def sucs (ps : List (Int × Int)) (k : Int) : List Int := (ps.filter fun q => decide (q.1 = k)).map (·.2)
noncomputable def F0 (ps qs : List (Int × Int)) (k : Int) : Int × List Int := ((cntO ps [] k : Int), sucs qs k)
theorem cntO_nil {ps : List (Int × Int)} {k : Int} (h : ∀ q ∈ ps, q.2 ≠ k) {O : List Int} : cntO ps O k = 0 := by
  unfold cntO
  rw [List.countP_eq_zero]
  intro q hq
  simp [h q hq]
theorem sucs_nil {ps : List (Int × Int)} {k : Int} (h : ∀ q ∈ ps, q.1 ≠ k) : sucs ps k = [] := by
  unfold sucs
  rw [List.map_eq_nil_iff, List.filter_eq_nil_iff]
  intro q hq
  simpa using h q hq
theorem cntO_snoc (ps : List (Int × Int)) (x y k : Int) : cntO (ps ++ [(x, y)]) [] k = cntO ps [] k + if y = k then 1 else 0 := by
  unfold cntO
  rw [List.countP_append]
  by_cases h : y = k <;> simp [h]
theorem sucs_snoc (ps : List (Int × Int)) (x y k : Int) : sucs (ps ++ [(x, y)]) k = sucs ps k ++ if x = k then [y] else [] := by
  unfold sucs
  rw [List.filter_append, List.map_append]
  by_cases h : x = k <;> simp [h]
theorem F0_out {ps qs : List (Int × Int)} {k : Int} (h1 : ∀ q ∈ ps, q.2 ≠ k) (h2 : ∀ q ∈ qs, q.1 ≠ k) : F0 ps qs k = (0, []) := by
  unfold F0
  rw [cntO_nil h1, sucs_nil h2]; rfl
/-- what stands in the sorter while steps and nodes are added -/
noncomputable def GI (ps : List (Int × Int)) (R : Int → Prop) (l : List (Int × Int × List Int)) (ks : List Int) : Prop := Vw l ks (F0 ps ps) ∧ (∀ q ∈ ps, q.1 ∈ ks ∧ q.2 ∈ ks) ∧ ∀ k ∈ ks, R k
theorem GI.add {ps : List (Int × Int)} {R : Int → Prop} {l : List (Int × Int × List Int)} {ks : List Int} (h : GI ps R l ks) {x y : Int} (hx : R x) (hy : R y) : ∃ ks', GI (ps ++ [(x, y)]) R (addA l y [x]) ks' := by
  obtain ⟨h1, h2, h3⟩ := h
  obtain ⟨k1, v1, a1, b1, c1⟩ := h1.touch y (fun hn => F0_out (fun q hq e => hn (e ▸ (h2 q hq).2)) (fun q hq e => hn (e ▸ (h2 q hq).1)))
  have v2 : Vw (turnA (touchA l y) y (incF ([x] : List Int).length)) k1 (F0 (ps ++ [(x, y)]) ps) := (v1.turn y _).congr fun k _ => by
    unfold F0
    rw [cntO_snoc]
    by_cases e : k = y
    · rw [if_pos e, if_pos e.symm]; simp [incF]
    · rw [if_neg e, if_neg (Ne.symm e)]; rfl
  obtain ⟨k3, v3, a3, b3, c3⟩ := v2.touch x (fun hn => by
    refine F0_out (fun q hq e => ?_) (fun q hq e => hn (e ▸ b1 _ (h2 q hq).1))
    rcases List.mem_append.mp hq with hq | hq
    · exact hn (e ▸ b1 _ (h2 q hq).2)
    · rw [List.mem_singleton.mp hq] at e
      exact hn (e ▸ a1))
  refine ⟨k3, (v3.turn x (pushF y)).congr fun k _ => ?_, fun q hq => ?_, fun k hk => ?_⟩
  · unfold F0
    rw [sucs_snoc]
    by_cases e : k = x
    · rw [if_pos e, if_pos e.symm]; rfl
    · rw [if_neg e, if_neg (Ne.symm e), List.append_nil]
  · rcases List.mem_append.mp hq with hq | hq
    · exact ⟨b3 _ (b1 _ (h2 q hq).1), b3 _ (b1 _ (h2 q hq).2)⟩
    · rw [List.mem_singleton.mp hq]
      exact ⟨a3, b3 _ a1⟩
  · rcases c3 k hk with hk | rfl
    · rcases c1 k hk with hk | rfl
      · exact h3 k hk
      · exact hy
    · exact hx
theorem GI.add1 {ps : List (Int × Int)} {R : Int → Prop} {l : List (Int × Int × List Int)} {ks : List Int} (h : GI ps R l ks) {y : Int} (hy : R y) : ∃ ks', GI ps R (addA l y []) ks' ∧ y ∈ ks' ∧ ∀ k ∈ ks, k ∈ ks' := by
  obtain ⟨h1, h2, h3⟩ := h
  obtain ⟨k1, v1, a1, b1, c1⟩ := h1.touch y (fun hn => F0_out (fun q hq e => hn (e ▸ (h2 q hq).2)) (fun q hq e => hn (e ▸ (h2 q hq).1)))
  refine ⟨k1, ⟨(v1.turn y (incF ([] : List Int).length)).congr fun k _ => ?_, fun q hq => ⟨b1 _ (h2 q hq).1, b1 _ (h2 q hq).2⟩, fun k hk => ?_⟩, a1, b1⟩
  · by_cases e : k = y
    · rw [if_pos e]; simp [incF]
    · rw [if_neg e]
  · rcases c1 k hk with hk | rfl
    · exact h3 k hk
    · exact hy
theorem GI.adds {R : Int → Prop} (qs : List (Int × Int)) : ∀ {ps : List (Int × Int)} {l : List (Int × Int × List Int)} {ks : List Int}, GI ps R l ks → (∀ q ∈ qs, R q.1 ∧ R q.2) → ∃ ks', GI (ps ++ qs) R (addsOf l qs) ks' := by
  induction qs with
  | nil => intro ps l ks h _; rw [List.append_nil]; exact ⟨ks, h⟩
  | cons q qs ih =>
    intro ps l ks h hq
    obtain ⟨x, y⟩ := q
    obtain ⟨ks1, h1⟩ := h.add (x := x) (y := y) (hq _ (.head _)).1 (hq _ (.head _)).2
    obtain ⟨ks2, h2⟩ := ih h1 fun q' hq' => hq q' (.tail _ hq')
    rw [List.append_assoc] at h2
    exact ⟨ks2, h2⟩
theorem GI.nodes {ps : List (Int × Int)} {R : Int → Prop} (ns : List Int) : ∀ {l : List (Int × Int × List Int)} {ks : List Int}, GI ps R l ks → (∀ n ∈ ns, R n) → ∃ ks', GI ps R (nodesOf l ns) ks' ∧ (∀ n ∈ ns, n ∈ ks') ∧ ∀ k ∈ ks, k ∈ ks' := by
  induction ns with
  | nil => intro l ks h _; exact ⟨ks, h, (fun _ h => nomatch h), fun _ h => h⟩
  | cons n ns ih =>
    intro l ks h hq
    obtain ⟨ks1, h1, a1, b1⟩ := h.add1 (hq _ (.head _))
    obtain ⟨ks2, h2, a2, b2⟩ := ih h1 fun q' hq' => hq q' (.tail _ hq')
    refine ⟨ks2, h2, fun k hk => ?_, fun k hk => b2 k (b1 k hk)⟩
    rcases List.mem_cons.mp hk with rfl | hk
    · exact b2 _ a1
    · exact a2 k hk
theorem mem_intsTo {n : Nat} {k : Int} : k ∈ intsTo n ↔ 0 ≤ k ∧ k < n := by
  unfold intsTo
  rw [List.mem_map]
  constructor
  · rintro ⟨i, hi, rfl⟩
    have := List.mem_range.mp hi
    lia
  · rintro ⟨h1, h2⟩
    exact ⟨k.toNat, List.mem_range.mpr (by lia), by lia⟩
theorem start_graph {ps : List (Int × Int)} (h : ∀ q ∈ ps, StepOk q) : ∃ ks, Vw (nodesOf (addsOf [] ps) (intsTo 6)) ks (F0 ps ps) ∧ (∀ q ∈ ps, q.1 ∈ ks ∧ q.2 ∈ ks) ∧ ∀ k, k ∈ ks ↔ 0 ≤ k ∧ k < 6 := by
  obtain ⟨k1, h1⟩ := GI.adds (R := fun k => 0 ≤ k ∧ k < 6) ps (ps := []) (l := []) (ks := []) ⟨rfl, (fun _ h => nomatch h), (fun _ h => nomatch h)⟩ fun q hq => by
    have := h q hq
    unfold StepOk at this
    lia
  obtain ⟨k2, ⟨a, b, c⟩, d, _⟩ := h1.nodes (intsTo 6) fun n hn => mem_intsTo.mp hn
  exact ⟨k2, a, b, fun k => ⟨c k, fun hk => d k (mem_intsTo.mpr hk)⟩⟩
theorem mem_sucs {ps : List (Int × Int)} {k v : Int} : v ∈ sucs ps k ↔ (k, v) ∈ ps := by
  unfold sucs
  rw [List.mem_map]
  constructor
  · rintro ⟨⟨a, b⟩, hq, rfl⟩
    obtain ⟨h1, h2⟩ := List.mem_filter.mp hq
    have : a = k := by simpa using h2
    rw [← this]; exact h1
  · intro h
    exact ⟨(k, v), List.mem_filter.mpr ⟨h, by simp⟩, rfl⟩
end Mine
end

section
open PySem PySem.W PyProof.Rows PySem.Calls
theorem Mine.freshPL2 : True := by
  w_top off
  trivial
namespace Mine
theorem nds_F {nds : List Nd} {ks : List Int} {F : Int → Int × List Int} (h : Vw (nds.map Nd.ab) ks F) : (∀ n ∈ nds, n.k ∈ ks ∧ n.np = (F n.k).1 ∧ n.succ = (F n.k).2) ∧ nds.map (·.k) = ks := by
  refine ⟨fun n hn => ?_, ?_⟩
  · have h1 := h.mem (e := n.ab) (List.mem_map_of_mem hn)
    exact ⟨h1.1, congrArg Prod.fst h1.2, congrArg Prod.snd h1.2⟩
  · have h1 := h.keys
    rw [List.map_map] at h1
    exact h1
theorem nds_acyclic {nds : List Nd} {ks : List Int} {ps : List (Int × Int)} (h : Vw (nds.map Nd.ab) ks (F0 ps ps)) (h2 : ∀ q ∈ ps, q.1 ∈ ks ∧ q.2 ∈ ks) (h3 : ∀ q ∈ ps, StepOk q) : ∀ n ∈ nds, ∀ v ∈ n.succ, n.k < v ∧ ∃ n' ∈ nds, n'.k = v := by
  obtain ⟨h4, h5⟩ := nds_F h
  intro n hn v hv
  rw [(h4 n hn).2.2] at hv
  have h6 := mem_sucs.mp hv
  refine ⟨(h3 _ h6).2.1, ?_⟩
  have h7 : v ∈ nds.map (·.k) := h5 ▸ (h2 _ h6).2
  obtain ⟨n', hn', e⟩ := List.mem_map.mp h7
  exact ⟨n', hn', e⟩
/-- the nodes that nothing leads to -/
noncomputable def startsOf (ps : List (Int × Int)) (ks : List Int) : List Int := ks.filter fun k => decide (cntO ps [] k = 0)
theorem nds_starts {nds : List Nd} {ks : List Int} {ps : List (Int × Int)} (h : Vw (nds.map Nd.ab) ks (F0 ps ps)) : (nds.filter fun n => decide (n.np = 0)).map (·.k) = startsOf ps ks := by
  obtain ⟨h4, h5⟩ := nds_F h
  unfold startsOf
  rw [← h5, List.filter_map]
  congr 1
  refine List.filter_congr fun n hn => ?_
  dsimp only [Function.comp]
  rw [(h4 n hn).2.1]
  unfold F0
  simp
end Mine
end

section
open PySem PySem.W PyProof.Rows PySem.Calls
theorem Mine.freshPL3 : True := by
  w_top off
  trivial
namespace Mine
theorem nodup_len : ∀ {l m : List Int}, l.Nodup → (∀ x ∈ l, x ∈ m) → l.length ≤ m.length
  | [], m, _, _ => Nat.zero_le _
  | a :: l, m, h, hs => by
    have h' := List.nodup_cons.mp h
    have h1 : l.length ≤ (m.erase a).length := nodup_len h'.2 fun x hx => (List.mem_erase_of_ne (fun (e : x = a) => h'.1 (by rw [← e]; exact hx))).mpr (hs x (.tail _ hx))
    have h2 := List.length_erase_of_mem (hs a (.head _))
    have h3 : 0 < m.length := List.length_pos_of_mem (hs a (.head _))
    rw [List.length_cons]
    lia
theorem Vw.out {ks : List Int} (r : List Int) : ∀ {l : List (Int × Int × List Int)} {F : Int → Int × List Int}, Vw l ks F → Vw (outA l r) ks (fun k => if k ∈ r then (-1, (F k).2) else F k) := by
  induction r with
  | nil => intro l F h; exact h.congr fun k _ => by simp
  | cons v r ih =>
    intro l F h
    refine (ih (h.turn v outF)).congr fun k _ => ?_
    by_cases e : k = v
    · simp [e, outF]
    · simp [e]
theorem Vw.find {l : List (Int × Int × List Int)} {ks : List Int} {F : Int → Int × List Int} (h : Vw l ks F) {v : Int} (hv : v ∈ ks) : l.find? (fun e => decide (e.1 = v)) = some (v, F v) := by
  unfold Vw at h
  subst h
  induction ks with
  | nil => cases hv
  | cons k ks ih =>
    rw [List.map_cons, List.find?_cons]
    by_cases e : k = v
    · simp [e]
    · simp only [e, decide_false]
      rcases List.mem_cons.mp hv with q | q
      · exact absurd q.symm e
      · exact ih q
theorem Vw.np {l : List (Int × Int × List Int)} {ks : List Int} {F : Int → Int × List Int} (h : Vw l ks F) {v : Int} (hv : v ∈ ks) : npOf l v = (F v).1 := by
  unfold npOf; rw [h.find hv]; rfl
theorem Vw.succ {l : List (Int × Int × List Int)} {ks : List Int} {F : Int → Int × List Int} (h : Vw l ks F) {v : Int} (hv : v ∈ ks) : succOf l v = (F v).2 := by
  unfold succOf; rw [h.find hv]; rfl
theorem Vw.dec {ks : List Int} (S : List Int) : ∀ {l : List (Int × Int × List Int)} {F : Int → Int × List Int} (r : List Int), Vw l ks F → (∀ k ∈ S, k ∈ ks) → (∀ k ∈ S, (S.count k : Int) ≤ (F k).1) →
    ∃ z, (S.foldl decStep (l, r)).2 = r ++ z ∧ Vw (S.foldl decStep (l, r)).1 ks (fun k => ((F k).1 - S.count k, (F k).2)) ∧ z.Nodup ∧ ∀ k, k ∈ z ↔ k ∈ S ∧ (F k).1 = S.count k := by
  induction S with
  | nil => intro l F r h _ _; exact ⟨[], by simp, h.congr fun k _ => by simp, List.nodup_nil, fun k => by simp⟩
  | cons v S ih =>
    intro l F r h hk hc
    have hv := hk v (.head _)
    have hF := h.turn v (incF (-1))
    have hcv := hc v (.head _)
    rw [List.count_cons_self] at hcv
    obtain ⟨z, h1, h2, h3, h4⟩ := ih (if npOf l v = 1 then r ++ [v] else r) hF (fun k hk' => hk k (.tail _ hk')) fun k hk' => by
      have := hc k (.tail _ hk')
      by_cases e : k = v
      · subst e
        rw [if_pos rfl]
        show _ ≤ (F k).1 + -1
        lia
      · rw [if_neg e]
        rw [List.count_cons_of_ne (Ne.symm e)] at this
        exact this
    have hst : (v :: S).foldl decStep (l, r) = S.foldl decStep (turnA l v (incF (-1)), if npOf l v = 1 then r ++ [v] else r) := rfl
    rw [hst, h.np hv] at *
    have hcnt : ∀ k, k ≠ v → (v :: S).count k = S.count k := fun k e => List.count_cons_of_ne (Ne.symm e)
    have hvw : Vw (S.foldl decStep (turnA l v (incF (-1)), if (F v).1 = 1 then r ++ [v] else r)).1 ks (fun k => ((F k).1 - ((v :: S).count k : Int), (F k).2)) := h2.congr fun k _ => by
      by_cases e : k = v
      · subst e
        rw [if_pos rfl, List.count_cons_self]
        show ((F k).1 + -1 - _, (F k).2) = _
        rw [show (F k).1 + -1 - ((S.count k : Nat) : Int) = (F k).1 - ((S.count k + 1 : Nat) : Int) from by lia]
      · rw [if_neg e, hcnt k e]
    by_cases e1 : (F v).1 = 1
    · rw [if_pos e1] at h1 hvw ⊢
      have hvS : v ∉ S := fun hm => by
        have := List.count_pos_iff.mpr hm
        lia
      refine ⟨v :: z, by rw [h1, List.append_assoc]; rfl, hvw, List.nodup_cons.mpr ⟨fun hm => hvS ((h4 v).mp hm).1, h3⟩, fun k => ?_⟩
      rw [List.mem_cons, List.mem_cons, h4]
      by_cases e : k = v
      · subst e
        rw [List.count_cons_self, List.count_eq_zero_of_not_mem hvS, e1]
        simp
      · rw [hcnt k e]
        rw [if_neg e]
        constructor
        · rintro (h | ⟨a, b⟩)
          · exact absurd h e
          · exact ⟨.inr a, b⟩
        · rintro ⟨h | h, b⟩
          · exact absurd h e
          · exact .inr ⟨h, b⟩
    · rw [if_neg e1] at h1 hvw ⊢
      refine ⟨z, h1, hvw, h3, fun k => ?_⟩
      rw [h4, List.mem_cons]
      by_cases e : k = v
      · subst e
        rw [List.count_cons_self, if_pos rfl]
        show k ∈ S ∧ (F k).1 + -1 = _ ↔ _
        constructor
        · rintro ⟨a, b⟩; exact ⟨.inl rfl, by lia⟩
        · rintro ⟨_, b⟩
          have : 0 < S.count k := by lia
          exact ⟨List.count_pos_iff.mp this, by lia⟩
      · rw [hcnt k e]
        rw [if_neg e]
        constructor
        · rintro ⟨a, b⟩
          exact ⟨.inr a, b⟩
        · rintro ⟨h | h, b⟩
          · exact absurd h e
          · exact ⟨h, b⟩
theorem cntO_done {ps : List (Int × Int)} {O : List Int} {v : Int} (hv : v ∉ O) (k : Int) : cntO ps O k = cntO ps (O ++ [v]) k + (sucs ps v).count k := by
  induction ps with
  | nil => rfl
  | cons q ps ih =>
    unfold cntO sucs at ih ⊢
    rw [List.countP_cons, List.countP_cons, List.filter_cons, ih]
    by_cases h1 : q.2 = k
    · by_cases h2 : q.1 = v
      · have h3 : q.1 ∉ O := h2 ▸ hv
        simp [h1, h2, hv]
        lia
      · by_cases h3 : q.1 ∈ O <;> simp [h1, h2, h3] <;> lia
    · by_cases h2 : q.1 = v
      · simp [h1, h2]
      · simp [h1, h2]
theorem cntO_pos {ps : List (Int × Int)} {O : List Int} {v k : Int} (hv : v ∉ O) (h : (v, k) ∈ ps) : cntO ps O k ≠ 0 := by
  unfold cntO
  intro e
  rw [List.countP_eq_zero] at e
  have := e _ h
  simp [hv] at this
theorem cntO_zero {ps : List (Int × Int)} {O : List Int} {k : Int} : cntO ps O k = 0 ↔ ∀ q ∈ ps, q.2 = k → q.1 ∈ O := by
  unfold cntO
  rw [List.countP_eq_zero]
  constructor
  · intro h q hq e
    have := h q hq
    simpa [e] using this
  · intro h q hq
    by_cases e : q.2 = k
    · simp [e, h q hq e]
    · simp [e]
/-- the sorter's data, O done, W passed out -/
noncomputable def FO (ps : List (Int × Int)) (O W : List Int) (k : Int) : Int × List Int := (if k ∈ O then -2 else if k ∈ W then -1 else (cntO ps O k : Int), sucs ps k)
structure Iv (ps : List (Int × Int)) (ks : List Int) (l : List (Int × Int × List Int)) (O W : List Int) : Prop where
  vw : Vw l ks (FO ps O W)
  nod : (O ++ W).Nodup
  out : ∀ k, k ∈ O ++ W ↔ k ∈ ks ∧ cntO ps O k = 0
theorem Iv.start {ps : List (Int × Int)} {ks : List Int} {l : List (Int × Int × List Int)} (h : Vw l ks (F0 ps ps)) (hn : ks.Nodup) : Iv ps ks (outA l (startsOf ps ks)) [] (startsOf ps ks) := by
  refine ⟨(h.out _).congr fun k hk => ?_, hn.filter _, fun k => ?_⟩
  · unfold FO
    by_cases e : k ∈ startsOf ps ks
    · simp [e, F0]
    · simp [e, F0]
  · rw [List.nil_append]
    unfold startsOf
    rw [List.mem_filter, decide_eq_true_eq]
theorem Iv.step {ps : List (Int × Int)} {ks : List Int} {l : List (Int × Int × List Int)} {O p q : List Int} {v : Int} (h : Iv ps ks l O (p ++ v :: q)) (hps : ∀ q ∈ ps, q.1 ∈ ks ∧ q.2 ∈ ks) :
    ∃ l' r, doneA l [] v = (l', r) ∧ Iv ps ks (outA l' r) (O ++ [v]) (p ++ q ++ r) ∧ (∀ k ∈ r, k ∈ ks) ∧ ∀ k ∈ succOf l v, k ∈ ks := by
  obtain ⟨vw, nod, out⟩ := h
  have nod' := List.nodup_append.mp nod
  have nod2 := List.nodup_append.mp nod'.2.1
  have nod3 := List.nodup_cons.mp nod2.2.1
  have hvW : v ∈ p ++ v :: q := List.mem_append_right _ (.head _)
  have hvO : v ∉ O := fun hm => nod'.2.2 v hm v hvW rfl
  have hvk : v ∈ ks := ((out v).mp (List.mem_append_right _ hvW)).1
  have hS : succOf l v = sucs ps v := vw.succ hvk
  have hSk : ∀ k ∈ sucs ps v, k ∈ ks := fun k hk => (hps _ (mem_sucs.mp hk)).2
  have hSo : ∀ k ∈ sucs ps v, k ∉ O ++ (p ++ v :: q) := fun k hk hm => cntO_pos hvO (mem_sucs.mp hk) ((out k).mp hm).2
  have hcd := fun k => cntO_done (ps := ps) hvO k
  have hF1 : ∀ k ∈ sucs ps v, (if k = v then doneF (FO ps O (p ++ v :: q) k) else FO ps O (p ++ v :: q) k).1 = (cntO ps O k : Int) := fun k hk => by
    have h1 := hSo k hk
    rw [List.mem_append, not_or] at h1
    have h2 : k ≠ v := fun e => h1.2 (e ▸ hvW)
    rw [if_neg h2]
    unfold FO
    rw [if_neg h1.1, if_neg h1.2]
  obtain ⟨z, h1, h2, h3, h4⟩ := (vw.turn v doneF).dec (sucs ps v) [] hSk fun k hk => by
    rw [hF1 k hk]
    have := hcd k
    lia
  refine ⟨((sucs ps v).foldl decStep (turnA l v doneF, [])).1, z, ?_, ?_, fun k hk => hSk k ((h4 k).mp hk).1, fun k hk => hSk k (hS ▸ hk)⟩
  · unfold doneA
    rw [hS]
    exact Prod.ext rfl (by rw [h1]; rfl)
  have hz : ∀ k, k ∈ z ↔ k ∈ sucs ps v ∧ cntO ps (O ++ [v]) k = 0 := fun k => by
    rw [h4]
    constructor
    · rintro ⟨a, b⟩
      rw [hF1 k a] at b
      have := hcd k
      exact ⟨a, by lia⟩
    · rintro ⟨a, b⟩
      rw [hF1 k a]
      have := hcd k
      exact ⟨a, by lia⟩
  have hzO : ∀ k ∈ z, k ∉ O ++ (p ++ v :: q) := fun k hk => hSo k ((hz k).mp hk).1
  refine ⟨(h2.out z).congr fun k hk => ?_, ?_, fun k => ?_⟩
  · have hc0 : k ∈ O ++ (p ++ v :: q) → (sucs ps v).count k = 0 := fun hm => List.count_eq_zero_of_not_mem fun hm' => hSo k hm' hm
    dsimp only
    unfold FO
    by_cases a1 : k ∈ z
    · have b := hzO k a1
      simp only [List.mem_append, List.mem_cons, not_or] at b
      have b1 : k ∉ O ++ [v] := by simp [b.1, b.2.2.1]
      have b2 : k ∈ p ++ q ++ z := List.mem_append_right _ a1
      rw [if_pos a1, if_neg b.2.2.1, if_neg b1, if_pos b2]
    · rw [if_neg a1]
      by_cases a2 : k = v
      · have b1 : k ∈ O ++ [v] := by simp [a2]
        rw [if_pos a2, hc0 (by rw [a2]; exact List.mem_append_right _ hvW), if_pos b1]
        rfl
      · rw [if_neg a2]
        by_cases a3 : k ∈ O
        · rw [if_pos a3, hc0 (List.mem_append_left _ a3), if_pos (by simp [a3])]
          rfl
        · rw [if_neg a3]
          by_cases a4 : k ∈ p ++ v :: q
          · have a5 : k ∈ p ++ q := by
              rcases List.mem_append.mp a4 with h | h
              · exact List.mem_append_left _ h
              · rcases List.mem_cons.mp h with h | h
                · exact absurd h a2
                · exact List.mem_append_right _ h
            rw [if_pos a4, hc0 (List.mem_append_right _ a4), if_neg (by simp [a3, a2]), if_pos (List.mem_append_left _ a5)]
            rfl
          · have a5 : k ∉ p ++ q := fun h => a4 (by
              rcases List.mem_append.mp h with h | h
              · exact List.mem_append_left _ h
              · exact List.mem_append_right _ (.tail _ h))
            rw [if_neg a4, if_neg (by simp [a3, a2]), if_neg (by rw [List.mem_append, not_or]; exact ⟨a5, a1⟩)]
            have := hcd k
            rw [show ((cntO ps O k : Nat) : Int) - ((sucs ps v).count k : Nat) = (cntO ps (O ++ [v]) k : Nat) from by lia]
  · have e : (O ++ [v] ++ (p ++ q ++ z)).Perm (O ++ (p ++ v :: q) ++ z) := by
      classical
      rw [List.perm_iff_count]; intro a; simp only [List.count_append, List.count_cons, List.count_nil]; lia
    rw [e.nodup_iff, List.nodup_append]
    exact ⟨nod, h3, fun a ha b hb e => hzO b hb (e ▸ ha)⟩
  · constructor
    · intro hm
      have hm : k ∈ O ++ (p ++ v :: q) ∨ k ∈ z := by
        simp only [List.mem_append, List.mem_cons, List.not_mem_nil, or_false] at hm ⊢
        rcases hm with (h | h) | (h | h) | h
        · exact .inl (.inl h)
        · exact .inl (.inr (.inr (.inl h)))
        · exact .inl (.inr (.inl h))
        · exact .inl (.inr (.inr (.inr h)))
        · exact .inr h
      rcases hm with hm | hm
      · have := (out k).mp hm
        have h5 := hcd k
        exact ⟨this.1, by lia⟩
      · have := (hz k).mp hm
        exact ⟨hSk k this.1, this.2⟩
    · rintro ⟨a, b⟩
      by_cases c : cntO ps O k = 0
      · have hm := (out k).mpr ⟨a, c⟩
        simp only [List.mem_append, List.mem_cons, List.not_mem_nil, or_false] at hm ⊢
        rcases hm with h | h | h | h
        · exact .inl (.inl h)
        · exact .inr (.inl (.inl h))
        · exact .inl (.inr h)
        · exact .inr (.inl (.inr h))
      · have h5 := hcd k
        have h6 : 0 < (sucs ps v).count k := by lia
        exact List.mem_append_right _ (List.mem_append_right _ ((hz k).mpr ⟨List.count_pos_iff.mp h6, b⟩))
end Mine
end

section
open PySem PySem.W PyProof.Rows PySem.Calls
theorem Mine.freshPL4 : True := by
  w_top off
  trivial
namespace Mine
inductive Dn (ps : List (Int × Int)) (x : Int) : Int → Prop
  | refl : Dn ps x x
  | step {q : Int × Int} : q ∈ ps → Dn ps x q.1 → Dn ps x q.2
theorem Dn.trans {ps : List (Int × Int)} {x y z : Int} (h1 : Dn ps x y) (h2 : Dn ps y z) : Dn ps x z := by
  induction h2 with
  | refl => exact h1
  | step hq _ ih => exact .step hq ih
theorem Dn.inv {ps : List (Int × Int)} {x v : Int} : Dn ps x v ↔ x = v ∨ ∃ q ∈ ps, q.2 = v ∧ Dn ps x q.1 := by
  constructor
  · intro h
    cases h with
    | refl => exact .inl rfl
    | step hq h => exact .inr ⟨_, hq, rfl, h⟩
  · rintro (rfl | ⟨q, hq, rfl, h⟩)
    · exact .refl
    · exact .step hq h
theorem mem_joinF {a b : List Int} {x : Int} : x ∈ joinF a b ↔ x ∈ a ∨ x ∈ b := by
  unfold joinF
  rw [List.mem_append, List.mem_filter]
  by_cases h : x ∈ a <;> simp [h]
theorem nodup_joinF {a b : List Int} (ha : a.Nodup) (hb : b.Nodup) : (joinF a b).Nodup := by
  unfold joinF
  rw [List.nodup_append]
  refine ⟨ha, hb.filter _, fun x hx y hy e => ?_⟩
  have := (List.mem_filter.mp hy).2
  subst e
  simp [hx] at this
theorem joinF_len (a b : List Int) : (joinF a b).length ≤ a.length + b.length := by
  unfold joinF
  rw [List.length_append]
  have := List.length_filter_le (fun k => !a.contains k) b
  lia
theorem fold_len {c : Nat} : ∀ (xss : List (List Int)) (x0 : List Int), (∀ xs ∈ xss, xs.length ≤ c) → (xss.foldl joinF x0).length ≤ x0.length + c * xss.length
  | [], x0, _ => by simp
  | xs :: xss, x0, h => by
    have h1 := fold_len xss (joinF x0 xs) fun y hy => h y (.tail _ hy)
    have h2 := joinF_len x0 xs
    have h3 := h xs (.head _)
    rw [List.foldl_cons, List.length_cons, Nat.mul_succ]
    lia
theorem fold_mem : ∀ (xss : List (List Int)) (x0 : List Int) {x : Int}, x ∈ xss.foldl joinF x0 ↔ x ∈ x0 ∨ ∃ xs ∈ xss, x ∈ xs
  | [], x0, x => by simp
  | xs :: xss, x0, x => by
    rw [List.foldl_cons, fold_mem xss, mem_joinF]
    simp only [List.mem_cons, exists_eq_or_imp, or_assoc]
theorem fold_nodup : ∀ (xss : List (List Int)) (x0 : List Int), x0.Nodup → (∀ xs ∈ xss, xs.Nodup) → (xss.foldl joinF x0).Nodup
  | [], x0, h, _ => h
  | xs :: xss, x0, h, hs => fold_nodup xss _ (nodup_joinF h (hs xs (.head _))) fun y hy => hs y (.tail _ hy)
/-- the rows that lead to v, by f -/
noncomputable def predRows (ps : List (Int × Int)) (f : Int → List Int) (v : Int) : List (List Int) := (ps.filter fun q => decide (q.2 = v)).map fun q => f q.1
noncomputable def rowOf (ps : List (Int × Int)) (f : Int → List Int) (v : Int) : List Int := (predRows ps f v).foldl joinF [v]
/-- a list tells what leads to v -/
noncomputable def Tells (ps : List (Int × Int)) (v : Int) (l : List Int) : Prop := l.Nodup ∧ ∀ x, x ∈ l ↔ Dn ps x v
theorem rowOf_tells {ps : List (Int × Int)} {f : Int → List Int} {v : Int} (h : ∀ q ∈ ps, q.2 = v → Tells ps q.1 (f q.1)) : Tells ps v (rowOf ps f v) := by
  have hm : ∀ xs, xs ∈ predRows ps f v ↔ ∃ q ∈ ps, q.2 = v ∧ xs = f q.1 := fun xs => by
    unfold predRows
    rw [List.mem_map]
    constructor
    · rintro ⟨q, hq, rfl⟩
      obtain ⟨a, b⟩ := List.mem_filter.mp hq
      exact ⟨q, a, of_decide_eq_true b, rfl⟩
    · rintro ⟨q, hq, e, rfl⟩
      exact ⟨q, List.mem_filter.mpr ⟨hq, decide_eq_true e⟩, rfl⟩
  refine ⟨fold_nodup _ _ (by simp) fun xs hxs => ?_, fun x => ?_⟩
  · obtain ⟨q, hq, e, rfl⟩ := (hm xs).mp hxs
    exact (h q hq e).1
  · unfold rowOf
    rw [fold_mem, Dn.inv, List.mem_singleton]
    constructor
    · rintro (a | ⟨xs, hxs, hx⟩)
      · exact .inl a
      · obtain ⟨q, hq, e, rfl⟩ := (hm xs).mp hxs
        exact .inr ⟨q, hq, e, ((h q hq e).2 x).mp hx⟩
    · rintro (a | ⟨q, hq, e, hd⟩)
      · exact .inl a
      · exact .inr ⟨_, (hm _).mpr ⟨q, hq, e, rfl⟩, ((h q hq e).2 x).mpr hd⟩
noncomputable def look (bl : List (Int × List Int)) (k : Int) : List Int := ((bl.find? fun e => decide (e.1 = k)).map (·.2)).getD []
theorem look_mem {bl : List (Int × List Int)} {k : Int} (h : k ∈ bl.map (·.1)) : (k, look bl k) ∈ bl := by
  unfold look
  obtain ⟨e, he, q⟩ := List.mem_map.mp h
  cases hf : bl.find? fun e => decide (e.1 = k) with
  | none =>
    have := List.find?_eq_none.mp hf e he
    simp [q] at this
  | some x =>
    have h1 := List.find?_some hf
    have h2 := List.mem_of_find?_eq_some hf
    have h3 : x.1 = k := of_decide_eq_true h1
    show (k, x.2) ∈ bl
    rw [← h3]; exact h2
/-- what stands below each node that is done -/
noncomputable def Bw (ps : List (Int × Int)) (O : List Int) (bl : List (Int × List Int)) : Prop := bl.map (·.1) = O ∧ ∀ e ∈ bl, Tells ps e.1 e.2
theorem Bw.look {ps : List (Int × Int)} {O : List Int} {bl : List (Int × List Int)} (h : Bw ps O bl) {k : Int} (hk : k ∈ O) : Tells ps k (look bl k) :=
  h.2 _ (look_mem (h.1 ▸ hk))
theorem Bw.step {ps : List (Int × Int)} {O : List Int} {bl : List (Int × List Int)} {v : Int} (h : Bw ps O bl) (hv : ∀ q ∈ ps, q.2 = v → q.1 ∈ O) : Bw ps (O ++ [v]) (bl ++ [(v, rowOf ps (Mine.look bl) v)]) := by
  refine ⟨by rw [List.map_append, h.1]; rfl, fun e he => ?_⟩
  rcases List.mem_append.mp he with he | he
  · exact h.2 e he
  · rw [List.mem_singleton.mp he]
    exact rowOf_tells fun q hq e => h.look (hv q hq e)
theorem Tells.sub {ps : List (Int × Int)} {ks : List Int} (hps : ∀ q ∈ ps, q.1 ∈ ks ∧ q.2 ∈ ks) {v : Int} (hv : v ∈ ks) {l : List Int} (h : Tells ps v l) : ∀ x ∈ l, x ∈ ks := by
  have key : ∀ x v, Dn ps x v → v ∈ ks → x ∈ ks := fun x v hd => by
    induction hd with
    | refl => exact id
    | step hq _ ih => exact fun _ => ih (hps _ hq).1
  exact fun x hx => key x v ((h.2 x).mp hx) hv
theorem ks_len {ks : List Int} (hn : ks.Nodup) (hks : ∀ k, k ∈ ks ↔ 0 ≤ k ∧ k < 6) : ks.length ≤ 6 := by
  have := nodup_len hn (m := intsTo 6) fun x hx => mem_intsTo.mpr (by have := (hks x).mp hx; lia)
  rwa [intsTo_length] at this
theorem Tells.len {ps : List (Int × Int)} {ks : List Int} (hps : ∀ q ∈ ps, q.1 ∈ ks ∧ q.2 ∈ ks) (hn : ks.Nodup) (hks : ∀ k, k ∈ ks ↔ 0 ≤ k ∧ k < 6) {v : Int} (hv : v ∈ ks) {l : List Int} (h : Tells ps v l) : l.length ≤ 6 :=
  Nat.le_trans (nodup_len h.1 (h.sub hps hv)) (ks_len hn hks)
/-- at the end every node is done -/
theorem Iv.all {ps : List (Int × Int)} {ks : List Int} {l : List (Int × Int × List Int)} {O : List Int} (h : Iv ps ks l O []) (hps : ∀ q ∈ ps, q.1 ∈ ks ∧ q.2 ∈ ks) (hso : ∀ q ∈ ps, StepOk q) (hks : ∀ k, k ∈ ks ↔ 0 ≤ k ∧ k < 6) : ∀ k, k ∈ O ↔ 0 ≤ k ∧ k < 6 := by
  have hout := h.out
  simp only [List.append_nil] at hout
  have key : ∀ (n : Nat) (k : Int), k.toNat = n → k ∈ ks → k ∈ O := by
    intro n
    induction n using Nat.strongRecOn with
    | _ n ih =>
      intro k hkn hk
      refine (hout k).mpr ⟨hk, cntO_zero.mpr fun q hq e => ?_⟩
      have h1 := hso q hq
      unfold StepOk at h1
      exact ih q.1.toNat (by lia) q.1 rfl (hps q hq).1
  intro k
  rw [← hks]
  exact ⟨fun hk => ((hout k).mp hk).1, fun hk => key _ k rfl hk⟩
theorem sorted_perm : ∀ {x y : List Int}, x.Perm y → x.Pairwise (· ≤ ·) → y.Pairwise (· ≤ ·) → x = y
  | [], y, h, _, _ => h.nil_eq
  | a :: x, [], h, _, _ => absurd h.length_eq (by simp)
  | a :: x, b :: y, h, hx, hy => by
    have h1 := List.pairwise_cons.mp hx
    have h2 := List.pairwise_cons.mp hy
    have e : a = b := by
      have ha : a ∈ b :: y := h.mem_iff.mp (.head _)
      have hb : b ∈ a :: x := h.mem_iff.mpr (.head _)
      rcases List.mem_cons.mp ha with e | ha
      · exact e
      · rcases List.mem_cons.mp hb with e | hb
        · exact e.symm
        · exact Int.le_antisymm (h1.1 b hb) (h2.1 a ha)
    subst e
    rw [sorted_perm (List.Perm.cons_inv h) h1.2 h2.2]
theorem sorted_same {a b x y : List Int} (ha : a.Nodup) (hb : b.Nodup) (h : ∀ k, k ∈ a ↔ k ∈ b) (hx : x.Perm a ∧ x.Pairwise (· ≤ ·)) (hy : y.Perm b ∧ y.Pairwise (· ≤ ·)) : x = y := by
  have hp : a.Perm b := (List.perm_ext_iff_of_nodup ha hb).mpr h
  exact sorted_perm ((hx.1.trans hp).trans hy.1.symm) hx.2 hy.2
theorem both_eq {ps : List (Int × Int)} {i j : Int} {B1 B2 U2 : List Int} (h1 : Tells ps i B1) (h2 : Tells ps j B2) (h3 : Tells ps j U2) :
    (B1.filter fun k => !(B1.filter fun k => !B2.contains k).contains k) = B1.filter fun k => U2.contains k := by
  refine List.filter_congr fun k hk => ?_
  rw [Bool.eq_iff_iff]
  simp only [Bool.not_eq_true', List.contains_eq_mem, decide_eq_false_iff_not, decide_eq_true_eq, List.mem_filter, Bool.not_eq_eq_eq_not, Bool.not_true]
  rw [h3.2, ← h2.2]
  constructor
  · intro h
    exact Classical.byContradiction fun hn => h ⟨hk, hn⟩
  · rintro h ⟨_, hn⟩
    exact hn h
theorem both_mem {ps : List (Int × Int)} {i j : Int} {B1 U2 : List Int} (h1 : Tells ps i B1) (h3 : Tells ps j U2) {x : Int} : (x ∈ B1.filter fun k => U2.contains k) ↔ Dn ps x i ∧ Dn ps x j := by
  rw [List.mem_filter, h1.2]
  simp only [List.contains_eq_mem, decide_eq_true_eq]
  rw [h3.2]
theorem both_closed {ps : List (Int × Int)} {i j v : Int} {B1 U2 Uv : List Int} (h1 : Tells ps i B1) (h3 : Tells ps j U2) (hv : Tells ps v Uv) (hm : v ∈ B1.filter fun k => U2.contains k) :
    (Uv.filter fun k => !(B1.filter fun k => U2.contains k).contains k) = [] := by
  rw [List.filter_eq_nil_iff]
  intro x hx
  have h4 := (both_mem h1 h3).mp hm
  have h5 := (hv.2 x).mp hx
  have h6 : x ∈ B1.filter fun k => U2.contains k := (both_mem h1 h3).mpr ⟨h5.trans h4.1, h5.trans h4.2⟩
  simp only [Bool.not_eq_true', List.contains_eq_mem, decide_eq_false_iff_not, Classical.not_not, Bool.not_eq_eq_eq_not, Bool.not_true]
  simpa using h6
theorem rest_eq (O B1 B2 : List Int) : (O.filter fun k => !(joinF B1 B2).contains k) = ((O.filter fun k => !B2.contains k).filter fun k => !B1.contains k) := by
  rw [List.filter_filter]
  refine List.filter_congr fun k _ => ?_
  rw [Bool.eq_iff_iff]
  simp only [Bool.and_eq_true, Bool.not_eq_true', List.contains_eq_mem, decide_eq_false_iff_not, mem_joinF, not_or]
theorem rest_under {ps : List (Int × Int)} {i j : Int} {B1 B2 U1 U2 : List Int} (O : List Int) (h1 : Tells ps i B1) (h2 : Tells ps j B2) (h3 : Tells ps i U1) (h4 : Tells ps j U2) : (O.filter fun k => !(joinF B1 B2).contains k) = O.filter fun k => !U1.contains k && !U2.contains k := by
  refine List.filter_congr fun k _ => ?_
  rw [Bool.eq_iff_iff]
  simp only [Bool.and_eq_true, Bool.not_eq_true', List.contains_eq_mem, decide_eq_false_iff_not, mem_joinF, not_or]
  rw [h1.2, h2.2, h3.2, h4.2]
theorem len_eq {ps : List (Int × Int)} {i j : Int} {B1 B2 U2 : List Int} (h1 : Tells ps i B1) (h2 : Tells ps j B2) (h3 : Tells ps j U2) : (joinF B1 B2).length + (B1.filter fun k => U2.contains k).length = B1.length + B2.length := by
  have hp : (B1.filter fun k => U2.contains k).Perm (B2.filter fun k => B1.contains k) := by
    refine (List.perm_ext_iff_of_nodup (h1.1.filter _) (h2.1.filter _)).mpr fun x => ?_
    rw [List.mem_filter, List.mem_filter]
    simp only [List.contains_eq_mem, decide_eq_true_eq]
    rw [h1.2, h2.2, h3.2]
    exact And.comm
  have hc : ∀ l : List Int, (l.filter fun k => !B1.contains k).length + (l.filter fun k => B1.contains k).length = l.length := by
    intro l
    induction l with
    | nil => rfl
    | cons a l ih =>
      rw [List.filter_cons, List.filter_cons]
      by_cases e : a ∈ B1
      · simp [e] at ih ⊢; lia
      · simp [e] at ih ⊢; lia
  unfold joinF
  rw [List.length_append, hp.length_eq]
  have := hc B2
  lia
end Mine
end

section
open PySem PySem.W PyProof.Rows PySem.Calls
theorem Mine.freshLM2 : True := by
  w_top off
  trivial
namespace Mine
/-- a dict's values are lists of ints, the ledger bears them -/
inductive RowsAre (led : List (Addr × Obj)) : List (Int × Value) → List (Int × List Int) → Prop
  | nil : RowsAre led [] []
  | cons {i : Int} {a : Addr} {ws : List Value} {k : Nat} {xs : List Int} {kvs : List (Int × Value)} {bl : List (Int × List Int)} : (a, listOf ws.toArray k) ∈ led → IntsAre ws xs → RowsAre led kvs bl → RowsAre led ((i, .ref a) :: kvs) ((i, xs) :: bl)
theorem RowsAre.mono {led led' : List (Addr × Obj)} (h : ∀ q ∈ led, q ∈ led') : ∀ {kvs : List (Int × Value)} {bl : List (Int × List Int)}, RowsAre led kvs bl → RowsAre led' kvs bl
  | _, _, .nil => .nil
  | _, _, .cons a b c => .cons (h _ a) b (RowsAre.mono h c)
theorem RowsAre.keys {led : List (Addr × Obj)} : ∀ {kvs : List (Int × Value)} {bl : List (Int × List Int)}, RowsAre led kvs bl → kvs.map (·.1) = bl.map (·.1)
  | _, _, .nil => rfl
  | _, _, .cons (i := i) _ _ c => congrArg (i :: ·) (RowsAre.keys c)
theorem RowsAre.length {led : List (Addr × Obj)} {kvs : List (Int × Value)} {bl : List (Int × List Int)} (h : RowsAre led kvs bl) : kvs.length = bl.length := by
  have := congrArg List.length h.keys
  simpa using this
theorem RowsAre.snoc {led : List (Addr × Obj)} {i : Int} {a : Addr} {ws : List Value} {k : Nat} {xs : List Int} (h1 : (a, listOf ws.toArray k) ∈ led) (h2 : IntsAre ws xs) : ∀ {kvs : List (Int × Value)} {bl : List (Int × List Int)}, RowsAre led kvs bl → RowsAre led (kvs ++ [(i, .ref a)]) (bl ++ [(i, xs)])
  | _, _, .nil => .cons h1 h2 .nil
  | _, _, .cons a b c => .cons a b (RowsAre.snoc h1 h2 c)
theorem RowsAre.at {led : List (Addr × Obj)} {i : Int} : ∀ {kvs : List (Int × Value)} {bl : List (Int × List Int)}, RowsAre led kvs bl → (valueAt kvs i = none ∧ look bl i = []) ∨ ∃ a ws k, valueAt kvs i = some (.ref a) ∧ (a, listOf ws.toArray k) ∈ led ∧ IntsAre ws (look bl i)
  | _, _, .nil => .inl ⟨rfl, rfl⟩
  | _, _, .cons (i := j) (a := a) (ws := ws) (k := k) (xs := xs) (kvs := kvs) (bl := bl) h1 h2 h3 => by
    have ih := RowsAre.at (i := i) h3
    by_cases e : j = i
    · refine .inr ⟨a, ws, k, ?_, h1, ?_⟩
      · unfold valueAt
        rw [List.find?_cons]
        simp [e]
      · unfold look
        rw [List.find?_cons]
        simpa [e] using h2
    · have e1 : valueAt ((j, Value.ref a) :: kvs) i = valueAt kvs i := by
        unfold valueAt
        rw [List.find?_cons]
        simp [e]
      have e2 : look ((j, xs) :: bl) i = look bl i := by
        unfold look
        rw [List.find?_cons]
        simp [e]
      rw [e1, e2]
      exact ih
theorem stored_new {kvs : List (Int × Value)} {k : Int} {v : Value} (h : k ∉ kvs.map (·.1)) : stored kvs k v = kvs ++ [(k, v)] := by
  unfold stored
  rw [if_neg]
  intro q
  rw [List.any_eq_true] at q
  obtain ⟨e, he, q⟩ := q
  exact h (List.mem_map.mpr ⟨e, he, of_decide_eq_true q⟩)
theorem ListsAre.snoc {led : List (Addr × Obj)} {a : Addr} {ws : List Value} {k : Nat} {xs : List Int} (h1 : (a, listOf ws.toArray k) ∈ led) (h2 : IntsAre ws xs) : ∀ {vs : List Value} {xss : List (List Int)}, ListsAre led vs xss → ListsAre led (vs ++ [.ref a]) (xss ++ [xs])
  | _, _, .nil => .cons h1 h2 .nil
  | _, _, .cons a b c => .cons a b (ListsAre.snoc h1 h2 c)
theorem perm_c {α : Type} (A R : List α) (D a b c d e : α) : (A ++ D :: a :: b :: c :: d :: e :: R).Perm (e :: a :: b :: c :: d :: (A ++ D :: R)) := by
  have h : (A ++ D :: a :: b :: c :: d :: e :: (R ++ [])).Perm (e :: a :: b :: c :: d :: (A ++ D :: (R ++ []))) := perm_ix [A, [D], [a], [b], [c], [d], [e], R] (p := [0, 1, 2, 3, 4, 5, 6, 7]) (q := [6, 2, 3, 4, 5, 0, 1, 7]) (by decide)
  rwa [List.append_nil] at h
structure Lw4 where
  nds : List Nd
  a : Int
  ta : Tok
  b : Int
  tb : Tok
  kD : Nat
  cn : Obj
  cb : Obj
  ob : Obj
  kvs : List (Int × Value)
  ows : List Value
  kO : Nat
  wl : Addr
  wvs : List Value
  kW : Nat
  bls : List (Addr × Obj)
  O : List Int
  W : List Int
  bl : List (Int × List Int)
/-- the abstract state of the law's while -/
structure WOk (ps : List (Int × Int)) (ks : List Int) (st : Lw4) : Prop where
  iv : Iv ps ks (st.nds.map Nd.ab) st.O st.W
  bw : Bw ps st.O st.bl
  a : st.a = (st.O.length : Int) + st.W.length
  b : st.b = (st.O.length : Int)
  ows : IntsAre st.ows st.O
  wvs : IntsAre st.wvs st.W
  rows : RowsAre st.bls st.kvs st.bl
  cn : ∃ v, st.cn.data = .cell v
noncomputable abbrev soW (x dx d : Addr) (o : Obj) (t1 t2 t3 t4 : Tok) (D : Addr) (st : Lw4) : So := So.mk x dx d o t1 t2 t3 t4 (.ref D) st.a st.ta st.b st.tb st.nds
noncomputable abbrev restW (L bd ol : Addr) (R4 : List (Addr × Obj)) (st : Lw4) : List (Addr × Obj) :=
  (L + 1 + 1 + 1, st.cn) :: (L + 1 + 1 + 1 + 1, st.cb) :: (bd, st.ob) :: (ol, listOf st.ows.toArray st.kO) :: (st.wl, listOf st.wvs.toArray st.kW) :: (st.bls ++ R4)
theorem predRows_take {ps : List (Int × Int)} {f : Int → List Int} {v : Int} {i : Nat} {x y : Int} (h : ps[i]? = some (x, y)) : predRows (ps.take (i + 1)) f v = predRows (ps.take i) f v ++ if y = v then [f x] else [] := by
  unfold predRows
  rw [List.take_add_one, h, Option.toList_some, List.filter_append, List.map_append]
  by_cases e : y = v <;> simp [e]
theorem Ap.swap_in {A R : List (Addr × Obj)} {p q r s t a a' : Addr × Obj} (h : Ap (A ++ p :: q :: r :: s :: t :: a :: R)) (h' : ∀ z ∈ A ++ p :: q :: r :: s :: t :: a :: R, z.1 < a'.1) : Ap (A ++ p :: q :: r :: s :: t :: a' :: R) :=
  Ap.perm (perm_b A R a' p q r s t) (Ap.fresh (fun z hz => h' z ((perm_b A R a p q r s t).mem_iff.mp (.tail _ hz))) (Ap.perm (perm_b A R a p q r s t).symm h).tail)
theorem perm_g {α : Type} (A T : List α) (l3 l4 bd ol wl ls D0 l1 l2 l5 l6 : α) : (l3 :: l4 :: bd :: ol :: wl :: (A ++ ls :: D0 :: l1 :: l2 :: l5 :: l6 :: T)).Perm (wl :: l1 :: l2 :: l3 :: l5 :: l6 :: l4 :: bd :: ol :: (A ++ ls :: D0 :: T)) := by
  have h : (l3 :: l4 :: bd :: ol :: wl :: (A ++ ls :: D0 :: l1 :: l2 :: l5 :: l6 :: (T ++ []))).Perm (wl :: l1 :: l2 :: l3 :: l5 :: l6 :: l4 :: bd :: ol :: (A ++ ls :: D0 :: (T ++ []))) := perm_ix [[l3], [l4], [bd], [ol], [wl], A, [ls], [D0], [l1], [l2], [l5], [l6], T] (p := [0, 1, 2, 3, 4, 5, 6, 7, 8, 9, 10, 11, 12]) (q := [4, 8, 9, 0, 10, 11, 1, 2, 3, 5, 6, 7, 12]) (by decide)
  rwa [List.append_nil] at h
/-- what stays to the law's end -/
noncomputable abbrev baseW (L bd ol ls D0 : Addr) (cb ob : Obj) (ows vs ws0 : List Value) (kO nv : Nat) (bls ts : List (Addr × Obj)) : List (Addr × Obj) :=
  (L + 1 + 1 + 1 + 1, cb) :: (bd, ob) :: (ol, listOf ows.toArray kO) :: (bls ++ (ls, listOf vs.toArray nv) :: (D0, listOf ws0.toArray 0) :: ts)
theorem order_range {O : List Int} {x : List Int} (hn : O.Nodup) (h : ∀ k, k ∈ O ↔ 0 ≤ k ∧ k < 6) (hx : x.Perm O ∧ x.Pairwise (· ≤ ·)) : x = rangeKs 0 6 := by
  have hr : (rangeKs 0 6).Nodup := by decide
  refine sorted_same hn hr (fun k => ?_) hx ⟨List.Perm.refl _, by decide⟩
  rw [h]
  constructor
  · intro hk
    exact List.mem_map.mpr ⟨k.toNat, List.mem_range.mpr (by lia), by lia⟩
  · intro hk
    have := mem_rangeKs hk
    lia
end Mine
end

section
open PySem PySem.W PyProof.Rows PySem.Calls
theorem Mine.freshLM3 : True := by
  w_top off
  trivial
namespace Mine
structure Lw5 where
  c3 : Obj
  c6 : Obj
  kU : Nat
  uvs : List Value
  rls : List (Addr × Obj)
  us : List (List Int)
  lo : Option Value
  hi : Option Value
structure Lw6 where
  c6 : Obj
  rl : Addr
  rvs : List Value
  kR : Nat
  rxs : List Int
  lo : Option Value
  hi : Option Value
theorem ap7 {p1 p2 p3 p4 p5 p6 p7 : Addr × Obj} {T : List (Addr × Obj)} (A : Ap (p1 :: p2 :: p3 :: p4 :: p5 :: p6 :: p7 :: T)) :
    (@Ne Nat p1.1 p2.1 ∧ @Ne Nat p1.1 p3.1 ∧ @Ne Nat p1.1 p4.1 ∧ @Ne Nat p1.1 p5.1 ∧ @Ne Nat p1.1 p6.1 ∧ @Ne Nat p1.1 p7.1 ∧ ∀ q ∈ T, q.1 ≠ p1.1) ∧ Ap (p2 :: p3 :: p4 :: p5 :: p6 :: p7 :: T) := by
  have h1 := A.head
  simp only [List.mem_cons, forall_eq_or_imp] at h1
  exact ⟨⟨Ne.symm h1.1, Ne.symm h1.2.1, Ne.symm h1.2.2.1, Ne.symm h1.2.2.2.1, Ne.symm h1.2.2.2.2.1, Ne.symm h1.2.2.2.2.2.1, h1.2.2.2.2.2.2⟩, A.tail⟩
theorem ap8 {p0 p1 p2 p3 p4 p5 p6 p7 : Addr × Obj} {T : List (Addr × Obj)} (A : Ap (p0 :: p1 :: p2 :: p3 :: p4 :: p5 :: p6 :: p7 :: T)) :
    (@Ne Nat p0.1 p1.1 ∧ @Ne Nat p0.1 p2.1 ∧ @Ne Nat p0.1 p3.1 ∧ @Ne Nat p0.1 p4.1 ∧ @Ne Nat p0.1 p5.1 ∧ @Ne Nat p0.1 p6.1 ∧ @Ne Nat p0.1 p7.1 ∧ ∀ q ∈ T, q.1 ≠ p0.1) ∧ Ap (p1 :: p2 :: p3 :: p4 :: p5 :: p6 :: p7 :: T) := by
  have h1 := A.head
  simp only [List.mem_cons, forall_eq_or_imp] at h1
  exact ⟨⟨Ne.symm h1.1, Ne.symm h1.2.1, Ne.symm h1.2.2.1, Ne.symm h1.2.2.2.1, Ne.symm h1.2.2.2.2.1, Ne.symm h1.2.2.2.2.2.1, Ne.symm h1.2.2.2.2.2.2.1, h1.2.2.2.2.2.2.2⟩, A.tail⟩
/-- the rows laid so far, by a node -/
noncomputable def uAt (us : List (List Int)) (k : Int) : List Int := us.getD k.toNat []
noncomputable abbrev ledU (ul L : Addr) (uvs : List Value) (kU : Nat) (c1 c2 c3 c5 c6 : Obj) (rest : List (Addr × Obj)) : List (Addr × Obj) :=
  (ul, listOf uvs.toArray kU) :: (L + 1, c1) :: (L + 1 + 1, c2) :: (L + 1 + 1 + 1, c3) :: (L + 1 + 1 + 1 + 1 + 1, c5) :: (L + 1 + 1 + 1 + 1 + 1 + 1, c6) :: rest
theorem perm_h {α : Type} (R : List α) (J I rl ul l1 l2 l3 l5 l6 : α) : (rl :: J :: I :: ul :: l1 :: l2 :: l3 :: l5 :: l6 :: R).Perm (J :: I :: rl :: ul :: l1 :: l2 :: l3 :: l5 :: l6 :: R) := by
  have h : (rl :: J :: I :: ul :: l1 :: l2 :: l3 :: l5 :: l6 :: (R ++ [])).Perm (J :: I :: rl :: ul :: l1 :: l2 :: l3 :: l5 :: l6 :: (R ++ [])) := perm_ix [[rl], [J], [I], [ul], [l1], [l2], [l3], [l5], [l6], R] (p := [0, 1, 2, 3, 4, 5, 6, 7, 8, 9]) (q := [1, 2, 0, 3, 4, 5, 6, 7, 8, 9]) (by decide)
  rwa [List.append_nil] at h
theorem perm_j {α : Type} (S J I : α) (T : List α) : (S :: J :: I :: T).Perm (J :: I :: S :: T) := (List.perm_middle (l₁ := [J, I]) (a := S) (l₂ := T)).symm
theorem ovr_twice {a b : Str} {v u v' u' : Option Value} (m : Str → Option Value) (y : Str) : ovr [(a, v), (b, u)] (ovr [(a, v'), (b, u')] m) y = ovr [(a, v), (b, u)] m y := by
  dsimp only [ovr]
  by_cases h1 : y = a
  · simp only [h1, if_true]
  · by_cases h2 : y = b
    · simp only [if_neg h1, if_pos h2]
    · simp only [if_neg h1, if_neg h2]
theorem ledU_addr {ul L : Addr} {uvs uvs' : List Value} {kU kU' : Nat} {c1 c2 c3 c5 c6 c1' c2' c3' c5' c6' : Obj} {rest : List (Addr × Obj)} {p : Addr → Prop} (h : ∀ q ∈ ledU ul L uvs kU c1 c2 c3 c5 c6 rest, p q.1) : ∀ q ∈ ledU ul L uvs' kU' c1' c2' c3' c5' c6' rest, p q.1 := by
  simp only [List.mem_cons, forall_eq_or_imp] at h ⊢
  exact h
theorem perm_k {α : Type} (r u l1 l2 l3 l5 l6 : α) (T : List α) : (r :: u :: l1 :: l2 :: l3 :: l5 :: l6 :: T).Perm (u :: l1 :: l2 :: l3 :: l5 :: l6 :: r :: T) := (List.perm_middle (l₁ := [u, l1, l2, l3, l5, l6]) (a := r) (l₂ := T)).symm
end Mine
end

section
open PySem PySem.W PyProof.Rows PySem.Calls
theorem Mine.freshCR : True := by
  w_top off
  trivial
namespace Mine
section
open PyProof.Rows.LCg
variable {prog : Program} {w : World} {A : Around} {E : Value → Shared → Prop} {s : Shared} {h₀ : Heap} {L : Addr} {m : Str → Option Value} {env : Env}
/-- a test of a comprehension is through -/
noncomputable def PickEnd (h₀ : Heap) (L : Addr) (m : Str → Option Value) (s : Shared) (led : List (Addr × Obj)) (b ok : Bool) (s₃ : Shared) : Prop :=
  ok = b ∧ ∃ h' tk', s₃ = { s with heap := h', toks := tk' } ∧ Fr h₀ L h' m ∧ News h₀ L h' led
theorem PickEnd.intro {led led' : List (Addr × Obj)} {b ok : Bool} {h' : Heap} {tk' : Nat} (e : ok = b) (F : Fr h₀ L h' m) (N : News h₀ L h' led') (hl : ∀ q ∈ led, q ∈ led') : PickEnd h₀ L m s led b ok { s with heap := h', toks := tk' } :=
  ⟨e, h', tk', rfl, F, fun q hq => N q (hl q hq)⟩
theorem comp_pick {iter ct : PySem.Expr} {x : Str} {px px2 : Pos} {scope : Scope} {cl : List (Str × Addr)} {pos : Pos} {Q : Value → Shared → Prop} {ax : Addr} {vs : List Value} {xs : List Int} {k : Nat} {led₀ : List (Addr × Obj)} (p : Int → Bool)
    (hcell : ∀ y ∈ scope.names, y.2 ≠ .cell) (hkind : scope.kind = .function) (hx : scope.names.lookup x = some .local) (hh : A.handled = none) (hsz : xs.length ≤ 1000000)
    (F : Fr h₀ L s.heap m) (N : News h₀ L s.heap led₀) (hax : (ax, listOf vs.toArray k) ∈ led₀) (hxs : IntsAre vs xs)
    (test : ∀ I C D v t ys oI oC m₂ h tk (E' : Value → Shared → Prop), v ∈ xs → NsObj oC m₂ → m₂ x = some (.int v t) → Fr h₀ L h m → News h₀ L h ((I, oI) :: (C, oC) :: (D, lst ys) :: led₀) →
      wpAny (model prog w) A (isTrue ct (compEnvC scope cl C env) (eval ct (compEnvC scope cl C env))) (PickEnd h₀ L m s ((I, oI) :: (C, oC) :: (D, lst ys) :: led₀) (p v)) E' { s with heap := h, toks := tk })
    (load : ∀ I C D v t ys oI oC m₂ h tk (E' : Value → Shared → Prop), NsObj oC m₂ → m₂ x = some (.int v t) → Fr h₀ L h m → News h₀ L h ((I, oI) :: (C, oC) :: (D, lst ys) :: led₀) → ∀ Q' : Value → Shared → Prop, Q' (.int v t) { s with heap := h, toks := tk } → wpAny (model prog w) A (eval (.Name x px2) (compEnvC scope cl C env)) Q' E' { s with heap := h, toks := tk })
    (fin : ∀ D ys h tk, IntsAre ys (xs.filter p) → Fr h₀ L h m → News h₀ L h ((D, lst ys) :: led₀) → (∀ q ∈ led₀, q.1 ≠ D) → Q (.ref D) { s with heap := h, toks := tk }) :
    CPost prog w A env (.ListComp (.Name x px2) [⟨.Name x px, iter, [ct], 0⟩] scope pos) scope cl Q E (.ref ax) s :=
  comp_filter p hcell hkind hx hh hsz F N hax hxs (fun I C D v t ys oI oC m₂ h tk E' hv hns hm F' N' => wpAny_mono (test I C D v t ys oI oC m₂ h tk E' hv hns hm F' N') (fun ok s₃ h₃ => h₃) fun _ _ z => z)
    (fun I C D v t ys oI oC m₂ h tk E' hns hm F' N' => load I C D v t ys oI oC m₂ h tk E' hns hm F' N' _ ⟨rfl, h, tk, rfl, F', N'⟩) fin
end
/-- two lists of one ledger, as sorted turns them -/
theorem ListsAre.pick {led : List (Addr × Obj)} {vs : List Value} {xss : List (List Int)} (h : ListsAre led vs xss) {k : Nat} (hk : k < xss.length) : ∃ a ws n, vs[k]? = some (.ref a) ∧ (a, listOf ws.toArray n) ∈ led ∧ IntsAre ws (xss.getD k []) := by
  have hl := h.length
  have hk' : k < vs.length := by lia
  obtain ⟨a, ws, n, xs, e, hm, hi, hx⟩ := h.get k vs[k] (List.getElem?_eq_getElem hk')
  refine ⟨a, ws, n, by rw [List.getElem?_eq_getElem hk', e], hm, ?_⟩
  rw [List.getD_eq_getElem?_getD, hx]
  exact hi
end Mine
end

section
open PySem PySem.W PyProof.Rows PySem.Calls
theorem Mine.freshMK : True := by
  w_top off
  trivial
namespace Mine
/-- marks that switch a line of the walk -/
noncomputable def MarkA : Prop := True
noncomputable def MarkV : Prop := True
noncomputable def MarkX : Prop := True
/-- a call of a def that has a contract: the walk stops -/
theorem stop_refs {M : Model} {A : Around} {n : Addr} {as : List Value} {Q : Value → Shared → Prop} {E : Value → Shared → Prop} {s : Shared} (_h : List.elem n [140, 145, 152, 173, 159, 65, 74, 201] = true)
    (k : Stop (wpAny M A (call (Value.ref n) as) Q E s)) : wpAny M A (call (Value.ref n) as) Q E s := k
end Mine
end

section
open PySem PySem.W PyProof.Rows PySem.Calls
theorem Mine.freshLM4 : True := by
  w_top off
  trivial
namespace Mine
structure Lw7 where
  c1 : Obj
  c2 : Obj
  c3 : Obj
  vb : Option Value
  vs : Option Value
  vr : Option Value
noncomputable abbrev ledP (ul L : Addr) (uvs : List Value) (kU : Nat) (c5 c1 c2 c3 : Obj) (rest : List (Addr × Obj)) : List (Addr × Obj) :=
  (L + 1, c1) :: (L + 1 + 1, c2) :: (L + 1 + 1 + 1, c3) :: (L + 1 + 1 + 1 + 1 + 1, c5) :: (ul, listOf uvs.toArray kU) :: rest
theorem perm_l {α : Type} (u l1 l2 l3 l5 l6 : α) (T : List α) : (u :: l1 :: l2 :: l3 :: l5 :: l6 :: T).Perm (l6 :: l1 :: l2 :: l3 :: l5 :: u :: T) := by
  classical
  rw [List.perm_iff_count]; intro z; simp only [List.count_cons]; lia
theorem ovr_three {a b c : Str} {v u x v' u' x' : Option Value} (m : Str → Option Value) (y : Str) : ovr [(a, v), (b, u), (c, x)] (ovr [(a, v'), (b, u'), (c, x')] m) y = ovr [(a, v), (b, u), (c, x)] m y := by
  dsimp only [ovr]
  by_cases h1 : y = a
  · simp only [h1, if_true]
  · by_cases h2 : y = b
    · simp only [if_neg h1, if_pos h2]
    · by_cases h3 : y = c
      · simp only [if_neg h1, if_neg h2, if_pos h3]
      · simp only [if_neg h1, if_neg h2, if_neg h3]
theorem ovr_set3 {a b c : Str} (hab : a ≠ b) (hac : a ≠ c) (hbc : b ≠ c) {v u x v' u' x' : Option Value} (m : Str → Option Value) (y : Str) : (if y = c then x else if y = b then u else if y = a then v else ovr [(a, v'), (b, u'), (c, x')] m y) = ovr [(a, v), (b, u), (c, x)] m y := by
  dsimp only [ovr]
  by_cases h1 : y = a
  · subst h1
    simp only [if_neg hab, if_neg hac, if_true]
  · by_cases h2 : y = b
    · subst h2
      simp only [if_neg h1, if_neg hbc, if_true]
    · by_cases h3 : y = c
      · simp only [if_neg h1, if_neg h2, if_pos h3]
      · simp only [if_neg h1, if_neg h2, if_neg h3]
theorem perm_m {α : Type} (K S J I l1 l2 l3 : α) (T : List α) : (K :: S :: J :: I :: l1 :: l2 :: l3 :: T).Perm (l3 :: K :: S :: J :: I :: l1 :: l2 :: T) := List.perm_middle (l₁ := [K, S, J, I, l1, l2]) (a := l3) (l₂ := T)
end Mine
end

section
open PySem PySem.W PyProof.Rows PySem.Calls
namespace Mine
theorem freshLaw : True := by
  w_top off
  trivial
local macro_rules | `(tactic| walk_at "T cr") => `(tactic| (first | assumption | (apply And.right; first | assumption | (apply And.right; first | assumption | (apply And.right; first | assumption | (apply And.right; first | assumption | (apply And.right; first | assumption | (apply And.right; first | assumption | (apply And.right; assumption)))))))))
local macro_rules | `(tactic| walk_at "T lt") => `(tactic| with_reducible (first | assumption | (apply And.left; walk_at "T cr") | (apply And.right; walk_at "T cr")))
local macro_rules | `(tactic| k_ne) => `(tactic| (refine neN ?_; (try dsimp only); first | walk_at "T lt" | (refine Ne.symm ?_; walk_at "T lt") | (refine Nat.ne_of_gt ?_; walk_at "T lt") | (refine Nat.ne_of_lt ?_; walk_at "T lt") | omega))
local macro_rules | `(tactic| walk_at "T room") => `(tactic| ((try dsimp only [arT]); (simp only [depth_under_make, depth_under_kw, depth_in1, depth_deeper, recursionLimit] at *); omega))
local macro_rules | `(tactic| k_room) => `(tactic| walk_at "T room")
local macro_rules | `(tactic| k_all) => `(tactic| (intro q9 hq9; (have a9 := ltN (allLt_at (by assumption : AllLt _ _) q9 hq9)); first | exact Nat.ne_of_lt a9 | exact Nat.ne_of_gt a9 | (refine neN ?_; (try dsimp only); omega)))
local macro_rules | `(tactic| k_all) => `(tactic| walk_at "T lt")
local macro_rules | `(tactic| walk_at "setItem ref int") => `(tactic| (k_dflt (refine kda_set (knd := PySem.intKind _ _) (by k_asm) (by k_asm) (by k_updF) (by assumption) (intKind_is _ _ _ _) (by assumption) ?_; k_whole); intro h' o' F' N' hd'; (try dsimp only at N'); (try k_sweep)))
local macro_rules | `(tactic| walk_at "call builtin:list.append") => `(tactic| (k_here; k_dflt (refine append_K (by k_asm) (by k_asm) (by k_upd) ?_ (by assumption); k_whole); intro h' F' N'; (try k_sweep)))
local macro_rules | `(tactic| walk_at "call builtin:len") => `(tactic| (k_dflt (refine len_listK (by k_asm) (by k_mem) (by assumption) ?_; k_whole)))
local macro_rules | `(tactic| k_mem) => `(tactic| first | (with_reducible exact List.mem_cons_self) | (with_reducible assumption) | ((with_reducible refine List.mem_cons_of_mem _ ?_); k_mem))
local macro_rules | `(tactic| walk_at "exec For Tuple Name cons nil") => `(tactic| k_dflt (refine for_in ?_))
local macro_rules | `(tactic| walk_at "exec For Name Call cons nil") => `(tactic| k_dflt (refine for_in ?_))
local macro_rules | `(tactic| walk_at "exec While") => `(tactic| refine stop_in ?_)
local macro_rules | `(tactic| walk_at "call ref") => `(tactic| with_reducible refine stop_refs (by decide) ?_)
local macro_rules | `(tactic| walk_at "subscriptTail Name Name ref int") => `(tactic| (k_dflt (first | (refine kda_item (knd := PySem.intKind _ _) (by k_asm) (by k_mem) (by assumption) (intKind_is _ _ _ _) (by assumption) ?_; k_whole) | (refine item_atK (by k_asm) (by k_mem) rfl (by assumption) (by assumption) ?_; k_whole))))
local macro_rules | `(tactic| walk_at "compareOp In int ref") => `(tactic| (k_dflt (refine inK (by k_asm) (by k_mem) (by assumption) ?_; k_whole)))
local macro_rules | `(tactic| walk_at "compareOp NotIn int ref") => `(tactic| (k_dflt (refine notInK (by k_asm) (by k_mem) (by assumption) ?_; k_whole)))
local macro_rules | `(tactic| walk_at "exec For Name Name cons nil") => `(tactic| k_dflt (refine for_in ?_))
local macro_rules | `(tactic| walk_at "call type:list") => `(tactic| ((have mkQ : MarkV := by with_reducible assumption); clear mkQ; refine stop_in ?_))
local macro_rules | `(tactic| walk_at "call type:list") => `(tactic| (k_dflt (refine listTupK (by k_asm) (by k_asm) (by k_mem) (by assumption) ?_; k_whole); intro T' c' h' F' N' l1; (try k_lt l1); (try k_sweep)))
local macro_rules | `(tactic| walk_at "compareOp NotEq ref ref") => `(tactic| (k_dflt (refine neK (by k_asm) (by k_mem) (by k_mem) (by first | assumption | exact IntsAre.nil) (by first | assumption | exact IntsAre.nil) (by ke_room) ?_; k_whole)))
local macro_rules | `(tactic| walk_at "compareOp NotEq ref ref") => `(tactic| ((have mkQ : MarkV := by with_reducible assumption); clear mkQ; refine stop_in ?_))
local macro_rules | `(tactic| walk_at "call builtin:list.pop") => `(tactic| ((with_reducible show wpAny _ _ (call (Value.builtin _) [Value.ref _, Value.int _ _]) _ _ _); refine stop_in ?_))
local macro_rules | `(tactic| walk_at "call builtin:sorted") => `(tactic| refine stop_in ?_)
local macro_rules | `(tactic| walk_at "eval ListComp") => `(tactic| refine stop_in ?_)
local macro_rules | `(tactic| walk_at "call builtin:dict.get") => `(tactic| refine stop_in ?_)
local macro_rules | `(tactic| walk_at "subscriptTail Name BinOp ref int") => `(tactic| refine stop_in ?_)
local macro_rules | `(tactic| walk_at "subscriptTail Name Name ref int") => `(tactic| ((have mkQ : MarkX := by with_reducible assumption); clear mkQ; refine stop_in ?_))
local macro_rules | `(tactic| walk_at "binaryOp Add ref ref") => `(tactic| ((have mkQ : MarkA := by with_reducible assumption); clear mkQ; refine stop_in ?_))
theorem law_holds : PySem.Challenge.rw_ik0123_01.Holds := hd (by
  k_go0
  all_goals try k_fold
  k_steps
  rename Fr _ _ _ _ => F0
  rename News _ _ _ _ => N0
  rename (IntsAre _ (List.take 6 _ ++ _)) => hcells
  rename_i hhc tkc c6 c5 c4 c3 c2 c1 q6 q5 q4 q3 q2 q1 xc D1 w1 hh5 hi1 hc1 hl1 la3 l5 hh4 la2 D0 ws0 hh3 la1 hh2 ls hh1 la0 hh0
  rename Shared => s1
  rename World => w
  rename Below _ _ _ _ => B0
  rename Top _ _ _ _ _ _ => T0
  rename Frag.In _ _ => X0
  have hfin : ∀ m' h' tk', Fr T0.heap s1.heap.objs.size h' m' → qk (.ret (.bool true)) { heap := h', gens := s1.gens, drawn := s1.drawn, toks := tk', os := s1.os } := by
    intro m' h' tk' F'
    (try clear N0)
    (try clear F0)
    have N' : News T0.heap s1.heap.objs.size h' [] := fun q hq => nomatch hq
    show GoodW _ _ _ _ _ _ _
    k_steps
  clear_value qk
  have hlc : ws0.length ≤ 11 ∧ 5 ≤ ws0.length := by
    rw [hcells.length, List.length_append, List.length_take]
    simp only [List.length_cons, List.length_nil]
    omega
  obtain ⟨cl, hcl⟩ : ∃ cl, IntsAre ws0 cl := ⟨_, hcells⟩
  have N1 : News _ _ _ ((ls, listOf ([] : List Value).toArray 0) :: (s1.heap.objs.size + 1, c1) :: (s1.heap.objs.size + 1 + 1, c2) :: (D0, listOf ws0.toArray 0) :: [(s1.heap.objs.size + 1 + 1 + 1, c3), (s1.heap.objs.size + 1 + 1 + 1 + 1, c4), (s1.heap.objs.size + 1 + 1 + 1 + 1 + 1, c5), (s1.heap.objs.size + 1 + 1 + 1 + 1 + 1 + 1, c6)]) := fun q hq => N0 q (by
    simp only [List.mem_cons, List.not_mem_nil, or_false] at hq ⊢
    rcases hq with h | h | h | h | h | h | h | h <;> simp [h])
  have A1 : Ap ((ls, listOf ([] : List Value).toArray 0) :: (s1.heap.objs.size + 1, c1) :: (s1.heap.objs.size + 1 + 1, c2) :: (D0, listOf ws0.toArray 0) :: [(s1.heap.objs.size + 1 + 1 + 1, c3), (s1.heap.objs.size + 1 + 1 + 1 + 1, c4), (s1.heap.objs.size + 1 + 1 + 1 + 1 + 1, c5), (s1.heap.objs.size + 1 + 1 + 1 + 1 + 1 + 1, c6)]) := by
    unfold Ap
    simp only [List.map_cons, List.map_nil, List.nodup_cons, List.mem_cons, List.not_mem_nil, or_false, not_or, List.nodup_nil, and_true, not_false_eq_true]
    (repeat' apply And.intro) <;> first | (simp; done) | k_ne
  refine forAtN_list (σ := Lw1) (vs := ws0.toArray) (k := 0) (fun st => [(Str.ofString "number", st.v)]) (fun st => led1 ls s1.heap.objs.size D0 ws0 st.vs st.n st.c1 st.c2 st.tl)
    (fun i st => (∃ ts, st.tl = ts ++ [(s1.heap.objs.size + 1 + 1 + 1, c3), (s1.heap.objs.size + 1 + 1 + 1 + 1, c4), (s1.heap.objs.size + 1 + 1 + 1 + 1 + 1, c5), (s1.heap.objs.size + 1 + 1 + 1 + 1 + 1 + 1, c6)] ∧ PairsAre ts st.vs st.prs) ∧ (∀ q ∈ st.prs, StepOk q) ∧ st.vs.length ≤ i ∧ (∃ v, st.c1.data = .cell v) ∧ (∃ v, st.c2.data = .cell v) ∧ Ap (led1 ls s1.heap.objs.size D0 ws0 st.vs st.n st.c1 st.c2 st.tl))
    ⟨[], 0, c1, c2, [(s1.heap.objs.size + 1 + 1 + 1, c3), (s1.heap.objs.size + 1 + 1 + 1 + 1, c4), (s1.heap.objs.size + 1 + 1 + 1 + 1 + 1, c5), (s1.heap.objs.size + 1 + 1 + 1 + 1 + 1 + 1, c6)], [], none⟩ rfl F0 N1 (.tail _ (.tail _ (.tail _ (.head _)))) ?_ (fun q hq => hq) (fun i st _ => .tail _ (.tail _ (.tail _ (.head _)))) ?_ ?_ ?_
  · intro q hq
    rw [List.mem_singleton.mp hq]; rfl
  · exact ⟨⟨[], rfl, .nil⟩, (fun _ h => nomatch h), Nat.le_refl _, ⟨_, by assumption⟩, ⟨_, by assumption⟩, A1⟩
  · rintro I i v ⟨vs, nv, d1, d2, tl, prs, u⟩ oI h6 tk6 hi hv ⟨⟨ts, hts, hp⟩, hso, hvl, ⟨v1, hd1⟩, ⟨v2, hd2⟩, A2⟩ hI hob F5 N6
    generalize hRR1 : ForEndN _ _ _ _ _ _ _ _ _ _ _ = RR1
    (try clear F0)
    (try clear N0)
    (try clear N1)
    dsimp only at hts hp hso hvl hd1 hd2 A2 hI F5 N6
    have aq1 := ap5 (Ap.cons (p := (I, oI)) hI A2)
    have e1 := aq1.1
    have e6 := aq1.2.1
    have e10 := aq1.2.2.1
    have e13 := aq1.2.2.2.1
    have e15 := aq1.2.2.2.2
    (try clear aq1)
    dsimp only at e1 e6 e10 e13 e15
    have hil : i < cl.length := by
      rw [List.size_toArray, hcl.length] at hi; exact hi
    obtain ⟨tv, htv⟩ := hcl.get i _ (List.getElem?_eq_getElem hil)
    rw [List.getElem?_toArray, htv] at hv
    obtain rfl := Option.some.inj hv
    have hzv : vs.toArray.size ≤ sizeLine := by
      rw [List.size_toArray] at hi ⊢
      rw [sizeLine_eq]; omega
    generalize cl[i] = num at *
    refine wpAny_pure (a := ()) ?_
    refine wpAny_assign_Name ?_
    k_steps
    · rename Fr _ _ _ _ => F7
      rename News _ _ _ _ => N7
      rename_i o1 do1 h9 o2 do2 hne tkq hq1 tkq1 hq2 tkq2 Dp hq3 lp hq4
      rw [show vs.toArray.push (Value.ref Dp) = (vs ++ [Value.ref Dp]).toArray from by simp] at N7
      have N8 := led1_tup N7
      have A8 := led1_ap (vs' := vs ++ [Value.ref Dp]) (n' := nv + 1) (d1 := o1) (d2 := o2) (o := tupOf #[] 0) lp hI A2
      subst hRR1
      refine ForEndN.intro ⟨vs ++ [Value.ref Dp], nv + 1, o1, o2, (Dp, _) :: tl, prs ++ [(_, _)], some (.int num tv)⟩ hob F7 N8 ?_ (led1_ap lp hI A2).2 ⟨⟨(Dp, _) :: ts, by rw [hts]; rfl, PairsAre.snoc (.head _) (PairsAre.mono (fun q hq => .tail _ hq) hp)⟩, ?_, ?_, ⟨_, do1⟩, ⟨_, do2⟩, (led1_ap lp hI A2).1⟩ _ (.inl rfl)
      · intro y
        dsimp only [ovr]
        repeat' split
        all_goals first | rfl | simp_all
      · intro q hq
        rcases List.mem_append.mp hq with hq | hq
        · exact hso q hq
        · rw [List.mem_singleton.mp hq]
          exact stepOk_of num hne
      · dsimp only
        rw [List.length_append, List.length_singleton]; omega
    · rename Fr _ _ _ _ => F7
      rename News _ _ _ _ => N7
      subst hRR1
      refine ForEndN.intro (Lw1.mk vs nv _ _ tl prs (some (.int num tv))) hob F7 N7 ?_ (led1_apart hI) ⟨⟨ts, hts, hp⟩, hso, Nat.le_succ_of_le hvl, ⟨_, by assumption⟩, ⟨_, by assumption⟩, led1_re A2⟩ _ (.inl rfl)
      intro y
      dsimp only [ovr]
      repeat' split
      all_goals first | rfl | simp_all
  · rintro ⟨vs, nv, d1, d2, tl, prs, u⟩ h6 tk6 ⟨⟨ts, hts, hp⟩, hso, hvl, ⟨v1, hd1⟩, ⟨v2, hd2⟩, A2⟩ F5 N6
    (try clear F0)
    (try clear N0)
    (try clear N1)
    dsimp only at hts hp hso hvl hd1 hd2 A2 F5 N6
    dsimp only [led1] at N6
    k_steps
    rename Fr _ _ _ _ => F1
    rename News _ _ _ _ => N1
    rename (News _ _ _ ((_, _) :: (_, instObj 190 _) :: _)) => N1
    rename_i xs dxs h7 F7' N7' l1s l2s gz Lz hz6 Bz Xz Tz lfz3 lfz2 lfz1 tkz2 dm hz5 om lom hsz fsz him fiz lmm hz4 hz3 hz2 hz1 Fz Nz tkz1 Gcz kXz h8
    (try clear hsz)
    (try clear fsz)
    (try clear fiz)
    (try clear lfz3)
    (try clear lfz2)
    (try clear lfz1)
    (try clear lifted)
    (try clear Fz)
    (try clear Nz)
    (try clear F7')
    (try clear N7')
    obtain ⟨S, hrv, hnd, ha0, hb0, hx, N2, okS⟩ := So.start (prog := Challenge.rw_ik0123_01.row.prog) (w := w) (R := led1 ls s1.heap.objs.size D0 ws0 vs nv d1 d2 tl) N1 lom him lmm l2s l1s A2
    obtain ⟨R, hR⟩ : ∃ R, R = led1 ls s1.heap.objs.size D0 ws0 vs nv d1 d2 tl := ⟨_, rfl⟩
    have hls : (ls, listOf vs.toArray nv) ∈ R := by rw [hR]; exact .head _
    have hpR : PairsAre R vs prs := PairsAre.mono (fun q hq => by rw [hR, hts]; exact .tail _ (.tail _ (.tail _ (.tail _ (List.mem_append_left _ hq))))) hp
    rw [← hR] at N2 okS
    have hprl : vs.length = prs.length := hp.length
    have hpr11 : prs.length ≤ 11 := by
      have := hlc.1
      have h1 : ws0.toArray.size = ws0.length := List.size_toArray ..
      lia
    refine forAtN_list (σ := Lw2) (vs := vs.toArray) (k := nv) (fun st => [(Str.ofString "low", st.lo), (Str.ofString "high", st.hi)]) (fun st => So.led w { S with o := st.o, nds := st.nds } ++ R)
      (fun i st => So.Ok Challenge.rw_ik0123_01.row.prog w { S with o := st.o, nds := st.nds } R ∧ So.ab { S with o := st.o, nds := st.nds } = addsOf [] (prs.take i) ∧ Bd i (So.ab { S with o := st.o, nds := st.nds }))
      ⟨S.o, S.nds, none, none⟩ rfl F1 N2 (List.mem_append_right _ hls) ?_ (fun q hq => hq) (fun i st _ => List.mem_append_right _ hls) ?_ ?_ ?_
    · intro q hq
      rcases List.mem_cons.mp hq with rfl | hq
      · rfl
      · rw [List.mem_singleton.mp hq]; rfl
    · refine ⟨okS, ?_, ?_⟩
      · show S.nds.map Nd.ab = _
        rw [hnd]; rfl
      · show Bd 0 (S.nds.map Nd.ab)
        rw [hnd]
        exact ⟨Nat.zero_le _, fun _ h => nomatch h⟩
    · rintro I i v ⟨o, nds, lo, hi⟩ oI h9 tk9 hi9 hv ⟨okI, habI, hbd⟩ hI hob F3 N3
      generalize hRR2 : ForEndN _ _ _ _ _ _ _ _ _ _ _ = RR2
      dsimp only at okI habI hbd hI F3 N3
      rw [List.size_toArray] at hi9
      rw [List.getElem?_toArray] at hv
      obtain ⟨av, kv, lw, hg9, tl9, th9, rfl, hav, hpi⟩ := hpR.get i v hv
      refine wpAny_letOwnedTupleGo_listiter ⟨oI, (N3 _ (.head _)).1, hob.1, hob.2⟩ ?_
      refine assign_pairK (L := s1.heap.objs.size) rfl rfl F3 N3 (List.mem_cons_of_mem _ (List.mem_append_right _ hav)) rfl rfl rfl fun h10 tk10 F4 N4 => ?_
      obtain ⟨x, dx, d, o0, t1, t2, t3, t4, rv, a, ta, b, tb, nds0⟩ := S
      dsimp only at hx hrv hnd ha0 hb0 N4 okI habI hbd
      subst hx
      dsimp only [So.led, List.cons_append, soDict] at N4
      (try clear F1)
      (try clear N1)
      (try clear N2)
      (try clear F3)
      (try clear N3)
      k_steps
      unfold Stop
      have okJ := okI.cons (q := (I, oI)) (fun r hr => hI r hr)
      have N5 : News T0.heap s1.heap.objs.size h10 (So.led w (So.mk x dx d o t1 t2 t3 t4 rv a ta b tb nds) ++ (I, oI) :: R) := News.perm (show News T0.heap s1.heap.objs.size h10 ((I, oI) :: (So.led w (So.mk x dx d o t1 t2 t3 t4 rv a ta b tb nds) ++ R)) from N4) List.perm_middle.symm
      have hlen : nds.length ≤ 900 := by
        have h1 := hbd.1
        rw [So.ab, List.length_map] at h1
        dsimp only at h1
        lia
      refine add2_spec (S := So.mk x dx d o t1 t2 t3 t4 rv a ta b tb nds) (rest := (I, oI) :: R) hrv B0 F4 X0 T0 N5 okJ rfl rfl (by decide) hlen (fun e he => Nat.le_trans (hbd.2 e he) (by lia)) fun o' nds' h11 tk11 F6 N6 ok6 hab6 => ?_
      have N7 := News.perm N6 List.perm_middle
      have hI7 := (Ap.perm List.perm_middle ok6.ap).head
      have ok7 := ok6.less
      dsimp only at N7 hI7 ok7 hab6
      (try clear N4)
      (try clear N5)
      (try clear N6)
      (try clear F4)
      (try clear okJ)
      (try clear ok6)
      k_steps
      subst hRR2
      refine ForEndN.intro (Lw2.mk o' nds' (some (.int lw tl9)) (some (.int hg9 th9))) hob F6 N7 ?_ hI7 ⟨ok7, ?_, ?_⟩ _ (.inl rfl)
      · exact ovr_pair (by decide) _
      · rw [addsOf_take hpi]
        exact hab6.trans (by rw [habI])
      · exact hab6 ▸ hbd.add
    · rintro ⟨oA, nds, lo, hi⟩ h9 tk9 ⟨okI, habI, hbd⟩ F3 N3
      (try clear F1)
      (try clear N1)
      (try clear N2)
      dsimp only at okI habI hbd F3 N3
      rw [List.size_toArray, hprl, List.take_length] at habI
      rw [List.size_toArray] at hbd
      obtain ⟨x, dx, d, o0, t1, t2, t3, t4, rv, a, ta, b, tb, nds0⟩ := S
      dsimp only at hx hrv hnd ha0 hb0 N3 okI habI hbd
      subst hx hnd ha0 hb0
      have hRp : R.Perm ((ls, listOf vs.toArray nv) :: (D0, listOf ws0.toArray 0) :: (s1.heap.objs.size + 1, d1) :: (s1.heap.objs.size + 1 + 1, d2) :: (s1.heap.objs.size + 1 + 1 + 1, c3) :: (s1.heap.objs.size + 1 + 1 + 1 + 1, c4) :: (s1.heap.objs.size + 1 + 1 + 1 + 1 + 1, c5) :: (s1.heap.objs.size + 1 + 1 + 1 + 1 + 1 + 1, c6) :: ts) := by
        rw [hR, hts]
        exact perm_re _ _ _ _ ts _
      subst hrv
      have N4 : News T0.heap s1.heap.objs.size h9 (So.led w (So.mk x dx d oA t1 t2 t3 t4 .none 0 ta 0 tb nds) ++ ledB ls D0 s1.heap.objs.size vs ws0 nv d1 d2 c3 c4 c5 c6 ts) := News.perm N3 (hRp.append_left _)
      have ok4 := okI.perm hRp
      (try clear N3)
      (try clear okI)
      (try clear okS)
      (try clear hRp)
      (try clear hpR)
      (try clear hls)
      have hd3 : ∃ v, c3.data = .cell v := ⟨_, q3⟩
      have hd4 : ∃ v, c4.data = .cell v := ⟨_, q4⟩
      have hd5 : ∃ v, c5.data = .cell v := ⟨_, q5⟩
      have hd6 : ∃ v, c6.data = .cell v := ⟨_, q6⟩
      (try clear q1)
      (try clear q2)
      (try clear q3)
      (try clear q4)
      (try clear q5)
      (try clear q6)
      (try clear xc)
      (try clear hcells)
      (try clear la0)
      (try clear la1)
      (try clear la2)
      (try clear la3)
      (try clear hi1)
      (try clear hc1)
      (try clear hl1)
      (try clear A1)
      (try clear A2)
      (try clear l1s)
      (try clear l2s)
      (try clear lmm)
      (try clear Bz)
      (try clear Xz)
      (try clear Tz)
      (try clear him)
      (try clear lom)
      (try clear hL_1)
      (try clear ra)
      (try clear w1)
      (try clear r0)
      (try clear hI)
      (try clear hr_1)
      (try clear hr)
      (try clear hl2)
      (try clear hL)
      (try clear hs)
      (try clear hlay0)
      (try clear hcond')
      (try clear hcond'_1)
      (try clear hR)
      (try clear hts)
      have hbd2 : Bd prs.length (nds.map Nd.ab) := hprl ▸ hbd
      (try clear hbd)
      dsimp only
      k_steps
      rename Fr _ _ _ _ => F5
      rename News _ _ _ _ => N5
      rename IsRange _ _ _ _ _ _ _ _ => hr5
      obtain ⟨R3, hR3⟩ : ∃ R3, R3 = (ls, listOf vs.toArray nv) :: (D0, listOf ws0.toArray 0) :: (s1.heap.objs.size + 1, d1) :: (s1.heap.objs.size + 1 + 1, d2) :: (s1.heap.objs.size + 1 + 1 + 1 + 1, c4) :: (s1.heap.objs.size + 1 + 1 + 1 + 1 + 1, c5) :: (s1.heap.objs.size + 1 + 1 + 1 + 1 + 1 + 1, c6) :: ts := ⟨_, rfl⟩
      have hP3 : (ledB ls D0 s1.heap.objs.size vs ws0 nv d1 d2 c3 c4 c5 c6 ts).Perm ((s1.heap.objs.size + 1 + 1 + 1, c3) :: R3) := by
        rw [hR3]
        exact List.perm_middle (l₁ := [(ls, listOf vs.toArray nv), (D0, listOf ws0.toArray 0), (s1.heap.objs.size + 1, d1), (s1.heap.objs.size + 1 + 1, d2)])
      have N6 := News.perm N5 (hP3.append_left _)
      have ok6 := ok4.perm hP3
      (try clear N5)
      (try clear ok4)
      (try clear hP3)
      refine forAtN_range (σ := Lw3) (n := 6) (fun _ => []) (fun st => So.led w (So.mk x dx d st.o t1 t2 t3 t4 .none 0 ta 0 tb st.nds) ++ (s1.heap.objs.size + 1 + 1 + 1, st.c) :: R3)
        (fun i st => So.Ok Challenge.rw_ik0123_01.row.prog w (So.mk x dx d st.o t1 t2 t3 t4 .none 0 ta 0 tb st.nds) ((s1.heap.objs.size + 1 + 1 + 1, st.c) :: R3) ∧ st.nds.map Nd.ab = nodesOf (addsOf [] prs) (intsTo i) ∧ Bd (prs.length + i) (st.nds.map Nd.ab) ∧ (∃ v, st.c.data = .cell v))
        ⟨oA, nds, c3⟩ rfl F5 N6 hr5 (by decide) (by decide) (fun q hq => nomatch hq) (fun q hq => hq) ?_ ?_ ?_
      · refine ⟨ok6, ?_, ?_, hd3⟩
        · exact habI
        · have := hbd2
          exact this
      · rintro I i t ⟨o8, nds8, c⟩ oI h tk hi ⟨ok, hab, hbd, ⟨cv, hcv⟩⟩ hI hob F7 N7
        generalize hRR3 : ForEndN _ _ _ _ _ _ _ _ _ _ _ = RR3
        (try clear F5)
        (try clear N6)
        dsimp only at ok hab hbd hcv hI F7 N7
        have ok2 := ok.cons (q := (I, oI)) (fun r hr => hI r hr)
        have hP8 : (((I, oI) :: (So.led w (So.mk x dx d o8 t1 t2 t3 t4 .none 0 ta 0 tb nds8) ++ (s1.heap.objs.size + 1 + 1 + 1, c) :: R3)) : List (Addr × Obj)).Perm ((s1.heap.objs.size + 1 + 1 + 1, c) :: (I, oI) :: (So.led w (So.mk x dx d o8 t1 t2 t3 t4 .none 0 ta 0 tb nds8) ++ R3)) :=
          List.perm_middle (l₁ := (I, oI) :: So.led w (So.mk x dx d o8 t1 t2 t3 t4 .none 0 ta 0 tb nds8)) (a := (s1.heap.objs.size + 1 + 1 + 1, c)) (l₂ := R3)
        have N8 := News.perm N7 hP8
        have A8 := (Ap.perm hP8 (Ap.cons (p := (I, oI)) hI ok.ap)).head
        dsimp only [So.led, List.cons_append, soDict] at N8 A8
        (try clear N7)
        refine wpAny_pure (a := ()) ?_
        refine wpAny_assign_Name ?_
        k_steps
        unfold Stop
        rename_i h10 o10 F10 N10 d10
        have ok3 : So.Ok Challenge.rw_ik0123_01.row.prog w (So.mk x dx d o8 t1 t2 t3 t4 .none 0 ta 0 tb nds8) ((s1.heap.objs.size + 1 + 1 + 1, o10) :: (I, oI) :: R3) :=
          So.Ok.perm ⟨ok2.mod, ok2.dict, ok2.its, ok2.keys, Ap.same (l' := So.led w (So.mk x dx d o8 t1 t2 t3 t4 .none 0 ta 0 tb nds8) ++ (I, oI) :: (s1.heap.objs.size + 1 + 1 + 1, o10) :: R3) (by simp) ok2.ap⟩ (List.Perm.swap _ _ _)
        have N11 : News T0.heap s1.heap.objs.size h10 (So.led w (So.mk x dx d o8 t1 t2 t3 t4 .none 0 ta 0 tb nds8) ++ (s1.heap.objs.size + 1 + 1 + 1, o10) :: (I, oI) :: R3) :=
          News.perm (show News T0.heap s1.heap.objs.size h10 ((s1.heap.objs.size + 1 + 1 + 1, o10) :: (I, oI) :: (So.led w (So.mk x dx d o8 t1 t2 t3 t4 .none 0 ta 0 tb nds8) ++ R3)) from N10) (List.perm_append_comm_assoc [(s1.heap.objs.size + 1 + 1 + 1, o10), (I, oI)] (So.led w (So.mk x dx d o8 t1 t2 t3 t4 .none 0 ta 0 tb nds8)) R3)
        have hlen : nds8.length ≤ 900 := by
          have h1 := hbd.1
          rw [List.length_map] at h1
          lia
        rw [Int.zero_add] at d10 ⊢
        refine add1_spec (S := So.mk x dx d o8 t1 t2 t3 t4 .none 0 ta 0 tb nds8) (rest := (s1.heap.objs.size + 1 + 1 + 1, o10) :: (I, oI) :: R3) rfl B0 F10 X0 T0 N11 ok3 rfl rfl (by decide) hlen (fun e he => Nat.le_trans (hbd.2 e he) (by lia)) fun o' nds' h11 tk11 F6 N6 ok6 hab6 => ?_
        have P12 : (So.led w (So.mk x dx d o' t1 t2 t3 t4 .none 0 ta 0 tb nds') ++ (s1.heap.objs.size + 1 + 1 + 1, o10) :: (I, oI) :: R3).Perm ((I, oI) :: (So.led w (So.mk x dx d o' t1 t2 t3 t4 .none 0 ta 0 tb nds') ++ (s1.heap.objs.size + 1 + 1 + 1, o10) :: R3)) := perm_second _ _ _ _
        have N12 := News.perm N6 P12
        have A12 := (Ap.perm P12 ok6.ap).head
        have ok12 := (ok6.perm (List.Perm.swap _ _ _)).less
        dsimp only at hab6
        (try clear N6)
        (try clear N11)
        (try clear N10)
        (try clear F10)
        (try clear ok3)
        (try clear ok6)
        k_steps
        subst hRR3
        refine ForEndN.intro (Lw3.mk o' nds' o10) hob F6 N12 (fun _ => rfl) A12 ⟨ok12, ?_, ?_, ⟨_, d10⟩⟩ _ (.inl rfl)
        · rw [intsTo_succ, nodesOf_snoc, ← hab]
          exact hab6
        · have h13 : nds'.map Nd.ab = addA (nds8.map Nd.ab) i [] := hab6
          dsimp only
          rw [h13, ← Nat.add_assoc]
          exact hbd.add1
      · rintro ⟨o8, nds8, c⟩ h tk ⟨ok, hab, hbd, ⟨cv, hcv⟩⟩ F7 N7
        (try clear F5)
        (try clear N6)
        (try clear ok6)
        (try clear habI)
        (try clear hbd2)
        dsimp only at ok hab hbd hcv F7 N7
        have N8 := N7
        dsimp only [So.led, List.cons_append, soDict] at N8
        obtain ⟨ks, hVw, hps, hks⟩ := start_graph hso
        rw [← hab] at hVw
        have hlen : nds8.length ≤ 900 := by
          have h1 := hbd.1
          rw [List.length_map] at h1
          lia
        (try clear hab)
        (try clear hbd)
        k_steps
        unfold Stop
        refine prep_L (S := So.mk x dx d o8 t1 t2 t3 t4 .none 0 ta 0 tb nds8) (rest := (s1.heap.objs.size + 1 + 1 + 1, c) :: R3) rfl B0 F7 X0 T0 N7 ok hlen (nds_acyclic hVw hps hso) rfl rfl (by decide) fun D kD ys h11 tk11 F11 N11 ok11 hys11 => ?_
        rw [nds_starts hVw] at hys11
        (try clear F7)
        (try clear N7)
        (try clear N8)
        (try clear ok)
        obtain ⟨R4, hR4⟩ : ∃ R4, R4 = (ls, listOf vs.toArray nv) :: (D0, listOf ws0.toArray 0) :: (s1.heap.objs.size + 1, d1) :: (s1.heap.objs.size + 1 + 1, d2) :: (s1.heap.objs.size + 1 + 1 + 1 + 1 + 1, c5) :: (s1.heap.objs.size + 1 + 1 + 1 + 1 + 1 + 1, c6) :: ts := ⟨_, rfl⟩
        have hP4 : R3.Perm ((s1.heap.objs.size + 1 + 1 + 1 + 1, c4) :: R4) := by
          rw [hR3, hR4]
          exact List.perm_middle (l₁ := [(ls, listOf vs.toArray nv), (D0, listOf ws0.toArray 0), (s1.heap.objs.size + 1, d1), (s1.heap.objs.size + 1 + 1, d2)])
        have hP5 : (So.led w (So.mk x dx d o8 t1 t2 t3 t4 (.ref D) 0 ta 0 tb nds8) ++ (D, listOf ys.toArray kD) :: (s1.heap.objs.size + 1 + 1 + 1, c) :: R3).Perm ((s1.heap.objs.size + 1 + 1 + 1 + 1, c4) :: (So.led w (So.mk x dx d o8 t1 t2 t3 t4 (.ref D) 0 ta 0 tb nds8) ++ (D, listOf ys.toArray kD) :: (s1.heap.objs.size + 1 + 1 + 1, c) :: R4)) :=
          (((hP4.cons _).cons _).append_left _).trans (perm_third _ _ _ _ _)
        have N12 := News.perm N11 hP5
        have A12 := Ap.perm hP5 ok11.ap
        have A13 := A12.head
        (try clear N11)
        (try clear hP4)
        (try clear hP5)
        (try clear hR3)
        dsimp only [So.led, List.cons_append, soDict] at N12 A13
        obtain ⟨cv4, hcv4⟩ := hd4
        dsimp only at ok11
        have hmod := ok11.mod
        have hdict := ok11.dict
        have hits := ok11.its
        have hkeys := ok11.keys
        dsimp only at hmod hdict hits hkeys
        (try clear ok11)
        k_steps
        unfold Stop
        rename_i ol _ lol _ _ _ bd _ ob lob _ _ hob _ lbd h13 oc4 F13 N13 dc4
        have A14 : Ap ((bd, ob) :: (ol, listOf ([] : List Value).toArray 0) :: (s1.heap.objs.size + 1 + 1 + 1 + 1, oc4) :: (So.led w (So.mk x dx d o8 t1 t2 t3 t4 (.ref D) 0 ta 0 tb nds8) ++ (D, listOf ys.toArray kD) :: (s1.heap.objs.size + 1 + 1 + 1, c) :: R4)) :=
          Ap.same (l := (bd, ob) :: (ol, listOf ([] : List Value).toArray 0) :: (s1.heap.objs.size + 1 + 1 + 1 + 1, c4) :: (So.led w (So.mk x dx d o8 t1 t2 t3 t4 (.ref D) 0 ta 0 tb nds8) ++ (D, listOf ys.toArray kD) :: (s1.heap.objs.size + 1 + 1 + 1, c) :: R4)) (by simp) (Ap.below lbd (Ap.below lol A12))
        have P14 := perm_a (So.led w (So.mk x dx d o8 t1 t2 t3 t4 (.ref D) 0 ta 0 tb nds8)) R4 (bd, ob) (ol, listOf ([] : List Value).toArray 0) (s1.heap.objs.size + 1 + 1 + 1 + 1, oc4) (D, listOf ys.toArray kD) (s1.heap.objs.size + 1 + 1 + 1, c)
        have N14 := News.perm (show News T0.heap s1.heap.objs.size h13 ((bd, ob) :: (ol, listOf ([] : List Value).toArray 0) :: (s1.heap.objs.size + 1 + 1 + 1 + 1, oc4) :: (So.led w (So.mk x dx d o8 t1 t2 t3 t4 (.ref D) 0 ta 0 tb nds8) ++ (D, listOf ys.toArray kD) :: (s1.heap.objs.size + 1 + 1 + 1, c) :: R4)) from N13) P14
        have ok14 : So.Ok Challenge.rw_ik0123_01.row.prog w (So.mk x dx d o8 t1 t2 t3 t4 (.ref D) 0 ta 0 tb nds8) ((D, listOf ys.toArray kD) :: (s1.heap.objs.size + 1 + 1 + 1, c) :: (s1.heap.objs.size + 1 + 1 + 1 + 1, oc4) :: (bd, ob) :: (ol, listOf ([] : List Value).toArray 0) :: R4) := ⟨hmod, hdict, hits, hkeys, Ap.perm P14 A14⟩
        (try clear N13)
        (try clear A12)
        (try clear A13)
        (try clear A14)
        (try clear P14)
        (try clear lol)
        (try clear lbd)
        (try clear hmod)
        (try clear hdict)
        (try clear hits)
        (try clear hkeys)
        have hksl : ks.length ≤ 900 := by
          rw [← (nds_F hVw).2, List.length_map]; exact hlen
        refine ready_spec (S := So.mk x dx d o8 t1 t2 t3 t4 (.ref D) 0 ta 0 tb nds8) (D := D) (kD := kD) (ys := ys) (r := startsOf prs ks) (rest := (s1.heap.objs.size + 1 + 1 + 1, c) :: (s1.heap.objs.size + 1 + 1 + 1 + 1, oc4) :: (bd, ob) :: (ol, listOf ([] : List Value).toArray 0) :: R4) rfl hys11 (fun v hv => by rw [(nds_F hVw).2]; exact (List.mem_filter.mp hv).1) (Nat.le_trans (List.length_filter_le _ _) (by lia)) B0 F13 X0 T0 N14 ok14 rfl rfl (by decide) hlen fun T nds15 ta15 kD15 h15 tk15 F15 N15 ok15 hab15 => ?_
        have N16 := News.perm N15 List.perm_middle
        have ok16 := (ok15.perm (List.Perm.refl _))
        have A16 := (Ap.perm List.perm_middle ok15.ap).head
        have hzT : ys.toArray.size ≤ sizeLine := by
          rw [List.size_toArray, hys11.length, sizeLine_eq]
          have := List.length_filter_le (fun k => decide (cntO prs [] k = 0)) ks
          unfold startsOf
          lia
        dsimp only at N16 A16
        have hab15 : nds15.map Nd.ab = outA (nds8.map Nd.ab) (startsOf prs ks) := hab15
        dsimp only at ok15
        have hcn : ∃ v, c.data = .cell v := ⟨_, hcv⟩
        (try clear N14)
        (try clear ok14)
        (try clear N15)
        (try clear F13)
        (try clear ok16)
        (try clear hcv)
        k_steps
        unfold Stop
        rename_i wl cW _ lwl h17 F17 N17
        have lwl2 := lwl.2
        have A18 : Ap ((wl, listOf ys.toArray cW) :: (So.led w (So.mk x dx d o8 t1 t2 t3 t4 (.ref D) (0 + ((startsOf prs ks).length : Int)) ta15 0 tb nds15) ++ (D, listOf ([] : List Value).toArray kD15) :: (s1.heap.objs.size + 1 + 1 + 1, c) :: (s1.heap.objs.size + 1 + 1 + 1 + 1, oc4) :: (bd, ob) :: (ol, listOf ([] : List Value).toArray 0) :: R4)) :=
          Ap.below lwl2 ok15.less.ap
        have P18 := perm_b (So.led w (So.mk x dx d o8 t1 t2 t3 t4 (.ref D) (0 + ((startsOf prs ks).length : Int)) ta15 0 tb nds15)) R4 (wl, listOf ys.toArray cW) (D, listOf ([] : List Value).toArray kD15) (s1.heap.objs.size + 1 + 1 + 1, c) (s1.heap.objs.size + 1 + 1 + 1 + 1, oc4) (bd, ob) (ol, listOf ([] : List Value).toArray 0)
        have N18 : News T0.heap s1.heap.objs.size h17 _ := News.perm (fun q hq => N17 q (by
          rcases List.mem_cons.mp hq with rfl | hq
          · exact .head _
          · exact .tail _ (.tail _ hq)) : News T0.heap s1.heap.objs.size h17 ((wl, listOf ys.toArray cW) :: (So.led w (So.mk x dx d o8 t1 t2 t3 t4 (.ref D) (0 + ((startsOf prs ks).length : Int)) ta15 0 tb nds15) ++ (D, listOf ([] : List Value).toArray kD15) :: (s1.heap.objs.size + 1 + 1 + 1, c) :: (s1.heap.objs.size + 1 + 1 + 1 + 1, oc4) :: (bd, ob) :: (ol, listOf ([] : List Value).toArray 0) :: R4))) P18
        have ok18 : So.Ok Challenge.rw_ik0123_01.row.prog w (So.mk x dx d o8 t1 t2 t3 t4 (.ref D) (0 + ((startsOf prs ks).length : Int)) ta15 0 tb nds15) ((D, listOf ([] : List Value).toArray kD15) :: (s1.heap.objs.size + 1 + 1 + 1, c) :: (s1.heap.objs.size + 1 + 1 + 1 + 1, oc4) :: (bd, ob) :: (ol, listOf ([] : List Value).toArray 0) :: (wl, listOf ys.toArray cW) :: R4) :=
          ⟨ok15.mod, ok15.dict, ok15.its, ok15.keys, Ap.perm P18 A18⟩
        have hksn : ks.Nodup := by
          have h19 := ok15.keys
          have h20 : nds15.map (·.k) = nds8.map (·.k) := by
            have h21 := congrArg (List.map (·.1)) hab15
            rw [(Vw.out (startsOf prs ks) hVw).keys, List.map_map] at h21
            rw [(nds_F hVw).2]
            exact h21
          rw [h20, (nds_F hVw).2] at h19
          exact h19
        have hIv : Iv prs ks (nds15.map Nd.ab) [] (startsOf prs ks) := by
          rw [hab15]
          exact Iv.start hVw hksn
        (try clear N17)
        (try clear A18)
        (try clear P18)
        (try clear ok15)
        (try clear A16)
        (try clear lwl)
        (try clear lwl2)
        (try clear hzT)
        (try clear hVw)
        (try clear hab15)
        (try clear hksl)
        (try clear hlen)
        (try clear hr5)
        rw [Int.zero_add] at N18 ok18
        (try clear a)
        (try clear hab15)
        (try clear kXz)
        (try clear fs')
        (try clear fi')
        (try clear hs')
        have mkA : MarkA := True.intro
        refine while_S (σ := Lw4) (fun st => [(Str.ofString "waiting", some (.ref st.wl))])
          (fun st => So.led w (soW x dx d o8 t1 t2 t3 t4 D st) ++ (D, listOf ([] : List Value).toArray st.kD) :: restW s1.heap.objs.size bd ol R4 st)
          (fun n st => n + st.O.length = 6 ∧ WOk prs ks st ∧ So.Ok Challenge.rw_ik0123_01.row.prog w (soW x dx d o8 t1 t2 t3 t4 D st) ((D, listOf ([] : List Value).toArray st.kD) :: restW s1.heap.objs.size bd ol R4 st) ∧ st.cb.data = .cell (some (.ref bd)) ∧ st.ob.IsDictOf (PySem.intKind Challenge.rw_ik0123_01.row.prog w) st.kvs)
          6 ⟨nds15, (startsOf prs ks).length, ta15, 0, tb, kD15, c, oc4, ob, [], [], 0, wl, ys, cW, [], [], startsOf prs ks, []⟩ F17 N18 ?_ (fun q hq => hq) ?_ ?_
        · intro q hq
          rw [List.mem_singleton.mp hq]; rfl
        · refine ⟨rfl, ⟨hIv, ⟨rfl, fun _ h => nomatch h⟩, ?_, rfl, .nil, hys11, .nil, hcn⟩, ok18, dc4, hob⟩
          show ((startsOf prs ks).length : Int) = 0 + _
          rw [Int.zero_add]
        · rintro n ⟨ndsW, aW, taW, bW, tbW, kDW, cn, cb, obW, kvs, ows, kO, wlW, wvs, kW, bls, O, W, bl⟩ hW1 tkW1 ⟨hn, ⟨hiv, hbw, hsa, hsb, hows, hwvs, hrows, ⟨cv, hcv⟩⟩, ok, hcb, hdb⟩ F N
          generalize hRR4 : WhEndS _ _ _ _ _ _ _ _ _ = RR4
          (try clear F17)
          (try clear N18)
          (try clear hIv)
          (try clear ok18)
          (try clear hys11)
          (try clear hcn)
          (try clear dc4)
          (try clear hob)
          dsimp only at hn hiv hbw hsa hsb hows hwvs hrows hcv ok hcb hdb F N
          have P1 := perm_c (So.led w (soW x dx d o8 t1 t2 t3 t4 D ⟨ndsW, aW, taW, bW, tbW, kDW, cn, cb, obW, kvs, ows, kO, wlW, wvs, kW, bls, O, W, bl⟩)) (bls ++ R4) (D, listOf ([] : List Value).toArray kDW) (s1.heap.objs.size + 1 + 1 + 1, cn) (s1.heap.objs.size + 1 + 1 + 1 + 1, cb) (bd, obW) (ol, listOf ows.toArray kO) (wlW, listOf wvs.toArray kW)
          have N1 := News.perm N P1
          have A1 := ap5 (Ap.perm P1 ok.ap)
          have e1 := A1.1
          have e6 := A1.2.1
          have e10 := A1.2.2.1
          have e13 := A1.2.2.2.1
          have e15 := A1.2.2.2.2
          (try clear A1)
          have hD0 : (D0, listOf ws0.toArray 0) ∈ ndsLed ndsW ++ (D, listOf ([] : List Value).toArray kDW) :: (bls ++ R4) := List.mem_append_right _ (.tail _ (List.mem_append_right _ (by rw [hR4]; exact .tail _ (.head _))))
          have hls : (ls, listOf vs.toArray nv) ∈ ndsLed ndsW ++ (D, listOf ([] : List Value).toArray kDW) :: (bls ++ R4) := List.mem_append_right _ (.tail _ (List.mem_append_right _ (by rw [hR4]; exact .head _)))
          dsimp only [So.led, List.cons_append, soDict, soW] at N1 e1 e6 e10 e13 e15
          (try clear N)
          k_steps
          rename Fr _ _ _ _ => F1
          rename News _ _ _ _ => N2
          rename_i lg _ lgl
          by_cases hW : W = []
          · rw [hW]
            show wpAny _ _ _ _ _ _
            have N3 := News.perm (fun q hq => N2 q (.tail _ hq) : News T0.heap s1.heap.objs.size _ (_ :: _)) P1.symm
            subst hW
            (try clear N2)
            (try clear P1)
            (try clear e1)
            (try clear e6)
            (try clear e10)
            (try clear e13)
            (try clear e15)
            (try clear hD0)
            (try clear hls)
            (try clear lgl)
            (try clear F)
            have mkV : MarkV := True.intro
            have hall := hiv.all hps hso hks
            have hrow : ∀ k, 0 ≤ k → k < 6 → ∃ ra rws rk, valueAt kvs k = some (.ref ra) ∧ (ra, listOf rws.toArray rk) ∈ bls ∧ IntsAre rws (look bl k) ∧ Tells prs k (look bl k) := by
              intro k h1 h2
              have h3 : k ∈ O := (hall k).mpr ⟨h1, h2⟩
              rcases hrows.at (i := k) with ⟨h4, _⟩ | ⟨ra, rws, rk, h4, h5, h6⟩
              · have h7 := valueAt_yes (kvs := kvs) (k := k) (by rw [hrows.keys, hbw.1]; exact h3)
                rw [h4] at h7; cases h7
              · exact ⟨ra, rws, rk, h4, h5, h6, hbw.look h3⟩
            have hOn : O.Nodup := (List.nodup_append.mp hiv.nod).1
            have hOl : O.length ≤ 6 := Nat.le_trans (nodup_len hOn fun k hk => (hks k).mpr ((hall k).mp hk)) (ks_len hksn hks)
            have hab5 : bW = aW := by rw [hsa, hsb]; simp
            (try clear hiv)
            (try clear hbw)
            (try clear hn)
            (try clear hsa)
            (try clear hsb)
            (try clear hwvs)
            (try clear hvl)
            dsimp only [soW, restW] at N3 ok
            have hmol0 : (ol, listOf ows.toArray kO) ∈ So.led w (So.mk x dx d o8 t1 t2 t3 t4 (.ref D) aW taW bW tbW ndsW) ++ (D, listOf ([] : List Value).toArray kDW) :: (s1.heap.objs.size + 1 + 1 + 1, cn) :: (s1.heap.objs.size + 1 + 1 + 1 + 1, cb) :: (bd, obW) :: (ol, listOf ows.toArray kO) :: (wlW, listOf wvs.toArray kW) :: (bls ++ R4) :=
              List.mem_append_right _ (.tail _ (.tail _ (.tail _ (.tail _ (.head _)))))
            have N3c := N3
            k_steps
            unfold Stop
            refine sortedK F1 N3c hmol0 hows (by omega) fun l20 vs20 ns20 c20 h20 F20 N20 lt20 hi20 hp20 => ?_
            have hns20 := order_range hOn hall hp20
            subst hns20
            dsimp only [So.led, List.cons_append, soDict] at N20
            (try clear N3)
            (try clear N3c)
            (try clear F1)
            (try clear hmol0)
            k_steps
            unfold Stop
            rename Fr _ _ _ _ => F21
            rename (News _ _ _ ((l20, _) :: _)) => N21
            rename IsRange _ _ _ _ _ _ _ _ => hr21
            refine kll_range (n := 6) rfl F21 N21 hr21 (by decide) (by decide) (by decide) fun l22 us22 c22 h22 tk22 F22 N22 lt22 hi22 => ?_
            (try clear hr21)
            (try clear F21)
            (try clear N21)
            k_steps
            unfold Stop
            refine neK N22 (.tail _ (.head _)) (.head _) hi20 hi22 (by ke_room) ?_
            rw [show (!decide (rangeKs 0 6 = rangeKs 0 6)) = false from by simp]
            k_steps
            unfold Stop
            have N23 : News T0.heap s1.heap.objs.size h22 (So.led w (So.mk x dx d o8 t1 t2 t3 t4 (.ref D) aW taW bW tbW ndsW) ++ (D, listOf #[] kDW) :: (s1.heap.objs.size + 1 + 1 + 1, cn) :: (s1.heap.objs.size + 1 + 1 + 1 + 1, cb) :: (bd, obW) :: (ol, listOf ows.toArray kO) :: (wlW, listOf wvs.toArray kW) :: (bls ++ R4)) := fun z hz => N22 z (.tail _ (.tail _ hz))
            refine active_spec (S := So.mk x dx d o8 t1 t2 t3 t4 (.ref D) aW taW bW tbW ndsW) (D := D) (kD := kDW) (rest := (s1.heap.objs.size + 1 + 1 + 1, cn) :: (s1.heap.objs.size + 1 + 1 + 1 + 1, cb) :: (bd, obW) :: (ol, listOf ows.toArray kO) :: (wlW, listOf wvs.toArray kW) :: (bls ++ R4)) rfl hab5 B0 F22 X0 T0 N23 rfl rfl (by decide) fun h24 tk24 F24 N24 => ?_
            have P24 := perm_g bls ts (s1.heap.objs.size + 1 + 1 + 1, cn) (s1.heap.objs.size + 1 + 1 + 1 + 1, cb) (bd, obW) (ol, listOf ows.toArray kO) (wlW, listOf wvs.toArray kW) (ls, listOf vs.toArray nv) (D0, listOf ws0.toArray 0) (s1.heap.objs.size + 1, d1) (s1.heap.objs.size + 1 + 1, d2) (s1.heap.objs.size + 1 + 1 + 1 + 1 + 1, c5) (s1.heap.objs.size + 1 + 1 + 1 + 1 + 1 + 1, c6)
            rw [← hR4] at P24
            have A25 : Ap ((s1.heap.objs.size + 1, d1) :: (s1.heap.objs.size + 1 + 1, d2) :: (s1.heap.objs.size + 1 + 1 + 1, cn) :: (s1.heap.objs.size + 1 + 1 + 1 + 1 + 1, c5) :: (s1.heap.objs.size + 1 + 1 + 1 + 1 + 1 + 1, c6) :: baseW s1.heap.objs.size bd ol ls D0 cb obW ows vs ws0 kO nv bls ts) :=
              (Ap.perm P24 ok.ap.right.tail).tail
            have N25 : News T0.heap s1.heap.objs.size h24 ((s1.heap.objs.size + 1, d1) :: (s1.heap.objs.size + 1 + 1, d2) :: (s1.heap.objs.size + 1 + 1 + 1, cn) :: (s1.heap.objs.size + 1 + 1 + 1 + 1 + 1, c5) :: (s1.heap.objs.size + 1 + 1 + 1 + 1 + 1 + 1, c6) :: baseW s1.heap.objs.size bd ol ls D0 cb obW ows vs ws0 kO nv bls ts) :=
              fun z hz => N24 z (List.mem_append_right _ (.tail _ (P24.mem_iff.mpr (.tail _ hz))))
            obtain ⟨BB, hBB⟩ : ∃ BB, BB = baseW s1.heap.objs.size bd ol ls D0 cb obW ows vs ws0 kO nv bls ts := ⟨_, rfl⟩
            rw [← hBB] at A25 N25
            have hmb4 : (s1.heap.objs.size + 1 + 1 + 1 + 1, cb) ∈ BB := by rw [hBB]; exact .head _
            have hmbd : (bd, obW) ∈ BB := by rw [hBB]; exact .tail _ (.head _)
            have hmol : (ol, listOf ows.toArray kO) ∈ BB := by rw [hBB]; exact .tail _ (.tail _ (.head _))
            have hmls : (ls, listOf vs.toArray nv) ∈ BB := by rw [hBB]; exact .tail _ (.tail _ (.tail _ (List.mem_append_right _ (.head _))))
            have hmps : PairsAre BB vs prs := hp.mono fun z hz => by rw [hBB]; exact .tail _ (.tail _ (.tail _ (List.mem_append_right _ (.tail _ (.tail _ hz)))))
            have hmrow : ∀ k, 0 ≤ k → k < 6 → ∃ ra rws rk, valueAt kvs k = some (.ref ra) ∧ (ra, listOf rws.toArray rk) ∈ BB ∧ IntsAre rws (look bl k) ∧ Tells prs k (look bl k) := fun k h1 h2 => by
              obtain ⟨ra, rws, rk, a1, a2, a3, a4⟩ := hrow k h1 h2
              exact ⟨ra, rws, rk, a1, by rw [hBB]; exact .tail _ (.tail _ (.tail _ (List.mem_append_left _ a2))), a3, a4⟩
            have hcn3 : ∃ z, cn.data = .cell z := ⟨_, hcv⟩
            (try clear hBB)
            (try clear P24)
            (try clear N24)
            (try clear N23)
            (try clear N22)
            (try clear F22)
            (try clear ok)
            (try clear hR4)
            (try clear hrow)
            (try clear hrows)
            (try clear hp)
            (try clear hcv)
            (try clear lt22)
            (try clear hi22)
            (try clear hi20)
            (try clear hp20)
            (try clear lt20)
            (try clear hOn)
            (try clear hab5)
            (try clear F21)
            (try clear N21)
            have aq1 := ap5 A25
            have f1 := aq1.1
            have f6 := aq1.2.1
            have f10 := aq1.2.2.1
            have f13 := aq1.2.2.2.1
            have f15 := aq1.2.2.2.2
            (try clear aq1)
            dsimp only at f1 f6 f10 f13 f15
            obtain ⟨cv5, hcv5⟩ := hd5
            have mkX : MarkX := True.intro
            k_steps
            rename_i ul h26 lul h27 oc5 _ _ doc5 h28 _ _ _ _ hr28 F28 N28 _
            have A28 : Ap (ledU ul s1.heap.objs.size [] 0 d1 d2 cn oc5 c6 BB) :=
              Ap.same (l := ledU ul s1.heap.objs.size [] 0 d1 d2 cn c5 c6 BB) rfl (Ap.below (T := (s1.heap.objs.size + 1, d1) :: (s1.heap.objs.size + 1 + 1, d2) :: (s1.heap.objs.size + 1 + 1 + 1, cn) :: (s1.heap.objs.size + 1 + 1 + 1 + 1 + 1, c5) :: (s1.heap.objs.size + 1 + 1 + 1 + 1 + 1 + 1, c6) :: BB) lul A25)
            (try clear f1)
            (try clear f6)
            (try clear f10)
            (try clear f13)
            (try clear f15)
            (try clear A25)
            (try clear lul)
            refine forAtN_range (σ := Lw5) (n := 6) (fun st => [(Str.ofString "low", st.lo), (Str.ofString "high", st.hi)]) (fun st => ledU ul s1.heap.objs.size st.uvs st.kU d1 d2 st.c3 oc5 st.c6 (st.rls ++ BB))
              (fun i st => Ap (ledU ul s1.heap.objs.size st.uvs st.kU d1 d2 st.c3 oc5 st.c6 (st.rls ++ BB)) ∧ ListsAre st.rls st.uvs st.us ∧ st.us.length = i ∧ (∀ j : Nat, j < i → Tells prs (j : Int) (st.us.getD j [])) ∧ (∃ z, st.c3.data = .cell z) ∧ ∃ z, st.c6.data = .cell z)
              ⟨cn, c6, 0, [], [], [], lo, hi⟩ rfl F28 N28 hr28 (by decide) (by decide) ?_ (fun q hq => hq) ⟨A28, .nil, rfl, (fun j hj => absurd hj (Nat.not_lt_zero _)), hcn3, hd6⟩ ?_ ?_
            · intro q hq
              rcases List.mem_cons.mp hq with rfl | hq
              · rfl
              · rw [List.mem_singleton.mp hq]; rfl
            · rintro I i t ⟨c3', c6', kU, uvs, rls, us, lo', hi'⟩ oI h29 tk29 hi6 ⟨A29, hus, hul, hut, ⟨cv3, hcv3⟩, ⟨cv6, hcv6⟩⟩ hI hob29 F29 N29
              generalize hRR5 : ForEndN _ _ _ _ _ _ _ _ _ _ _ = RR5
              (try clear F28)
              (try clear N28)
              (try clear A28)
              (try clear hcn3)
              (try clear hd6)
              (try clear hr28)
              dsimp only at A29 hus hul hut hcv3 hcv6 hI F29 N29
              have aq2 := ap7 (Ap.cons (p := (I, oI)) hI A29)
              have f1 := aq2.1
              have A30 := aq2.2
              (try clear aq2)
              have aq3 := ap6 A30
              have g1 := aq3.1
              have g7 := aq3.2.1
              have g12 := aq3.2.2.1
              have g16 := aq3.2.2.2.1
              have g19 := aq3.2.2.2.2.1
              have g21 := aq3.2.2.2.2.2
              (try clear aq3)
              dsimp only at f1 g1 g7 g12 g16 g19 g21
              rw [Int.zero_add] at *
              refine wpAny_pure (a := ()) ?_
              refine wpAny_assign_Name ?_
              k_steps
              rename_i h30 o30 d30 tk30 r0 h31 lr0 h32 o32 F32 N32 d32
              have A32 : Ap ((I, oI) :: (r0, listOf [Value.int i t].toArray 0) :: ledU ul s1.heap.objs.size uvs kU d1 d2 o30 oc5 o32 (rls ++ BB)) :=
                Ap.perm (List.Perm.swap _ _ _) (Ap.same (l := (r0, listOf [Value.int i t].toArray 0) :: (I, oI) :: ledU ul s1.heap.objs.size uvs kU d1 d2 c3' oc5 c6' (rls ++ BB)) rfl (Ap.below lr0 (Ap.cons (p := (I, oI)) hI A29)))
              have hlsT : (ls, listOf vs.toArray nv) ∈ rls ++ BB := List.mem_append_right _ hmls
              have N33 : News T0.heap s1.heap.objs.size h32 ((I, oI) :: (r0, listOf [Value.int i t].toArray 0) :: ledU ul s1.heap.objs.size uvs kU d1 d2 o30 oc5 o32 (rls ++ BB)) := News.perm N32 (List.Perm.swap _ _ _)
              (try clear f1)
              (try clear g1)
              (try clear g7)
              (try clear g12)
              (try clear g16)
              (try clear g19)
              (try clear g21)
              (try clear lr0)
              (try clear N32)
              (try clear A30)
              (try clear hcv3)
              (try clear hcv6)
              have hrlU : ∀ xs ∈ predRows prs (uAt us) i, xs.length ≤ 6 := by
                intro xs hxs
                obtain ⟨z, hz, rfl⟩ := List.mem_map.mp hxs
                obtain ⟨hz1, hz2⟩ := List.mem_filter.mp hz
                have hz3 := hso z hz1
                unfold StepOk at hz3
                have hz4 : z.2 = (i : Int) := of_decide_eq_true hz2
                have h1 := hut z.1.toNat (by lia)
                rw [show ((z.1.toNat : Nat) : Int) = z.1 from by lia] at h1
                exact h1.len hps hksn hks (hps z hz1).1
              refine forAtN_list (σ := Lw6) (vs := vs.toArray) (k := nv) (fun st => [(Str.ofString "low", st.lo), (Str.ofString "high", st.hi)]) (fun st => (I, oI) :: (st.rl, listOf st.rvs.toArray st.kR) :: ledU ul s1.heap.objs.size uvs kU d1 d2 o30 oc5 st.c6 (rls ++ BB))
                (fun j st => Ap ((I, oI) :: (st.rl, listOf st.rvs.toArray st.kR) :: ledU ul s1.heap.objs.size uvs kU d1 d2 o30 oc5 st.c6 (rls ++ BB)) ∧ st.c6.data = .cell (some (.ref st.rl)) ∧ IntsAre st.rvs st.rxs ∧ st.rxs = (predRows (prs.take j) (uAt us) i).foldl joinF [(i : Int)])
                ⟨o32, r0, [Value.int i t], 0, [(i : Int)], lo', hi'⟩ rfl F32 N33 (.tail _ (.tail _ (.tail _ (.tail _ (.tail _ (.tail _ (.tail _ (.tail _ hlsT)))))))) ?_ (fun q hq => hq) (fun j st _ => .tail _ (.tail _ (.tail _ (.tail _ (.tail _ (.tail _ (.tail _ (.tail _ hlsT)))))))) ⟨A32, d32, .cons _ _ .nil, rfl⟩ ?_ ?_
              · intro q hq
                rcases List.mem_cons.mp hq with rfl | hq
                · rfl
                · rw [List.mem_singleton.mp hq]; rfl
              · rintro J j v ⟨c6'', rl, rvs, kR, rxs, lo'', hi''⟩ oJ h33 tk33 hj hv ⟨A33, hc6, hrv, hrx⟩ hJ hobJ F34 N34
                generalize hRR6 : ForEndN _ _ _ _ _ _ _ _ _ _ _ = RR6
                (try clear F32)
                (try clear N33)
                (try clear A32)
                (try clear d32)
                dsimp only at A33 hc6 hrv hrx hJ F34 N34
                rw [List.size_toArray] at hj
                rw [List.getElem?_toArray] at hv
                obtain ⟨av, kv, lw, hg9, tl9, th9, rfl, hav, hpi⟩ := hmps.get j v hv
                have hpt := predRows_take (f := uAt us) (v := (i : Int)) hpi
                have hsk := hso _ (List.mem_of_getElem? hpi)
                unfold StepOk at hsk
                dsimp only at hsk
                refine wpAny_letOwnedTupleGo_listiter ⟨oJ, (N34 _ (.head _)).1, hobJ.1, hobJ.2⟩ ?_
                refine assign_pairK (L := s1.heap.objs.size) rfl rfl F34 N34 (.tail _ (.tail _ (.tail _ (.tail _ (.tail _ (.tail _ (.tail _ (.tail _ (.tail _ (List.mem_append_right _ hav)))))))))) rfl rfl rfl fun h35 tk35 F35 N35 => ?_
                (try clear F34)
                (try clear N34)
                have aq4 := ap8 A33
                have f1 := aq4.1
                have A36 := aq4.2
                (try clear aq4)
                have aq5 := ap7 A36
                have k1 := aq5.1
                have A37 := aq5.2
                (try clear aq5)
                have aq6 := ap6 A37
                have g1 := aq6.1
                have g7 := aq6.2.1
                have g12 := aq6.2.2.1
                have g16 := aq6.2.2.2.1
                have g19 := aq6.2.2.2.2.1
                have g21 := aq6.2.2.2.2.2
                (try clear aq6)
                dsimp only at f1 k1 g1 g7 g12 g16 g19 g21
                k_steps
                · unfold Stop
                  rename (hg9 = (i : Int)) => hgi
                  rw [if_pos hgi] at hpt
                  refine comp_in (by with_unfolding_all rfl) (by rfl) (by decide) ?_
                  k_steps
                  unfold Stop
                  obtain ⟨au, wsu, nu, hau, hmu, hiu⟩ := hus.pick (k := lw.toNat) (by lia)
                  have huz : uvs.length ≤ 1000 := by rw [hus.length]; lia
                  have hxl : (us.getD lw.toNat []).length ≤ 6 := by
                    have h1 := hut lw.toNat (by lia)
                    rw [show ((lw.toNat : Nat) : Int) = lw from by lia] at h1
                    exact h1.len hps hksn hks ((hks lw).mpr (by lia))
                  refine item_atK (vs := uvs) (k := lw.toNat) N35 (.tail _ (.tail _ (.tail _ (.head _)))) (by lia) hau huz ?_
                  have hmu' : (au, listOf wsu.toArray nu) ∈ rls ++ BB := List.mem_append_left _ hmu
                  refine comp_pick (fun k => !rxs.contains k) (by decide) (by rfl) (by rfl) rfl (Nat.le_trans hxl (by decide)) F35 N35 (.tail _ (.tail _ (.tail _ (.tail _ (.tail _ (.tail _ (.tail _ (.tail _ (.tail _ hmu'))))))))) hiu ?_ ?_ ?_
                  · intro I2 C2 D2 v2 t2 ys2 oI2 oC2 m2 h36 tk36 E2 hv2 hns2 hm2 F36 N36
                    (try clear F35)
                    (try clear N35)
                    k_steps
                    exact PickEnd.intro rfl F36 N36 (fun q hq => hq)
                  · intro I2 C2 D2 v2 t2 ys2 oI2 oC2 m2 h36 tk36 E2 hns2 hm2 F36 N36 Q' hQ'
                    exact PySem.W.LCgL.ld_own N36 (.tail _ (.head _)) hns2 hm2 hQ'
                  · intro D2 ys2 h36 tk36 hi36 F36 N36 hD36
                    (try clear F35)
                    (try clear N35)
                    k_steps
                    unfold Stop
                    have hfl := List.length_filter_le (fun k => !rxs.contains k) (us.getD lw.toNat [])
                    have hrxl : rxs.length ≤ 100 := by
                      have h1 := fold_len (c := 6) (predRows (prs.take j) (uAt us) i) [(i : Int)] fun xs hxs => hrlU xs (by
                        obtain ⟨z, hz, e⟩ := List.mem_map.mp hxs
                        obtain ⟨hz1, hz2⟩ := List.mem_filter.mp hz
                        exact List.mem_map.mpr ⟨z, List.mem_filter.mpr ⟨List.mem_of_mem_take hz1, hz2⟩, e⟩)
                      have h2 : (predRows (prs.take j) (uAt us) i).length ≤ 11 := by
                        unfold predRows
                        rw [List.length_map]
                        refine Nat.le_trans (List.length_filter_le _ _) ?_
                        rw [List.length_take]; lia
                      rw [← hrx, List.length_singleton] at h1
                      lia
                    refine add_listK F36 N36 (.tail _ (.tail _ (.tail _ (.head _)))) (.head _) hrv hi36 (by lia) fun S37 h37 hS37 F37 N37 lt37 hi37 => ?_
                    have N38 : News T0.heap s1.heap.objs.size h37 ((S37, listOf (rvs ++ ys2).toArray 0) :: (J, oJ) :: (I, oI) :: ledU ul s1.heap.objs.size uvs kU d1 d2 o30 oc5 c6'' (rls ++ BB)) := by
                      intro z hz
                      refine N37 z ?_
                      rcases List.mem_cons.mp hz with rfl | hz
                      · exact .head _
                      rcases List.mem_cons.mp hz with rfl | hz
                      · exact .tail _ (.tail _ (.head _))
                      rcases List.mem_cons.mp hz with rfl | hz
                      · exact .tail _ (.tail _ (.tail _ (.head _)))
                      · exact .tail _ (.tail _ (.tail _ (.tail _ (.tail _ hz))))
                    have q1 : @Ne Nat S37 (s1.heap.objs.size + 1 + 1 + 1 + 1 + 1 + 1) := Nat.ne_of_gt (lt37 _ (.tail _ (.tail _ (.tail _ (.tail _ (.tail _ (.tail _ (.tail _ (.tail _ (.tail _ (.head _)))))))))))
                    have q2 : @Ne Nat J (s1.heap.objs.size + 1 + 1 + 1 + 1 + 1 + 1) := Ne.symm (hJ _ (.tail _ (.tail _ (.tail _ (.tail _ (.tail _ (.tail _ (.tail _ (.head _)))))))))
                    (try clear N37)
                    (try clear F36)
                    k_steps
                    rename Fr _ _ _ _ => F39
                    rename News _ _ _ _ => N39
                    rename (_ = Data.cell (some (Value.ref S37))) => d39
                    rename_i o39
                    have A39 : Ap ((I, oI) :: (S37, listOf (rvs ++ ys2).toArray 0) :: ledU ul s1.heap.objs.size uvs kU d1 d2 o30 oc5 o39 (rls ++ BB)) :=
                      Ap.perm (List.Perm.swap _ _ _) (Ap.fresh (p := (S37, listOf (rvs ++ ys2).toArray 0)) (l := (I, oI) :: ledU ul s1.heap.objs.size uvs kU d1 d2 o30 oc5 o39 (rls ++ BB)) (fun z hz => ?_) (Ap.same (l := (I, oI) :: ledU ul s1.heap.objs.size uvs kU d1 d2 o30 oc5 c6'' (rls ++ BB)) rfl (Ap.perm (List.Perm.swap _ _ _) A33).tail))
                    · subst hRR6
                      refine ForEndN.intro (Lw6.mk o39 S37 (rvs ++ ys2) 0 (rxs ++ (us.getD lw.toNat []).filter fun k => !rxs.contains k) (some (.int lw tl9)) (some (.int hg9 th9))) hobJ F39 (News.perm N39 (perm_j _ _ _ _)) (ovr_pair (by decide) _) ?_ ⟨A39, d39, hi37, ?_⟩ _ (.inl rfl)
                      · intro z hz
                        rcases List.mem_cons.mp hz with rfl | hz
                        · exact hJ _ (.head _)
                        rcases List.mem_cons.mp hz with rfl | hz
                        · exact Nat.ne_of_gt (lt37 _ (.tail _ (.head _)))
                        · have h1 : ∃ o, (z.1, o) ∈ ledU ul s1.heap.objs.size uvs kU d1 d2 o30 oc5 c6'' (rls ++ BB) := by
                            simp only [List.mem_cons] at hz ⊢
                            rcases hz with rfl | rfl | rfl | rfl | rfl | rfl | hz
                            · exact ⟨_, .inl rfl⟩
                            · exact ⟨_, .inr (.inl rfl)⟩
                            · exact ⟨_, .inr (.inr (.inl rfl))⟩
                            · exact ⟨_, .inr (.inr (.inr (.inl rfl)))⟩
                            · exact ⟨_, .inr (.inr (.inr (.inr (.inl rfl))))⟩
                            · exact ⟨c6'', .inr (.inr (.inr (.inr (.inr (.inl rfl)))))⟩
                            · exact ⟨z.2, .inr (.inr (.inr (.inr (.inr (.inr hz)))))⟩
                          obtain ⟨o, ho⟩ := h1
                          exact hJ (z.1, o) (.tail _ (.tail _ ho))
                      · dsimp only
                        rw [hpt, List.foldl_append, ← hrx]
                        rfl
                    · rcases List.mem_cons.mp hz with rfl | hz
                      · exact lt37 _ (.tail _ (.tail _ (.head _)))
                      · have h1 : ∃ o, (z.1, o) ∈ ledU ul s1.heap.objs.size uvs kU d1 d2 o30 oc5 c6'' (rls ++ BB) := by
                          simp only [List.mem_cons] at hz ⊢
                          rcases hz with rfl | rfl | rfl | rfl | rfl | rfl | hz
                          · exact ⟨_, .inl rfl⟩
                          · exact ⟨_, .inr (.inl rfl)⟩
                          · exact ⟨_, .inr (.inr (.inl rfl))⟩
                          · exact ⟨_, .inr (.inr (.inr (.inl rfl)))⟩
                          · exact ⟨_, .inr (.inr (.inr (.inr (.inl rfl))))⟩
                          · exact ⟨c6'', .inr (.inr (.inr (.inr (.inr (.inl rfl)))))⟩
                          · exact ⟨z.2, .inr (.inr (.inr (.inr (.inr (.inr hz)))))⟩
                        obtain ⟨o, ho⟩ := h1
                        exact lt37 (z.1, o) (.tail _ (.tail _ (.tail _ (.tail _ ho))))
                · rename (hg9 ≠ (i : Int)) => hgi
                  rw [if_neg hgi, List.append_nil] at hpt
                  subst hRR6
                  refine ForEndN.intro (Lw6.mk c6'' rl rvs kR rxs (some (.int lw tl9)) (some (.int hg9 th9))) hobJ F35 N35 (ovr_pair (by decide) _) hJ ⟨A33, hc6, hrv, by rw [hpt]; exact hrx⟩ _ (.inl rfl)
              · rintro ⟨c6'', rl, rvs, kR, rxs, lo'', hi''⟩ h40 tk40 ⟨A40, hc6, hrv, hrx⟩ F40 N40
                (try clear F32)
                (try clear N33)
                (try clear A32)
                (try clear d32)
                dsimp only at A40 hc6 hrv hrx F40 N40
                rw [List.size_toArray, hprl, List.take_length] at hrx
                have hrow : Tells prs (i : Int) rxs := by
                  rw [hrx]
                  refine rowOf_tells fun z hz hz2 => ?_
                  have hz3 := hso z hz
                  unfold StepOk at hz3
                  have h1 := hut z.1.toNat (by lia)
                  rw [show ((z.1.toNat : Nat) : Int) = z.1 from by lia] at h1
                  exact h1
                have hrxl := hrow.len hps hksn hks ((hks _).mpr (by lia))
                have aq7 := ap8 A40
                have f1 := aq7.1
                have A41 := aq7.2
                (try clear aq7)
                have aq8 := ap7 A41
                have k1 := aq8.1
                have A42 := aq8.2
                (try clear aq8)
                have aq9 := ap6 A42
                have g1 := aq9.1
                have g7 := aq9.2.1
                have g12 := aq9.2.2.1
                have g16 := aq9.2.2.2.1
                have g19 := aq9.2.2.2.2.1
                have g21 := aq9.2.2.2.2.2
                (try clear aq9)
                dsimp only at f1 k1 g1 g7 g12 g16 g19 g21
                have hzU : uvs.toArray.size ≤ sizeLine := by
                  rw [List.size_toArray, hus.length, sizeLine_eq]; lia
                have hmb4' : (s1.heap.objs.size + 1 + 1 + 1 + 1, cb) ∈ rls ++ BB := List.mem_append_right _ hmb4
                have hmbd' : (bd, obW) ∈ rls ++ BB := List.mem_append_right _ hmbd
                obtain ⟨ra, rws, rk, hva, hma, hia, hta⟩ := hmrow (i : Int) (by lia) (by lia)
                have hma' : (ra, listOf rws.toArray rk) ∈ rls ++ BB := List.mem_append_right _ hma
                have htl := hta.len hps hksn hks ((hks _).mpr (by lia))
                k_steps
                unfold Stop
                rename_i h43 F43 N43
                rw [show uvs.toArray.push (Value.ref rl) = (uvs ++ [Value.ref rl]).toArray from by simp] at N43
                refine kda_item (knd := PySem.intKind _ _) N43 (.tail _ (.tail _ (.tail _ (.tail _ (.tail _ (.tail _ (.tail _ (.tail _ hmbd')))))))) hdb (intKind_is _ _ _ _) hva ?_
                k_steps
                unfold Stop
                refine sortedK F43 N43 (.tail _ (.tail _ (.tail _ (.tail _ (.tail _ (.tail _ (.tail _ (.tail _ hma')))))))) hia (by lia) fun l44 vs44 ns44 c44 h44 F44 N44 lt44 hi44 hp44 => ?_
                (try clear F43)
                (try clear N43)
                k_steps
                unfold Stop
                refine sortedK F44 N44 (.tail _ (.tail _ (.head _))) hrv (by lia) fun l45 vs45 ns45 c45 h45 F45 N45 lt45 hi45 hp45 => ?_
                (try clear F44)
                (try clear N44)
                have he45 := sorted_same hta.1 hrow.1 (fun z => (hta.2 z).trans (hrow.2 z).symm) hp44 hp45
                subst he45
                k_steps
                unfold Stop
                refine neK N45 (.tail _ (.head _)) (.head _) hi44 hi45 (by ke_room) ?_
                rw [show (!decide (ns44 = ns44)) = false from by simp]
                k_steps
                rename Fr _ _ _ _ => F46
                rename News _ _ _ _ => N46
                have A47 : Ap ((I, oI) :: ledU ul s1.heap.objs.size (uvs ++ [Value.ref rl]) (kU + 1) d1 d2 o30 oc5 c6'' ((rl, listOf rvs.toArray kR) :: rls ++ BB)) :=
                  Ap.perm ((perm_k (rl, listOf rvs.toArray kR) (ul, listOf (uvs ++ [Value.ref rl]).toArray (kU + 1)) _ _ _ _ _ (rls ++ BB)).cons (I, oI)) (Ap.same (l := (I, oI) :: (rl, listOf rvs.toArray kR) :: ledU ul s1.heap.objs.size uvs kU d1 d2 o30 oc5 c6'' (rls ++ BB)) rfl A40)
                have N47 : News T0.heap s1.heap.objs.size h45 ((I, oI) :: ledU ul s1.heap.objs.size (uvs ++ [Value.ref rl]) (kU + 1) d1 d2 o30 oc5 c6'' ((rl, listOf rvs.toArray kR) :: rls ++ BB)) :=
                  News.perm (fun z hz => N46 z (.tail _ (.tail _ hz)) : News T0.heap s1.heap.objs.size h45 ((I, oI) :: (rl, listOf rvs.toArray kR) :: ledU ul s1.heap.objs.size (uvs ++ [Value.ref rl]) (kU + 1) d1 d2 o30 oc5 c6'' (rls ++ BB))) ((perm_k (rl, listOf rvs.toArray kR) (ul, listOf (uvs ++ [Value.ref rl]).toArray (kU + 1)) _ _ _ _ _ (rls ++ BB)).cons (I, oI))
                subst hRR5
                refine ForEndN.intro (Lw5.mk o30 c6'' (kU + 1) (uvs ++ [Value.ref rl]) ((rl, listOf rvs.toArray kR) :: rls) (us ++ [rxs]) lo'' hi'') hob29 F46 N47 (ovr_twice _) A47.head ⟨A47.tail, (hus.mono fun z hz => .tail _ hz).snoc (.head _) hrv, ?_, ?_, ⟨_, d30⟩, ⟨_, hc6⟩⟩ _ (.inl rfl)
                · dsimp only
                  rw [List.length_append, List.length_singleton, hul]
                · intro z hz
                  dsimp only
                  by_cases hzi : z < i
                  · rw [List.getD_eq_getElem?_getD, List.getElem?_append_left (by lia), ← List.getD_eq_getElem?_getD]
                    exact hut z hzi
                  · have hzi2 : z = us.length := by lia
                    rw [hzi2, List.getD_eq_getElem?_getD, List.getElem?_append_right (Nat.le_refl _), Nat.sub_self]
                    show Tells prs _ rxs
                    rw [hul]
                    exact hrow
            · rintro ⟨c3', c6', kU, uvs, rls, us, loU, hiU⟩ h50 tk50 ⟨A50, hus, hul, hut, hc3, hc6⟩ F50 N50
              (try clear F28)
              (try clear N28)
              (try clear A28)
              (try clear hcn3)
              (try clear hd6)
              (try clear hr28)
              dsimp only at A50 hus hul hut hc3 hc6 F50 N50
              have P51 := perm_l (ul, listOf uvs.toArray kU) (s1.heap.objs.size + 1, d1) (s1.heap.objs.size + 1 + 1, d2) (s1.heap.objs.size + 1 + 1 + 1, c3') (s1.heap.objs.size + 1 + 1 + 1 + 1 + 1, oc5) (s1.heap.objs.size + 1 + 1 + 1 + 1 + 1 + 1, c6') (rls ++ BB)
              have N51 : News T0.heap s1.heap.objs.size h50 (ledP ul s1.heap.objs.size uvs kU oc5 d1 d2 c3' (rls ++ BB)) := fun z hz => N50 z (P51.mem_iff.mpr (.tail _ hz))
              have A51 : Ap (ledP ul s1.heap.objs.size uvs kU oc5 d1 d2 c3' (rls ++ BB)) := (Ap.perm P51 A50).tail
              obtain ⟨BP, hBP⟩ : ∃ BP, BP = rls ++ BB := ⟨_, rfl⟩
              rw [← hBP] at N51 A51
              have hm4 : (s1.heap.objs.size + 1 + 1 + 1 + 1, cb) ∈ BP := by rw [hBP]; exact List.mem_append_right _ hmb4
              have hmd : (bd, obW) ∈ BP := by rw [hBP]; exact List.mem_append_right _ hmbd
              have hmo : (ol, listOf ows.toArray kO) ∈ BP := by rw [hBP]; exact List.mem_append_right _ hmol
              have hB : ∀ k : Nat, k < 6 → ∃ ra rws rk, valueAt kvs (k : Int) = some (.ref ra) ∧ (ra, listOf rws.toArray rk) ∈ BP ∧ IntsAre rws (look bl k) ∧ Tells prs k (look bl k) ∧ (look bl k).length ≤ 6 := fun k hk => by
                obtain ⟨ra, rws, rk, a1, a2, a3, a4⟩ := hmrow k (by lia) (by lia)
                exact ⟨ra, rws, rk, a1, by rw [hBP]; exact List.mem_append_right _ a2, a3, a4, a4.len hps hksn hks ((hks _).mpr (by lia))⟩
              have hU : ∀ k : Nat, k < 6 → ∃ a ws n, uvs[k]? = some (.ref a) ∧ (a, listOf ws.toArray n) ∈ BP ∧ IntsAre ws (us.getD k []) ∧ Tells prs k (us.getD k []) := fun k hk => by
                obtain ⟨a, ws, n, a1, a2, a3⟩ := hus.pick (k := k) (by lia)
                exact ⟨a, ws, n, a1, by rw [hBP]; exact List.mem_append_left _ a2, a3, hut k hk⟩
              have huz : uvs.length ≤ 1000 := by rw [hus.length]; lia
              (try clear mkX)
              (try clear N50)
              (try clear A50)
              (try clear P51)
              (try clear hBP)
              (try clear hmrow)
              (try clear hus)
              (try clear hut)
              (try clear hmb4)
              (try clear hmbd)
              (try clear hmol)
              (try clear hmls)
              (try clear hmps)
              k_steps
              rename Fr _ _ _ _ => F52
              rename News _ _ _ _ => N52
              rename IsRange _ _ _ _ _ _ _ _ => hr52
              have hc1 : ∃ z, d1.data = .cell z := ⟨_, hd1⟩
              have hc2 : ∃ z, d2.data = .cell z := ⟨_, hd2⟩
              refine forAtN_range (σ := Lw7) (n := 6) (fun st => [(Str.ofString "both", st.vb), (Str.ofString "some", st.vs), (Str.ofString "rest", st.vr)]) (fun st => ledP ul s1.heap.objs.size uvs kU oc5 st.c1 st.c2 st.c3 BP)
                (fun i st => Ap (ledP ul s1.heap.objs.size uvs kU oc5 st.c1 st.c2 st.c3 BP) ∧ (∃ z, st.c1.data = .cell z) ∧ (∃ z, st.c2.data = .cell z) ∧ ∃ z, st.c3.data = .cell z)
                ⟨d1, d2, c3', ?vb0, ?vs0, ?vr0⟩ rfl F52 N52 hr52 (by decide) (by decide) ?_ (fun q hq => hq) ⟨A51, hc1, hc2, hc3⟩ ?_ ?_
              rotate_left 3
              · intro q hq
                rcases List.mem_cons.mp hq with rfl | hq
                · rfl
                rcases List.mem_cons.mp hq with rfl | hq
                · rfl
                · rw [List.mem_singleton.mp hq]; rfl
              · rintro I i t ⟨c1o, c2o, c3o, vbo, vso, vro⟩ oI h53 tk53 hi6 ⟨A53, ⟨z1, hz1⟩, ⟨z2, hz2⟩, ⟨z3, hz3⟩⟩ hI hobI F53 N53
                generalize hRR7 : ForEndN _ _ _ _ _ _ _ _ _ _ _ = RR7
                (try clear F52)
                (try clear N52)
                (try clear A51)
                (try clear hr52)
                dsimp only at A53 hz1 hz2 hz3 hI F53 N53
                have aq1 := ap6 (Ap.cons (p := (I, oI)) hI A53)
                have f1 := aq1.1
                have g1 := aq1.2.1
                have g6 := aq1.2.2.1
                have g10 := aq1.2.2.2.1
                have g13 := aq1.2.2.2.2.1
                have g15 := aq1.2.2.2.2.2
                (try clear aq1)
                dsimp only at f1 g1 g6 g10 g13 g15
                rw [Int.zero_add] at *
                have hin0 : (0 : Int) ≤ (i : Int) := by lia
                have hin1 : (i : Int) < 6 := by lia
                refine wpAny_pure (a := ()) ?_
                refine wpAny_assign_Name ?_
                k_steps
                rename_i h54 o54 _ _ d54 h55 _ _ _ _ hr55 F55 N55 _
                have A55 : Ap ((I, oI) :: ledP ul s1.heap.objs.size uvs kU oc5 o54 c2o c3o BP) := Ap.same (l := (I, oI) :: ledP ul s1.heap.objs.size uvs kU oc5 c1o c2o c3o BP) rfl (Ap.cons (p := (I, oI)) hI A53)
                (try clear f1)
                (try clear g1)
                (try clear g6)
                (try clear g10)
                (try clear g13)
                (try clear g15)
                (try clear hz1)
                refine forAtN_range (σ := Lw7) (n := i) (fun st => [(Str.ofString "both", st.vb), (Str.ofString "some", st.vs), (Str.ofString "rest", st.vr)]) (fun st => (I, oI) :: ledP ul s1.heap.objs.size uvs kU oc5 o54 st.c2 st.c3 BP)
                  (fun j st => Ap ((I, oI) :: ledP ul s1.heap.objs.size uvs kU oc5 o54 st.c2 st.c3 BP) ∧ (∃ z, st.c2.data = .cell z) ∧ ∃ z, st.c3.data = .cell z)
                  ⟨o54, c2o, c3o, vbo, vso, vro⟩ rfl F55 N55 hr55 (small_one (by decide) (by decide) (by lia) (by lia)) ?_ ?_ (fun q hq => hq) ⟨A55, ⟨z2, hz2⟩, ⟨z3, hz3⟩⟩ ?_ ?_
                · have h1 := rangeSize_nat 0 i
                  simpa using h1
                · intro q hq
                  rcases List.mem_cons.mp hq with rfl | hq
                  · rfl
                  rcases List.mem_cons.mp hq with rfl | hq
                  · rfl
                  · rw [List.mem_singleton.mp hq]; rfl
                · rintro J j tJ ⟨c1p, c2p, c3p, vbp, vsp, vrp⟩ oJ h56 tk56 hji ⟨A56, ⟨z5, hzc5⟩, ⟨z6, hzc6⟩⟩ hJ hobJ F56 N56
                  generalize hRR8 : ForEndN _ _ _ _ _ _ _ _ _ _ _ = RR8
                  (try clear F55)
                  (try clear N55)
                  (try clear A55)
                  (try clear hr55)
                  (try clear hz2)
                  (try clear hz3)
                  dsimp only at A56 hzc5 hzc6 hJ F56 N56
                  rw [Int.zero_add] at *
                  obtain ⟨ra1, rw1, rk1, hva1, hma1, hia1, hta1, hl1⟩ := hB i hi6
                  obtain ⟨ra2, rw2, rk2, hva2, hma2, hia2, hta2, hl2⟩ := hB j (by lia)
                  obtain ⟨ru1, uw1, uk1, hvu1, hmu1, hiu1, htu1⟩ := hU i hi6
                  obtain ⟨ru2, uw2, uk2, hvu2, hmu2, hiu2, htu2⟩ := hU j (by lia)
                  have aq1 := ap7 (Ap.cons (p := (J, oJ)) hJ A56)
                  have f1 := aq1.1
                  have A57 := aq1.2
                  (try clear aq1)
                  have aq2 := ap6 A57
                  have g1 := aq2.1
                  have g7 := aq2.2.1
                  have g12 := aq2.2.2.1
                  have g16 := aq2.2.2.2.1
                  have g19 := aq2.2.2.2.2.1
                  have g21 := aq2.2.2.2.2.2
                  (try clear aq2)
                  dsimp only at f1 g1 g7 g12 g16 g19 g21
                  refine wpAny_pure (a := ()) ?_
                  refine wpAny_assign_Name ?_
                  k_steps
                  unfold Stop
                  rename_i h58 o58 F58 N58 d58
                  have A58 : Ap ((J, oJ) :: (I, oI) :: ledP ul s1.heap.objs.size uvs kU oc5 o54 o58 c3p BP) := Ap.same (l := (J, oJ) :: (I, oI) :: ledP ul s1.heap.objs.size uvs kU oc5 o54 c2p c3p BP) rfl (Ap.cons (p := (J, oJ)) hJ A56)
                  (try clear f1)
                  (try clear g1)
                  (try clear g7)
                  (try clear g12)
                  (try clear g16)
                  (try clear g19)
                  (try clear g21)
                  (try clear A57)
                  (try clear A56)
                  (try clear hJ)
                  (try clear hzc5)
                  have n1 : (ra1, listOf rw1.toArray rk1) ∈ (J, oJ) :: (I, oI) :: ledP ul s1.heap.objs.size uvs kU oc5 o54 o58 c3p BP := .tail _ (.tail _ (.tail _ (.tail _ (.tail _ (.tail _ (.tail _ hma1))))))
                  have n2 : (ra2, listOf rw2.toArray rk2) ∈ (J, oJ) :: (I, oI) :: ledP ul s1.heap.objs.size uvs kU oc5 o54 o58 c3p BP := .tail _ (.tail _ (.tail _ (.tail _ (.tail _ (.tail _ (.tail _ hma2))))))
                  have n3 : (ol, listOf ows.toArray kO) ∈ (J, oJ) :: (I, oI) :: ledP ul s1.heap.objs.size uvs kU oc5 o54 o58 c3p BP := .tail _ (.tail _ (.tail _ (.tail _ (.tail _ (.tail _ (.tail _ hmo))))))
                  refine filter_L B0 F58 X0 T0 N58 rfl rfl (by decide) n1 n2 hia1 hia2 (by omega) fun S1 h59 tk59 ws1 k1 lt59 F59 N59 hi59 => ?_
                  (try clear F58)
                  (try clear N58)
                  k_steps
                  unfold Stop
                  refine filter_L B0 F59 X0 T0 N59 rfl rfl (by decide) (.tail _ n1) (.head _) hia1 hi59 (by omega) fun S2 h60 tk60 ws2 k2 lt60 F60 N60 hi60 => ?_
                  (try clear F59)
                  (try clear N59)
                  rw [both_eq hta1 hta2 htu2] at hi60
                  obtain ⟨lb, hlb⟩ : ∃ lb, lb = (look bl i).filter fun k => (us.getD j []).contains k := ⟨_, rfl⟩
                  rw [← hlb] at hi60
                  have N61 : News T0.heap s1.heap.objs.size h60 ((S2, listOf ws2.toArray k2) :: (J, oJ) :: (I, oI) :: ledP ul s1.heap.objs.size uvs kU oc5 o54 o58 c3p BP) := fun z hz => N60 z (by
                    rcases List.mem_cons.mp hz with rfl | hz
                    · exact .head _
                    · exact .tail _ (.tail _ hz))
                  have lt61 : ∀ q ∈ (J, oJ) :: (I, oI) :: ledP ul s1.heap.objs.size uvs kU oc5 o54 o58 c3p BP, q.1 < S2 := fun q hq => lt60 q (.tail _ hq)
                  (try clear N60)
                  (try clear lt59)
                  (try clear lt60)
                  (try clear hi59)
                  k_steps
                  unfold Stop
                  rename Fr _ _ _ _ => F62
                  rename News _ _ _ _ => N62
                  refine comp_in (by with_unfolding_all rfl) (by rfl) (by decide) ?_
                  k_steps
                  refine comp_pick (fun k => (us.getD j []).contains k) (by decide) (by rfl) (by rfl) rfl (Nat.le_trans hl1 (by decide)) F62 N62 (.tail _ n1) hia1 ?_ ?_ ?_
                  · intro I2 C2 D2 v2 t2 ys2 oI2 oC2 m2 h63 tk63 E2 hv2 hns2 hm2 F63 N63
                    (try clear F62)
                    (try clear N62)
                    k_steps
                    exact PickEnd.intro rfl F63 N63 (fun q hq => hq)
                  · intro I2 C2 D2 v2 t2 ys2 oI2 oC2 m2 h63 tk63 E2 hns2 hm2 F63 N63 Q' hQ'
                    exact PySem.W.LCgL.ld_own N63 (.tail _ (.head _)) hns2 hm2 hQ'
                  · intro D2 ys2 h63 tk63 hi63 F63 N63 hD63
                    (try clear F62)
                    (try clear N62)
                    rw [← hlb] at hi63
                    k_steps
                    unfold Stop
                    refine neK N63 (.tail _ (.head _)) (.head _) hi60 hi63 (by ke_room) ?_
                    rw [show (!decide (lb = lb)) = false from by simp]
                    have N64 : News T0.heap s1.heap.objs.size h63 ((S2, listOf ws2.toArray k2) :: (J, oJ) :: (I, oI) :: ledP ul s1.heap.objs.size uvs kU oc5 o54 o58 c3p BP) := fun z hz => N63 z (.tail _ hz)
                    have A64 : Ap ((S2, listOf ws2.toArray k2) :: (J, oJ) :: (I, oI) :: ledP ul s1.heap.objs.size uvs kU oc5 o54 o58 c3p BP) := Ap.fresh lt61 A58
                    (try clear N63)
                    (try clear hD63)
                    (try clear lt61)
                    (try clear A58)
                    k_steps
                    rename Fr _ _ _ _ => F65
                    rename News _ _ _ _ => N65
                    have hlbl : lb.length ≤ 6 := by rw [hlb]; exact Nat.le_trans (List.length_filter_le _ _) hl1
                    refine forAtN_list (σ := Obj) (vs := ws2.toArray) (k := k2) (fun _ => []) (fun c => (S2, listOf ws2.toArray k2) :: (J, oJ) :: (I, oI) :: ledP ul s1.heap.objs.size uvs kU oc5 o54 o58 c BP)
                      (fun _ c => Ap ((S2, listOf ws2.toArray k2) :: (J, oJ) :: (I, oI) :: ledP ul s1.heap.objs.size uvs kU oc5 o54 o58 c BP) ∧ ∃ z, c.data = .cell z)
                      c3p rfl F65 N65 (.head _) (fun q hq => nomatch hq) (fun q hq => hq) (fun _ _ _ => .head _) ⟨A64, ⟨_, hzc6⟩⟩ ?_ ?_
                    · rintro K kk v c oK h66 tk66 hkk hv ⟨A66, ⟨z66, hzc66⟩⟩ hK hobK F66 N66
                      generalize hRR9 : ForEndN _ _ _ _ _ _ _ _ _ _ _ = RR9
                      (try clear F65)
                      (try clear N65)
                      (try clear A64)
                      (try clear hzc6)
                      rw [List.size_toArray, hi60.length] at hkk
                      rw [List.getElem?_toArray] at hv
                      obtain ⟨tx, htx⟩ := hi60.get kk lb[kk] (List.getElem?_eq_getElem hkk)
                      rw [htx] at hv
                      obtain rfl := Option.some.inj hv
                      have hxm : lb[kk] ∈ lb := List.getElem_mem hkk
                      generalize lb[kk] = xv at *
                      have hxl : xv ∈ look bl i := by
                        rw [hlb] at hxm
                        exact (List.mem_filter.mp hxm).1
                      have hxk := (hks xv).mp (hta1.sub hps ((hks _).mpr (by lia)) xv hxl)
                      obtain ⟨xn, rfl⟩ : ∃ xn : Nat, xv = (xn : Int) := ⟨xv.toNat, by lia⟩
                      obtain ⟨ru3, uw3, uk3, hvu3, hmu3, hiu3, htu3⟩ := hU xn (by lia)
                      have hul3 : (us.getD xn []).length ≤ 6 := htu3.len hps hksn hks ((hks _).mpr (by lia))
                      have P66 := perm_m (K, oK) (S2, listOf ws2.toArray k2) (J, oJ) (I, oI) (s1.heap.objs.size + 1, o54) (s1.heap.objs.size + 1 + 1, o58) (s1.heap.objs.size + 1 + 1 + 1, c) ((s1.heap.objs.size + 1 + 1 + 1 + 1 + 1, oc5) :: (ul, listOf uvs.toArray kU) :: BP)
                      have N67 := News.perm N66 P66
                      have A67 := (Ap.perm P66 (Ap.cons (p := (K, oK)) hK A66)).head
                      dsimp only at A67
                      (try clear N66)
                      refine wpAny_pure (a := ()) ?_
                      refine wpAny_assign_Name ?_
                      k_steps
                      unfold Stop
                      rename_i h68 o68 F68 N68 d68
                      refine filter_L B0 F68 X0 T0 N68 rfl rfl (by decide) (.tail _ (.tail _ (.tail _ (.tail _ (.tail _ (.tail _ (.tail _ (.tail _ (.tail _ hmu3))))))))) (.tail _ (.tail _ (.head _))) hiu3 hi60 (by lia) fun S3 h69 tk69 ws3 k3 lt69 F69 N69 hi69 => ?_
                      rw [hlb, both_closed hta1 htu2 htu3 (hlb ▸ hxm)] at hi69
                      (try clear F68)
                      (try clear N68)
                      k_steps
                      unfold Stop
                      rename Fr _ _ _ _ => F70
                      rename News _ _ _ _ => N70
                      refine neK N70 (.tail _ (.head _)) (.head _) hi69 .nil (by ke_room) ?_
                      rw [show (!decide (([] : List Int) = [])) = false from by simp]
                      k_steps
                      have A70 : Ap ((K, oK) :: (S2, listOf ws2.toArray k2) :: (J, oJ) :: (I, oI) :: ledP ul s1.heap.objs.size uvs kU oc5 o54 o58 o68 BP) := Ap.same (l := (K, oK) :: (S2, listOf ws2.toArray k2) :: (J, oJ) :: (I, oI) :: ledP ul s1.heap.objs.size uvs kU oc5 o54 o58 c BP) rfl (Ap.cons (p := (K, oK)) hK A66)
                      have N72 : News T0.heap s1.heap.objs.size _ ((K, oK) :: (S2, listOf ws2.toArray k2) :: (J, oJ) :: (I, oI) :: ledP ul s1.heap.objs.size uvs kU oc5 o54 o58 o68 BP) := News.perm (fun z hz => N70 z (.tail _ (.tail _ hz)) : News T0.heap s1.heap.objs.size _ ((s1.heap.objs.size + 1 + 1 + 1, o68) :: (K, oK) :: (S2, listOf ws2.toArray k2) :: (J, oJ) :: (I, oI) :: (s1.heap.objs.size + 1, o54) :: (s1.heap.objs.size + 1 + 1, o58) :: (s1.heap.objs.size + 1 + 1 + 1 + 1 + 1, oc5) :: (ul, listOf uvs.toArray kU) :: BP)) (perm_m (K, oK) (S2, listOf ws2.toArray k2) (J, oJ) (I, oI) (s1.heap.objs.size + 1, o54) (s1.heap.objs.size + 1 + 1, o58) (s1.heap.objs.size + 1 + 1 + 1, o68) ((s1.heap.objs.size + 1 + 1 + 1 + 1 + 1, oc5) :: (ul, listOf uvs.toArray kU) :: BP)).symm
                      subst hRR9
                      exact ForEndN.intro o68 hobK F70 N72 (fun _ => rfl) A70.head ⟨A70.tail, ⟨_, d68⟩⟩ _ (.inl rfl)
                    · rintro c66 h66 tk66 ⟨A66, hz66⟩ F66 N66
                      (try clear F65)
                      (try clear N65)
                      (try clear A64)
                      (try clear hzc6)
                      have n4 : ∀ z ∈ BP, z ∈ (S2, listOf ws2.toArray k2) :: (J, oJ) :: (I, oI) :: ledP ul s1.heap.objs.size uvs kU oc5 o54 o58 c66 BP := fun z hz => .tail _ (.tail _ (.tail _ (.tail _ (.tail _ (.tail _ (.tail _ (.tail _ hz)))))))
                      k_steps
                      unfold Stop
                      refine join_L B0 F66 X0 T0 N66 rfl rfl (by decide) (n4 _ hma1) (n4 _ hma2) hia1 hia2 (by lia) (by lia) fun S4 h67 tk67 ws4 k4 lt67 F67 N67 hi67 => ?_
                      (try clear F66)
                      (try clear N66)
                      k_steps
                      unfold Stop
                      rename Fr _ _ _ _ => F68
                      rename News _ _ _ _ => N68
                      refine filter_L B0 F68 X0 T0 N68 rfl rfl (by decide) (.tail _ (n4 _ hmo)) (.head _) hows hi67 (by lia) fun S5 h69 tk69 ws5 k5 lt69 F69 N69 hi69 => ?_
                      (try clear F68)
                      (try clear N68)
                      obtain ⟨lr, hlr⟩ : ∃ lr, lr = O.filter fun k => !(joinF (look bl i) (look bl j)).contains k := ⟨_, rfl⟩
                      rw [← hlr] at hi69
                      k_steps
                      unfold Stop
                      rename Fr _ _ _ _ => F70
                      rename News _ _ _ _ => N70
                      refine filter_L B0 F70 X0 T0 N70 rfl rfl (by decide) (.tail _ (.tail _ (n4 _ hmo))) (.tail _ (.tail _ (n4 _ hma2))) hows hia2 (by lia) fun S6 h71 tk71 ws6 k6 lt71 F71 N71 hi71 => ?_
                      (try clear F70)
                      (try clear N70)
                      have hl71 := List.length_filter_le (fun k => !(look bl (j : Int)).contains k) O
                      k_steps
                      unfold Stop
                      refine filter_L B0 F71 X0 T0 N71 rfl rfl (by decide) (.head _) (.tail _ (.tail _ (.tail _ (n4 _ hma1)))) hi71 hia1 (by lia) fun S7 h72 tk72 ws7 k7 lt72 F72 N72 hi72 => ?_
                      (try clear F71)
                      (try clear N71)
                      rw [← rest_eq, ← hlr] at hi72
                      k_steps
                      unfold Stop
                      refine neK N72 (.tail _ (.tail _ (.head _))) (.head _) hi69 hi72 (by ke_room) ?_
                      rw [show (!decide (lr = lr)) = false from by simp]
                      have N73 : News T0.heap s1.heap.objs.size h72 ((S5, listOf ws5.toArray k5) :: (S4, listOf ws4.toArray k4) :: (S2, listOf ws2.toArray k2) :: (J, oJ) :: (I, oI) :: ledP ul s1.heap.objs.size uvs kU oc5 o54 o58 c66 BP) := fun z hz => N72 z (.tail _ (.tail _ hz))
                      (try clear N72)
                      (try clear hl71)
                      have hle := len_eq hta1 hta2 htu2
                      rw [← hlb] at hle
                      have hl4 := hi67.length
                      have hl2' := hi60.length
                      have hr1 := hia1.length
                      have hr2 := hia2.length
                      have hz4 : ws4.length ≤ sizeLine := by rw [sizeLine_eq]; lia
                      have hz2 : ws2.length ≤ sizeLine := by rw [sizeLine_eq]; lia
                      have hzr1 : rw1.length ≤ sizeLine := by rw [sizeLine_eq]; lia
                      have hzr2 : rw2.length ≤ sizeLine := by rw [sizeLine_eq]; lia
                      have hlen : (ws4.length : Int) + (ws2.length : Int) = (rw1.length : Int) + (rw2.length : Int) := by lia
                      k_steps
                      · exact absurd hlen (by assumption)
                      unfold Stop
                      refine comp_in (by with_unfolding_all rfl) (by rfl) (by decide) ?_
                      k_steps
                      refine comp_pick (fun k => !(us.getD i []).contains k && !(us.getD j []).contains k) (by decide) (by rfl) (by rfl) rfl (by lia) F72 N73 (.tail _ (.tail _ (n4 _ hmo))) hows ?_ ?_ ?_
                      · intro I2 C2 D3 v2 t2 ys3 oI2 oC2 m2 h73 tk73 E2 hv2 hns2 hm2 F73 N74
                        (try clear F72)
                        (try clear N73)
                        k_steps
                        · have q1 : (us.getD i []).contains v2 = true := by assumption
                          exact PickEnd.intro (by rw [q1]; rfl) F73 N74 (fun q hq => hq)
                        · have q1 : (us.getD i []).contains v2 = false := by assumption
                          have q2 : (us.getD j []).contains v2 = true := by assumption
                          exact PickEnd.intro (by rw [q1, q2]; rfl) F73 N74 (fun q hq => hq)
                        · have q1 : (us.getD i []).contains v2 = false := by assumption
                          have q2 : (us.getD j []).contains v2 = false := by assumption
                          exact PickEnd.intro (by rw [q1, q2]; rfl) F73 N74 (fun q hq => hq)
                      · intro I2 C2 D3 v2 t2 ys3 oI2 oC2 m2 h73 tk73 E2 hns2 hm2 F73 N74 Q' hQ'
                        exact PySem.W.LCgL.ld_own N74 (.tail _ (.head _)) hns2 hm2 hQ'
                      · intro D3 ys3 h73 tk73 hi73 F73 N74 hD73
                        (try clear F72)
                        (try clear N73)
                        rw [← rest_under O hta1 hta2 htu1 htu2, ← hlr] at hi73
                        k_steps
                        unfold Stop
                        refine neK N74 (.tail _ (.head _)) (.head _) hi69 hi73 (by ke_room) ?_
                        rw [show (!decide (lr = lr)) = false from by simp]
                        have N75 : News T0.heap s1.heap.objs.size h73 ((J, oJ) :: (I, oI) :: ledP ul s1.heap.objs.size uvs kU oc5 o54 o58 c66 BP) := fun z hz => N74 z (.tail _ (.tail _ (.tail _ (.tail _ hz))))
                        (try clear N74)
                        k_steps
                        rename Fr _ _ _ _ => F76
                        rename News _ _ _ _ => N76
                        subst hRR8
                        exact ForEndN.intro (Lw7.mk o54 o58 c66 (some (.ref S2)) (some (.ref S4)) (some (.ref S5))) hobJ F76 N76 (fun y => ovr_set3 (by decide) (by decide) (by decide) _ y) A66.tail.head ⟨A66.tail.tail, ⟨_, d58⟩, hz66⟩ _ (.inl rfl)
                · rintro ⟨c1p, c2p, c3p, vbp, vsp, vrp⟩ h56 tk56 ⟨A56, hzc5, hzc6⟩ F56 N56
                  (try clear F55)
                  (try clear N55)
                  (try clear A55)
                  (try clear hr55)
                  dsimp only at A56 hzc5 hzc6 F56 N56
                  k_steps
                  rename Fr _ _ _ _ => F57
                  rename News _ _ _ _ => N57
                  subst hRR7
                  exact ForEndN.intro (Lw7.mk o54 c2p c3p vbp vsp vrp) hobI F57 N57 (ovr_three _) A56.head ⟨A56.tail, ⟨_, d54⟩, hzc5, hzc6⟩ _ (.inl rfl)
              · rintro ⟨c1o, c2o, c3o, vbo, vso, vro⟩ h53 tk53 ⟨A53, _, _, _⟩ F53 N53
                k_steps
                exact hfin _ _ _ F53
          · have hb : (!decide (W = [])) = true := by simp [hW]
            rw [hb]
            show wpAny _ _ _ _ _ _
            have N3 : News T0.heap s1.heap.objs.size _ (_ :: _) := fun q hq => N2 q (.tail _ hq)
            have hOl : O.length + W.length ≤ 6 := by
              rw [← List.length_append]
              exact Nat.le_trans (nodup_len hiv.nod fun k hk => ((hiv.out k).mp hk).1) (ks_len hksn hks)
            have hWl : 0 < W.length := List.length_pos_iff.mpr hW
            have hzO : ows.length ≤ sizeLine := by rw [hows.length, sizeLine_eq]; lia
            have hzW : wvs.length ≤ sizeLine := by rw [hwvs.length, sizeLine_eq]; lia
            have hzC : ws0.length ≤ sizeLine := by rw [sizeLine_eq]; lia
            (try clear N2)
            (try clear lgl)
            (try clear F)
            k_steps
            unfold Stop
            have hcll : ws0.length = cl.length := hcl.length
            refine item_intsK (vs := ws0) (ns := cl) (k := O.length % cl.length) (by assumption) (by k_mem) hcl ?_ (Nat.mod_lt _ (by lia)) (by lia) fun tc => ?_
            · rw [hows.length, hcll, Int.fmod_eq_emod_of_nonneg _ (by lia)]
              rfl
            generalize cl.getD (O.length % cl.length) 0 = num
            have hwl1 : 1 ≤ wvs.length := by rw [hwvs.length]; exact hWl
            k_steps
            unfold Stop
            have hfm : ∃ j : Nat, (num + 1).fmod (wvs.length : Int) = (j : Int) ∧ j < W.length := by
              have h1 := Int.fmod_nonneg_of_pos (num + 1) (b := (wvs.length : Int)) (by lia)
              have h2 := Int.fmod_lt_of_pos (num + 1) (b := (wvs.length : Int)) (by lia)
              have h3 := hwvs.length
              exact ⟨((num + 1).fmod (wvs.length : Int)).toNat, by lia, by lia⟩
            obtain ⟨j, hj, hjW⟩ := hfm
            rw [hj]
            obtain ⟨p, v, q, rfl, hpl⟩ := split_at hjW
            obtain ⟨vp, tv, vq, rfl, hip, hiq, hvpl⟩ := ints_split hwvs
            refine popAtK (p := vp) (q := vq) (y := .int v tv) F1 N3 ?_ (by rw [hvpl, hpl]) (by rw [hwvs.length]; lia) fun h4 kW4 F4 N4 => ?_
            · intro q hq
              simp only [List.mem_cons] at hq
              rcases hq with rfl | rfl | rfl | rfl | hq
              · exact Ne.symm e1.1
              · exact Ne.symm e1.2.1
              · exact Ne.symm e1.2.2.1
              · exact Ne.symm e1.2.2.2.1
              · exact e1.2.2.2.2 _ (by simpa using hq)
            have hpq : IntsAre (vp ++ vq) (p ++ q) := hip.append hiq
            have hzpq : (vp ++ vq).length ≤ sizeLine := by
              rw [hpq.length, sizeLine_eq]
              rw [List.length_append, List.length_cons] at hOl
              rw [List.length_append]
              lia
            (try clear N3)
            (try clear F1)
            k_steps
            unfold Stop
            rename_i h5 o5 F5 N5 d5
            (try clear hW)
            (try clear hb)
            (try clear hwl1)
            (try clear hj)
            (try clear hjW)
            (try clear hwvs)
            (try clear hzW)
            (try clear hpl)
            (try clear hvpl)
            (try clear h4)
            (try clear num)
            (try clear tc)
            (try clear hWl)
            refine comp_in (by with_unfolding_all rfl) (by rfl) (by decide) ?_
            k_steps
            refine comp_pairs (σ := List (Addr × Obj)) (ps := prs) (fun ext => (s1.heap.objs.size + 1 + 1 + 1, o5) :: (s1.heap.objs.size + 1 + 1 + 1 + 1, cb) :: (bd, obW) :: (ext ++ ((wlW, listOf (vp ++ vq).toArray kW4) :: (ol, listOf ows.toArray kO) :: (So.led w (soW x dx d o8 t1 t2 t3 t4 D ⟨ndsW, aW, taW, bW, tbW, kDW, cn, cb, obW, kvs, ows, kO, wlW, vp ++ .int v tv :: vq, kW, bls, O, p ++ v :: q, bl⟩) ++ (D, listOf ([] : List Value).toArray kDW) :: (bls ++ R4)))))
              (fun i ys ext => ListsAre (ext ++ bls) ys (predRows (prs.take i) (look bl) v)) [] (by decide) (by rfl) (by rfl) (by rfl) (by decide) rfl (by lia) F5 N5 (.tail _ (.tail _ (.tail _ (.tail _ (.tail _ (.tail _ (.tail _ (.tail _ hls)))))))) ?_ ?_ .nil ?_ ?_
            · intro r hr
              rcases List.mem_cons.mp hr with rfl | hr
              · exact .tail _ (.head _)
              · rcases List.mem_cons.mp hr with rfl | hr
                · exact .tail _ (.tail _ (.head _))
                · rcases List.mem_cons.mp hr with rfl | hr
                  · exact .tail _ (.tail _ (.tail _ (.head _)))
                  · rcases List.mem_cons.mp hr with rfl | hr
                    · exact .head _
                    · exact .tail _ (.tail _ (.tail _ (.tail _ hr)))
            · intro i ys ext _
              have hsub : ∀ r ∈ R4, r ∈ (s1.heap.objs.size + 1 + 1 + 1, o5) :: (s1.heap.objs.size + 1 + 1 + 1 + 1, cb) :: (bd, obW) :: (ext ++ ((wlW, listOf (vp ++ vq).toArray kW4) :: (ol, listOf ows.toArray kO) :: (So.led w (soW x dx d o8 t1 t2 t3 t4 D ⟨ndsW, aW, taW, bW, tbW, kDW, cn, cb, obW, kvs, ows, kO, wlW, vp ++ .int v tv :: vq, kW, bls, O, p ++ v :: q, bl⟩) ++ (D, listOf ([] : List Value).toArray kDW) :: (bls ++ R4)))) :=
                fun r hr => .tail _ (.tail _ (.tail _ (List.mem_append_right _ (.tail _ (.tail _ (List.mem_append_right _ (.tail _ (List.mem_append_right _ hr))))))))
              exact ⟨hsub _ (by rw [hR4]; exact .head _), hp.mono fun r hr => hsub _ (by rw [hR4]; exact .tail _ (.tail _ (.tail _ (.tail _ (.tail _ (.tail _ hr))))))⟩
            · intro I C DD i lw hg ti tu ext ys oI oC m₂ hh6 tk6 E' hpi hP hob hns hma hmb F6 N6 ap6' hIC hID hCD
              (try clear F5)
              (try clear N5)
              have hpt := predRows_take (f := look bl) (v := v) hpi
              k_steps
              · unfold Stop
                rename_i hgv _ l7 h7 F7 N7 l71
                rw [if_pos hgv] at hpt
                refine kdg_get2 (knd := PySem.intKind _ _) N7 (.tail _ (.tail _ (.tail _ (.tail _ (.tail _ (.tail _ (.head _))))))) hdb lob (intKind_is _ _ _ _) _ rfl ?_
                rcases hrows.at (i := lw) with ⟨h8, h9⟩ | ⟨ra, rws, rk, h8, h9, h10⟩
                · rw [h8]
                  refine ⟨(l7, listOf ([] : List Value).toArray 0) :: ext, oI, oC, m₂, h7, _, rfl, hob, hns, F7, fun r hr => N7 r ?_, fun r hr => ?_, ?_⟩
                  · rcases List.mem_cons.mp hr with rfl | hr
                    · exact .tail _ (.head _)
                    · rcases List.mem_cons.mp hr with rfl | hr
                      · exact .tail _ (.tail _ (.head _))
                      · rcases List.mem_cons.mp hr with rfl | hr
                        · exact .tail _ (.tail _ (.tail _ (.head _)))
                        · rcases List.mem_cons.mp hr with rfl | hr
                          · exact .tail _ (.tail _ (.tail _ (.tail _ (.head _))))
                          · rcases List.mem_cons.mp hr with rfl | hr
                            · exact .tail _ (.tail _ (.tail _ (.tail _ (.tail _ (.head _)))))
                            · rcases List.mem_cons.mp hr with rfl | hr
                              · exact .tail _ (.tail _ (.tail _ (.tail _ (.tail _ (.tail _ (.head _))))))
                              · rcases List.mem_cons.mp hr with rfl | hr
                                · exact .head _
                                · exact .tail _ (.tail _ (.tail _ (.tail _ (.tail _ (.tail _ (.tail _ hr))))))
                  · rcases List.mem_cons.mp hr with rfl | hr
                    · exact ap6' _ (.head _)
                    · rcases List.mem_cons.mp hr with rfl | hr
                      · exact ap6' _ (.tail _ (.head _))
                      · rcases List.mem_cons.mp hr with rfl | hr
                        · exact ap6' _ (.tail _ (.tail _ (.head _)))
                        · rcases List.mem_cons.mp hr with rfl | hr
                          · exact ⟨Nat.ne_of_gt l71.1, Nat.ne_of_gt l71.2.1, Nat.ne_of_gt l71.2.2.1⟩
                          · exact ap6' _ (.tail _ (.tail _ (.tail _ hr)))
                  · dsimp only
                    rw [hpt, h9]
                    exact (hP.mono fun r hr => .tail _ hr).snoc (.head _) .nil
                · rw [h8]
                  refine ⟨ext, oI, oC, m₂, h7, _, rfl, hob, hns, F7, fun r hr => N7 r (.tail _ hr), ap6', ?_⟩
                  dsimp only
                  rw [hpt]
                  exact hP.snoc (List.mem_append_right _ h9) h10
              · rename (hg ≠ v) => hgv
                rw [if_neg hgv, List.append_nil] at hpt
                refine ⟨ext, oI, oC, m₂, hh6, tk6, rfl, hob, hns, F6, N6, ap6', ?_⟩
                dsimp only
                rw [hpt]
                exact hP
            · intro DD ext ys hh6 tk6 hP F6 N6 hDD
              (try clear F5)
              (try clear N5)
              rw [hprl, List.take_length] at hP
              k_steps
              unfold Stop
              rename_i l7 h7 F7 N7 l71
              have hvk : v ∈ ks ∧ cntO prs O v = 0 := (hiv.out v).mp (List.mem_append_right _ (List.mem_append_right _ (.head _)))
              have hrl : ∀ xs ∈ predRows prs (look bl) v, xs.length ≤ 6 := by
                intro xs hxs
                obtain ⟨r, hr, rfl⟩ := List.mem_map.mp hxs
                obtain ⟨hr1, hr2⟩ := List.mem_filter.mp hr
                exact (hbw.look (cntO_zero.mp hvk.2 r hr1 (of_decide_eq_true hr2))).len hps hksn hks (hps r hr1).1
              have hpl : (predRows prs (look bl) v).length ≤ 11 := by
                unfold predRows
                rw [List.length_map]
                exact Nat.le_trans (List.length_filter_le _ _) hpr11
              refine reduce_L (ls := DD) (l0 := l7) (vs := ys) (v0 := [.int v tv]) (xss := predRows prs (look bl) v) (x0 := [v]) B0 F7 X0 T0 N7 rfl rfl (by decide) (.tail _ (.head _)) (.head _) (hP.mono fun r hr => ?_) (.cons _ _ .nil) (fun i => ?_) (fun xs hxs => Nat.le_trans (hrl xs hxs) (by decide)) fun S h8 tk8 ws n8 hS8 F8 N8 hws => ?_
              · refine .tail _ (.tail _ (.tail _ (.tail _ (.tail _ ?_))))
                rcases List.mem_append.mp hr with hr | hr
                · exact List.mem_append_left _ hr
                · exact List.mem_append_right _ (.tail _ (.tail _ (List.mem_append_right _ (.tail _ (List.mem_append_left _ hr)))))
              · have h1 := fold_len (c := 6) ((predRows prs (look bl) v).take i) [v] fun xs hxs => hrl xs (List.mem_of_mem_take hxs)
                have h2 : ((predRows prs (look bl) v).take i).length ≤ 11 := by
                  rw [List.length_take]; lia
                rw [List.length_singleton] at h1
                lia
              have hlt7 : ∀ r ∈ (DD, LCg.lst ys) :: (s1.heap.objs.size + 1 + 1 + 1, o5) :: (s1.heap.objs.size + 1 + 1 + 1 + 1, cb) :: (bd, obW) :: (ext ++ ((wlW, listOf (vp ++ vq).toArray kW4) :: (ol, listOf ows.toArray kO) :: (So.led w (soW x dx d o8 t1 t2 t3 t4 D ⟨ndsW, aW, taW, bW, tbW, kDW, cn, cb, obW, kvs, ows, kO, wlW, vp ++ .int v tv :: vq, kW, bls, O, p ++ v :: q, bl⟩) ++ (D, listOf ([] : List Value).toArray kDW) :: (bls ++ R4)))), r.1 < l7 := allLt_at l71
              have hS9 : ∀ r ∈ (s1.heap.objs.size + 1 + 1 + 1, o5) :: (s1.heap.objs.size + 1 + 1 + 1 + 1, cb) :: (bd, obW) :: (wlW, listOf (vp ++ vq).toArray kW4) :: (ol, listOf ows.toArray kO) :: (So.led w (soW x dx d o8 t1 t2 t3 t4 D ⟨ndsW, aW, taW, bW, tbW, kDW, cn, cb, obW, kvs, ows, kO, wlW, vp ++ .int v tv :: vq, kW, bls, O, p ++ v :: q, bl⟩) ++ (D, listOf ([] : List Value).toArray kDW) :: (bls ++ R4)), r.1 ≠ S := by
                intro r hr
                have hr' : r ∈ (DD, LCg.lst ys) :: (s1.heap.objs.size + 1 + 1 + 1, o5) :: (s1.heap.objs.size + 1 + 1 + 1 + 1, cb) :: (bd, obW) :: (ext ++ ((wlW, listOf (vp ++ vq).toArray kW4) :: (ol, listOf ows.toArray kO) :: (So.led w (soW x dx d o8 t1 t2 t3 t4 D ⟨ndsW, aW, taW, bW, tbW, kDW, cn, cb, obW, kvs, ows, kO, wlW, vp ++ .int v tv :: vq, kW, bls, O, p ++ v :: q, bl⟩) ++ (D, listOf ([] : List Value).toArray kDW) :: (bls ++ R4)))) := by
                  rcases List.mem_cons.mp hr with rfl | hr
                  · exact .tail _ (.head _)
                  · rcases List.mem_cons.mp hr with rfl | hr
                    · exact .tail _ (.tail _ (.head _))
                    · rcases List.mem_cons.mp hr with rfl | hr
                      · exact .tail _ (.tail _ (.tail _ (.head _)))
                      · exact .tail _ (.tail _ (.tail _ (.tail _ (List.mem_append_right _ hr))))
                exact hS8 r (.tail _ hr') (Nat.ne_of_lt (hlt7 r hr'))
              have N9 : News T0.heap s1.heap.objs.size h8 ((bd, obW) :: (ol, listOf ows.toArray kO) :: (s1.heap.objs.size + 1 + 1 + 1, o5) :: (s1.heap.objs.size + 1 + 1 + 1 + 1, cb) :: (wlW, listOf (vp ++ vq).toArray kW4) :: (S, listOf ws.toArray n8) :: (So.led w (soW x dx d o8 t1 t2 t3 t4 D ⟨ndsW, aW, taW, bW, tbW, kDW, cn, cb, obW, kvs, ows, kO, wlW, vp ++ .int v tv :: vq, kW, bls, O, p ++ v :: q, bl⟩) ++ (D, listOf ([] : List Value).toArray kDW) :: (bls ++ R4))) := by
                intro r hr
                refine N8 r ?_
                rcases List.mem_cons.mp hr with rfl | hr
                · exact .tail _ (.tail _ (.tail _ (.tail _ (.tail _ (.head _)))))
                rcases List.mem_cons.mp hr with rfl | hr
                · exact .tail _ (.tail _ (.tail _ (.tail _ (.tail _ (.tail _ (List.mem_append_right _ (.tail _ (.head _))))))))
                rcases List.mem_cons.mp hr with rfl | hr
                · exact .tail _ (.tail _ (.tail _ (.head _)))
                rcases List.mem_cons.mp hr with rfl | hr
                · exact .tail _ (.tail _ (.tail _ (.tail _ (.head _))))
                rcases List.mem_cons.mp hr with rfl | hr
                · exact .tail _ (.tail _ (.tail _ (.tail _ (.tail _ (.tail _ (List.mem_append_right _ (.head _)))))))
                rcases List.mem_cons.mp hr with rfl | hr
                · exact .head _
                · exact .tail _ (.tail _ (.tail _ (.tail _ (.tail _ (.tail _ (List.mem_append_right _ (.tail _ (.tail _ hr))))))))
              have s1' : @Ne Nat S bd := Ne.symm (hS9 _ (.tail _ (.tail _ (.head _))))
              have s2' : @Ne Nat S ol := Ne.symm (hS9 _ (.tail _ (.tail _ (.tail _ (.tail _ (.head _))))))
              have hzK : kvs.length ≤ sizeLine := by
                rw [hrows.length, sizeLine_eq]
                have h1 := congrArg List.length hbw.1
                rw [List.length_map] at h1
                lia
              have hzO2 : ows.toArray.size ≤ sizeLine := by rw [List.size_toArray]; exact hzO
              dsimp only [So.led, List.cons_append, soDict, soW] at N9
              (try clear N7)
              (try clear F7)
              (try clear N8)
              (try clear l71)
              (try clear hlt7)
              (try clear hS8)
              (try clear hDD)
              k_steps
              unfold Stop
              rename_i h9 ob9 hdb9 tk9 h10 F10 N10
              (try clear e1)
              (try clear e6)
              (try clear e10)
              (try clear e13)
              (try clear e15)
              (try clear s1')
              (try clear s2')
              (try clear hD0)
              (try clear hls)
              (try clear hP)
              (try clear hrl)
              (try clear hpl)
              (try clear hzC)
              have hcn9 : ∃ z, o5.data = .cell z := ⟨_, d5⟩
              (try clear d5)
              have hN := nds_F hiv.vw
              have hvO : v ∉ O := fun hm => (List.nodup_append.mp hiv.nod).2.2 v hm v (List.mem_append_right _ (.head _)) rfl
              obtain ⟨nd, hnd, hndk⟩ : ∃ nd ∈ ndsW, nd.k = v := by
                have h1 : v ∈ ndsW.map (·.k) := hN.2 ▸ hvk.1
                obtain ⟨nd, a1, a2⟩ := List.mem_map.mp h1
                exact ⟨nd, a1, a2⟩
              have hndp : nd.np = -1 := by
                rw [(hN.1 nd hnd).2.1, hndk]
                unfold FO
                rw [if_neg hvO, if_pos (List.mem_append_right _ (.head _))]
              have hnds : nd.succ = sucs prs v := by
                rw [(hN.1 nd hnd).2.2, hndk]; rfl
              obtain ⟨l', rr, hdone, hiv', hrk, hsk⟩ := hiv.step hps
              have hnl : nd.succ.length ≤ 1000 := by
                rw [hnds]
                unfold sucs
                rw [List.length_map]
                exact Nat.le_trans (List.length_filter_le _ _) (by lia)
              have hsc : ∀ z ∈ nd.succ, z ∈ ndsW.map (·.k) := fun z hz => by
                rw [hN.2]
                rw [hnds] at hz
                exact (hps _ (mem_sucs.mp hz)).2
              have P10 := perm_d (So.led w (soW x dx d o8 t1 t2 t3 t4 D ⟨ndsW, aW, taW, bW, tbW, kDW, cn, cb, obW, kvs, ows, kO, wlW, vp ++ Value.int v tv :: vq, kW, bls, O, p ++ v :: q, bl⟩)) (bls ++ R4) (D, listOf ([] : List Value).toArray kDW) (bd, ob9) (ol, listOf (ows ++ [Value.int v tv]).toArray (kO + 1)) (s1.heap.objs.size + 1 + 1 + 1, o5) (s1.heap.objs.size + 1 + 1 + 1 + 1, cb) (wlW, listOf (vp ++ vq).toArray kW4) (S, listOf ws.toArray n8)
              rw [show ows.toArray.push (Value.int v tv) = (ows ++ [Value.int v tv]).toArray from by simp] at N10
              have N11 := News.perm (show News T0.heap s1.heap.objs.size h10 ((bd, ob9) :: (ol, listOf (ows ++ [Value.int v tv]).toArray (kO + 1)) :: (s1.heap.objs.size + 1 + 1 + 1, o5) :: (s1.heap.objs.size + 1 + 1 + 1 + 1, cb) :: (wlW, listOf (vp ++ vq).toArray kW4) :: (S, listOf ws.toArray n8) :: (So.led w (soW x dx d o8 t1 t2 t3 t4 D ⟨ndsW, aW, taW, bW, tbW, kDW, cn, cb, obW, kvs, ows, kO, wlW, vp ++ Value.int v tv :: vq, kW, bls, O, p ++ v :: q, bl⟩) ++ (D, listOf ([] : List Value).toArray kDW) :: (bls ++ R4))) from N10) P10
              have A9 := Ap.perm (List.perm_middle (l₁ := [(s1.heap.objs.size + 1 + 1 + 1, cn), (s1.heap.objs.size + 1 + 1 + 1 + 1, cb), (bd, obW)]) (a := (wlW, listOf (vp ++ Value.int v tv :: vq).toArray kW))).symm (Ap.perm P1 ok.ap)
              have A10 := Ap.cons (p := (S, listOf ws.toArray n8)) hS9 (Ap.same (by simp) A9)
              have P11 := perm_f (So.led w (soW x dx d o8 t1 t2 t3 t4 D ⟨ndsW, aW, taW, bW, tbW, kDW, cn, cb, obW, kvs, ows, kO, wlW, vp ++ Value.int v tv :: vq, kW, bls, O, p ++ v :: q, bl⟩)) (bls ++ R4) (D, listOf ([] : List Value).toArray kDW) (bd, obW) (ol, listOf ows.toArray kO) (s1.heap.objs.size + 1 + 1 + 1, o5) (s1.heap.objs.size + 1 + 1 + 1 + 1, cb) (wlW, listOf (vp ++ vq).toArray kW4) (S, listOf ws.toArray n8)
              have A11 := Ap.perm P11 A10
              have ok11 : So.Ok Challenge.rw_ik0123_01.row.prog w (soW x dx d o8 t1 t2 t3 t4 D ⟨ndsW, aW, taW, bW, tbW, kDW, cn, cb, obW, kvs, ows, kO, wlW, vp ++ Value.int v tv :: vq, kW, bls, O, p ++ v :: q, bl⟩) ((D, listOf ([] : List Value).toArray kDW) :: (s1.heap.objs.size + 1 + 1 + 1, o5) :: (s1.heap.objs.size + 1 + 1 + 1 + 1, cb) :: (bd, ob9) :: (ol, listOf (ows ++ [Value.int v tv]).toArray (kO + 1)) :: (wlW, listOf (vp ++ vq).toArray kW4) :: (S, listOf ws.toArray n8) :: (bls ++ R4)) :=
                ⟨ok.mod, ok.dict, ok.its, ok.keys, Ap.same (by simp) A11⟩
              (try clear N10)
              (try clear P10)
              (try clear A9)
              (try clear A10)
              (try clear P11)
              (try clear A11)
              (try clear P1)
              (try clear ok)
              (try clear hS9)
              subst hndk
              refine done_spec (S := soW x dx d o8 t1 t2 t3 t4 D ⟨ndsW, aW, taW, bW, tbW, kDW, cn, cb, obW, kvs, ows, kO, wlW, vp ++ Value.int nd.k tv :: vq, kW, bls, O, p ++ nd.k :: q, bl⟩) (D := D) (kD := kDW) (ys := []) (r := []) (n := nd) rfl .nil hnd hndp hsc (by decide) hnl B0 F10 X0 T0 N11 ok11 rfl rfl (by decide) fun nds12 tb12 kD12 ys12 h12 tk12 F12 N12 ok12 hab12 hys12 => ?_
              have hab12 : nds12.map Nd.ab = l' := hab12.trans (congrArg Prod.fst hdone)
              have hys12 : IntsAre ys12 rr := by
                have h1 := congrArg Prod.snd hdone
                have h2 : IntsAre ys12 (doneA (ndsW.map Nd.ab) [] nd.k).2 := hys12
                rw [h1] at h2
                exact h2
              have hks12 : nds12.map (·.k) = ks := by
                have h1 := congrArg (List.map (·.1)) hab12
                have h2 : l'.map (·.1) = ks := by
                  have h3 := hiv'.vw.keys
                  have h4 : ∀ (r : List Int) (l : List (Int × Int × List Int)), (outA l r).map (·.1) = l.map (·.1) := by
                    intro r
                    induction r with
                    | nil => intro l; rfl
                    | cons z r ih =>
                      intro l
                      refine (ih (turnA l z outF)).trans ?_
                      unfold turnA
                      rw [List.map_map]
                      refine List.map_congr_left fun e _ => ?_
                      dsimp only [Function.comp]
                      by_cases hz : e.1 = z
                      · rw [if_pos hz, hz]
                      · rw [if_neg hz]
                  rw [← h3, h4]
                rw [List.map_map] at h1
                exact h1.trans h2
              have hrl : rr.length ≤ 6 := Nat.le_trans (nodup_len (List.nodup_append.mp (List.nodup_append.mp hiv'.nod).2.1).2.1 hrk) (ks_len hksn hks)
              have hlen12 : nds12.length ≤ 900 := by
                have h1 := congrArg List.length hks12
                rw [List.length_map] at h1
                have := ks_len hksn hks
                lia
              dsimp only [soW] at N12 ok12
              (try clear N11)
              (try clear ok11)
              (try clear F10)
              have N13 := N12
              dsimp only [So.led, List.cons_append, soDict] at N13
              k_steps
              unfold Stop
              refine ready_spec (S := So.mk x dx d o8 t1 t2 t3 t4 (.ref D) aW taW (bW + 1) tb12 nds12) (D := D) (kD := kD12) (ys := ys12) (r := rr) (rest := (s1.heap.objs.size + 1 + 1 + 1, o5) :: (s1.heap.objs.size + 1 + 1 + 1 + 1, cb) :: (bd, ob9) :: (ol, listOf (ows ++ [Value.int nd.k tv]).toArray (kO + 1)) :: (wlW, listOf (vp ++ vq).toArray kW4) :: (S, listOf ws.toArray n8) :: (bls ++ R4)) rfl hys12 (fun z hz => by dsimp only; rw [hks12]; exact hrk z hz) (by lia) B0 F12 X0 T0 N12 ok12 rfl rfl (by decide) hlen12 fun T13 nds13 ta13 kD13 h13b tk13 F13 N13b ok13 hab13 => ?_
              (try clear N12)
              (try clear N13)
              (try clear ok12)
              (try clear F12)
              have N14 := News.perm N13b List.perm_middle
              have hzT : ys12.toArray.size ≤ sizeLine := by
                rw [List.size_toArray, hys12.length, sizeLine_eq]; lia
              dsimp only at N14 ok13
              (try clear N13b)
              k_steps
              unfold Stop
              rename_i l15 c15 h15b F15 N15 l151
              have hwm : (wlW, listOf (vp ++ vq).toArray kW4) ∈ So.led w (So.mk x dx d o8 t1 t2 t3 t4 (.ref D) (aW + (rr.length : Int)) ta13 (bW + 1) tb12 nds13) ++ (D, listOf ([] : List Value).toArray kD13) :: (s1.heap.objs.size + 1 + 1 + 1, o5) :: (s1.heap.objs.size + 1 + 1 + 1 + 1, cb) :: (bd, ob9) :: (ol, listOf (ows ++ [Value.int nd.k tv]).toArray (kO + 1)) :: (wlW, listOf (vp ++ vq).toArray kW4) :: (S, listOf ws.toArray n8) :: (bls ++ R4) :=
                List.mem_append_right _ (.tail _ (.tail _ (.tail _ (.tail _ (.tail _ (.head _))))))
              have hpql : (p ++ q).length ≤ 6 := by
                rw [List.length_append, List.length_cons] at hOl
                rw [List.length_append]
                lia
              refine add_listK F15 N15 (.tail _ (.tail _ hwm)) (.head _) hpq hys12 (by lia) fun l16 h16 hl16 F16 N16 lt16 hi16 => ?_
              have hvO2 : kvs.map (·.1) = O := hrows.keys.trans hbw.1
              have hst9 : stored kvs nd.k (Value.ref S) = kvs ++ [(nd.k, Value.ref S)] := stored_new (by rw [hvO2]; exact hvO)
              have hlen16 : O.length + 1 ≤ 6 := by
                rw [List.length_append, List.length_cons] at hOl
                lia
              have hap16 : Ap (So.led w (So.mk x dx d o8 t1 t2 t3 t4 (.ref D) (aW + (rr.length : Int)) ta13 (bW + 1) tb12 nds13) ++ (D, listOf ([] : List Value).toArray kD13) :: (s1.heap.objs.size + 1 + 1 + 1, o5) :: (s1.heap.objs.size + 1 + 1 + 1 + 1, cb) :: (bd, ob9) :: (ol, listOf (ows ++ [Value.int nd.k tv]).toArray (kO + 1)) :: (l16, listOf ((vp ++ vq) ++ ys12).toArray 0) :: ((S, listOf ws.toArray n8) :: bls ++ R4)) :=
                Ap.swap_in (a := (wlW, listOf (vp ++ vq).toArray kW4)) ok13.less.ap fun z hz => lt16 z (.tail _ (.tail _ hz))
              have N17 : News T0.heap s1.heap.objs.size h16 (So.led w (So.mk x dx d o8 t1 t2 t3 t4 (.ref D) (aW + (rr.length : Int)) ta13 (bW + 1) tb12 nds13) ++ (D, listOf ([] : List Value).toArray kD13) :: (s1.heap.objs.size + 1 + 1 + 1, o5) :: (s1.heap.objs.size + 1 + 1 + 1 + 1, cb) :: (bd, ob9) :: (ol, listOf (ows ++ [Value.int nd.k tv]).toArray (kO + 1)) :: (l16, listOf ((vp ++ vq) ++ ys12).toArray 0) :: ((S, listOf ws.toArray n8) :: bls ++ R4)) := by
                intro z hz
                refine N16 z ?_
                rcases List.mem_cons.mp ((perm_b (So.led w (So.mk x dx d o8 t1 t2 t3 t4 (.ref D) (aW + (rr.length : Int)) ta13 (bW + 1) tb12 nds13)) ((S, listOf ws.toArray n8) :: bls ++ R4) (l16, listOf ((vp ++ vq) ++ ys12).toArray 0) _ _ _ _ _).mem_iff.mpr hz) with rfl | hz
                · exact .head _
                · exact .tail _ (.tail _ (.tail _ ((perm_b (So.led w (So.mk x dx d o8 t1 t2 t3 t4 (.ref D) (aW + (rr.length : Int)) ta13 (bW + 1) tb12 nds13)) ((S, listOf ws.toArray n8) :: bls ++ R4) (wlW, listOf (vp ++ vq).toArray kW4) _ _ _ _ _).mem_iff.mp (.tail _ hz))))
              (try clear N15)
              (try clear N16)
              (try clear F15)
              (try clear hwm)
              (try clear N14)
              k_steps
              rename Fr _ _ _ _ => F18
              rename News _ _ _ _ => N18
              subst hRR4
              refine WhEndS.intro (n - 1) ⟨nds13, aW + rr.length, ta13, bW + 1, tb12, kD13, o5, cb, ob9, kvs ++ [(nd.k, .ref S)], ows ++ [Value.int nd.k tv], kO + 1, l16, (vp ++ vq) ++ ys12, 0, (S, listOf ws.toArray n8) :: bls, O ++ [nd.k], (p ++ q) ++ rr, bl ++ [(nd.k, rowOf prs (look bl) nd.k)]⟩ (by lia) F18 (fun y => ovr_one _ y) N18 ⟨?_, ⟨?_, hbw.step fun z hz e => cntO_zero.mp hvk.2 z hz e, ?_, ?_, hows.append (.cons _ _ .nil), hi16, (hrows.mono fun z hz => .tail _ hz).snoc (.head _) hws, hcn9⟩, ⟨ok13.mod, ok13.dict, ok13.its, ok13.keys, hap16⟩, hcb, ?_⟩ _ (.inl rfl)
              · dsimp only
                rw [List.length_append, List.length_singleton]
                lia
              · have h19 : nds13.map Nd.ab = outA (nds12.map Nd.ab) rr := hab13
                dsimp only
                rw [h19, hab12]
                exact hiv'
              · dsimp only
                rw [hsa]
                simp only [List.length_append, List.length_cons, List.length_nil]
                lia
              · dsimp only
                rw [hsb, List.length_append, List.length_singleton]
                lia
              · dsimp only
                rw [← hst9]
                exact hdb9)
end Mine
end

theorem PySem.Challenge.cw_ik0123_01_holds : PySem.Challenge.rw_ik0123_01.Holds := by
  exact Mine.law_holds
